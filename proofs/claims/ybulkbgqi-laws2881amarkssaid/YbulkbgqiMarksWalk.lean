import Derived.Test.YbulkbgqiState
namespace Go.Proofs.Ybulkbgqi
open Go.RowKit
set_option linter.unusedVariables false

/-- The steps that came in. -/
structure StepRow (w : World) (a : Option Addr) (n : Nat) (I : Nat → Nat) (B : Nat → Bool) : Prop where
  size : ∀ j, I j ≤ 65535
  cells : 0 < n → ∃ b off, a = some ⟨b, off, none⟩ ∧ b < w.heap.size ∧ ∀ j, j < n → w.cell? ⟨b, off + j * 2, none⟩ = some (.int .u16 ((I j : Nat) : Int)) ∧ w.cell? ⟨b, off + j * 2 + 1, none⟩ = some (.bool (B j))

theorem StepRow.below {w w' : World} {a : Option Addr} {n : Nat} {I : Nat → Nat} {B : Nat → Bool} (h : StepRow w a n I B) (hb : Below w.heap.size w w') : StepRow w' a n I B := by
  refine ⟨h.size, fun hn => ?_⟩
  obtain ⟨b, off, e, hlt, hc⟩ := h.cells hn
  exact ⟨b, off, e, Nat.lt_of_lt_of_le hlt hb.size, fun j hj => ⟨(hb.cell (p := ⟨b, off + j * 2, none⟩) hlt).trans (hc j hj).1, (hb.cell (p := ⟨b, off + j * 2 + 1, none⟩) hlt).trans (hc j hj).2⟩⟩

/-- A fresh record of grants. -/
def gzero : Obj := .cells #[.slice none 0 0, .int .i64 0, .int .i64 0, .int .i64 0, .int .i64 0, .int .i64 0, .int .i64 0, .int .i64 0, .int .i64 0, .int .u8 0, .map none, .pointer none] 31

theorem GC.start (w : World) (md : Nat → Nat) : GC w (w.alloc gzero) w.heap.size 0 0 md (.slice none 0 0) ∧ GI w (w.alloc gzero) w.heap.size 0 (.slice none 0 0) := by
  have hb := heap_alloc_new w gzero
  have hk : ∀ b, b < w.heap.size → (w.alloc gzero).heap[b]? = w.heap[b]? := fun b hb => Below.heap_alloc _ _ _ hb
  have hs : (w.alloc gzero).heap.size = w.heap.size + 1 := by simp
  have hbel : Below w.heap.size w (w.alloc gzero) := ⟨rfl, rfl, rfl, by omega, hk⟩
  generalize w.alloc gzero = W at hb hbel hs ⊢
  refine ⟨⟨hbel, Nat.le_refl _, by omega, by simp [World.cell?, hb, gzero], World.ownsRow_nil _ _ _ _, by simp [Value.ownBlock], by simp [World.cell?, hb, gzero], fun m hm => ⟨0, by omega, ?_⟩, ⟨0, by simp [World.cell?, hb, gzero]⟩, by simp [World.cell?, hb, gzero], fun o => by simp [World.frozen?, hb, gzero]⟩, .inl ⟨by omega, by simp [World.cell?, hb, gzero]⟩⟩
  match m, hm with
  | 0, _ => simp [World.cell?, hb, gzero]
  | 1, _ => simp [World.cell?, hb, gzero]
  | 2, _ => simp [World.cell?, hb, gzero]
  | 3, _ => simp [World.cell?, hb, gzero]
  | 4, _ => simp [World.cell?, hb, gzero]
  | 5, _ => simp [World.cell?, hb, gzero]
  | 6, _ => simp [World.cell?, hb, gzero]
  | m + 7, h => omega

/-- Behind the adds, and the model is made. -/
theorem ST.start {w0 w : World} {G gl k cap : Nat} {md : Nat → Nat} (h : GC w0 w G k k md (.slice (some ⟨gl, 0, none⟩) k cap)) : ST w0 (w.alloc (.cells (madeCells #[.bool false] k) 4)) G gl k cap w.heap.size md false (fun _ => false) := by
  have hk : ∀ b, b < w.heap.size → (w.alloc (.cells (madeCells #[.bool false] k) 4)).heap[b]? = w.heap[b]? := fun b hb => Below.heap_alloc _ _ _ hb
  have hs : (w.alloc (.cells (madeCells #[.bool false] k) 4)).heap.size = w.heap.size + 1 := by simp
  have hl := row_lt h.row gl rfl
  have hM := MO.made w k
  have hbel : Below w0.heap.size w (w.alloc (.cells (madeCells #[.bool false] k) 4)) := ⟨rfl, rfl, rfl, by omega, fun b hb => hk b (by have := h.bel.size; omega)⟩
  generalize w.alloc (.cells (madeCells #[.bool false] k) 4) = W at hk hs hM hbel ⊢
  have cG : ∀ o, W.cell? ⟨G, o, none⟩ = w.cell? ⟨G, o, none⟩ := fun o => World.cell?_of_block (w := w) (hk G h.hG1)
  have cL : ∀ o, W.cell? ⟨gl, o, none⟩ = w.cell? ⟨gl, o, none⟩ := fun o => World.cell?_of_block (w := w) (hk gl hl.2)
  have hG1 := h.hG1
  refine ⟨⟨h.bel.trans hbel, h.hG0, by omega, by omega, fun e => h.neG (by rw [e]; rfl), (cG 0).trans h.c0, (cG 1).trans h.c1, fun j hj => ⟨?_, ?_⟩, fun o => (World.frozen?_of_block (w := w) (hk G h.hG1)).trans (h.free o)⟩, .inl ⟨rfl, (cG 11).trans h.wait, fun _ _ => rfl⟩, hM, by omega, by omega, h.bel.size⟩
  · rw [cL]; exact row_get h.row (j * 3) _ (by have := gcells_get md 0 (by omega) k j hj; simpa [gcell] using this)
  · rw [cL]; exact row_get h.row (j * 3 + 1) _ (by have := gcells_get md 1 (by omega) k j hj; simpa [gcell] using this)

set_option maxHeartbeats 2000000 in
set_option maxRecDepth 1000000 in
theorem marks_walk (a st : Option Addr) (n cap ns cs : Nat) (zs : List Int) (I : Nat → Nat) (B : Nat → Bool) (w : World) (hn : n ≤ 1024) (hns : ns ≤ 1024) (hZ : ByteRow w a n zs) (hS : StepRow w st ns I B) :
    Calls Yba.prog 3 #[.slice a n cap, .slice st ns cs] w fun e w' => e = .returned (.bool true) ∧ Below w.heap.size w w' := by
  have HZ := hideIt hZ
  have HS := hideIt hS
  obtain ⟨md, hmd⟩ : ∃ md, md = mdOf n zs := ⟨_, rfl⟩
  have HMD := hideIt hmd
  have hrng : ∀ j, 1 ≤ md j ∧ md j ≤ 6 := fun j => by rw [hmd]; exact mdOf_rng n zs j
  have HR := hideIt hrng
  have HST := hideIt (GC.start w md)
  clear hZ hS hmd hrng
  go_enter Yba.func3, Yba.ntmps3
  go_wp2_with fail
  go_loopw [7] (fun iv wr => ∃ i : Nat, iv = .int .i64 (i : Int) ∧ i ≤ n + 1 ∧ ∃ v, GC w wr w.heap.size i i md v ∧ GI w wr w.heap.size i v) (fun iv _ => n + 1 - (intOf iv).toNat)
  case atStart => exact ⟨0, rfl, Nat.zero_le _, _, HST.out⟩
  case round =>
    obtain ⟨i, rfl, hi, v, hC, hI⟩ := hrel
    by_cases hlt : i < n + 1
    · have hlti : (i : Int) < (n : Int) + 1 := by omega
      have hmode := amode_any a n cap i zs wr hn (by omega) (HZ.out.below hC.bel)
      have hadd := gadd_any w wr w.heap.size i md v (by omega) HR.out hC hI
      rw [← HMD.out] at hmode
      have HMODE := hideIt hmode
      have HADD := hideIt hadd
      clear hmode hadd hC hI
      go_wp2_with fail
      refine HMODE.out.mono ?_
      rintro e w' ⟨rfl, rfl⟩
      go_wp2_with fail
      refine HADD.out.mono ?_
      rintro e w2 ⟨rfl, v', hC', hI'⟩
      have HC' := hideIt hC'
      have HI' := hideIt hI'
      clear hC' hI'
      go_wp2
      go_roundw
      case rel => exact ⟨i + 1, by simp, by omega, v', HC'.out, HI'.out⟩
      case measure => simp [intOf]; omega
    · have hik : i = n + 1 := by omega
      subst hik
      obtain ⟨gl, cp, rfl⟩ := row_some hC.row (by omega)
      have hmk : (Instr.makeSlice 37 (.int .i64 ((n : Int) + 1)) (.int .i64 ((n : Int) + 1))).run Yba.prog wr = .ok (.slice (some ⟨wr.heap.size, 0, none⟩) (n + 1) (n + 1)) (wr.alloc (.cells (madeCells #[.bool false] (n + 1)) 4)) := by
        have := make_model (n + 1) (by omega) wr
        rwa [show ((n + 1 : Nat) : Int) = (n : Int) + 1 from by omega] at this
      have hST := ST.start hC
      obtain ⟨M, hM⟩ : ∃ M, M = wr.heap.size := ⟨_, rfl⟩
      rw [← hM] at hST hmk
      have HST2 := hideIt hST
      clear hI hlt hi HST hC hST hM
      go_wp2_with fail
      clear hmk
      go_loopw [47, 9] (fun sv av ws => ∃ (s : Nat) (any : Bool) (mo : Nat → Bool), sv = .int .i64 (s : Int) ∧ av = .bool any ∧ s ≤ ns ∧ ST w ws w.heap.size gl (n + 1) cp M md any mo) (fun sv _ _ => ns - (intOf sv).toNat)
      case atStart => exact ⟨0, false, _, rfl, rfl, Nat.zero_le _, HST2.out⟩
      case round =>
        obtain ⟨s, any, mo, rfl, rfl, hs, hT⟩ := hrel
        by_cases hlt : s < ns
        · have hlts : (s : Int) < (ns : Int) := by omega
          obtain ⟨b, off, rfl, hb, hcell⟩ := (HS.out.below hT.gp.bel).cells (by omega)
          obtain ⟨y0, y1⟩ := hcell s hlt
          have hI1 := HS.out.size s
          obtain ⟨x, hx⟩ : ∃ x, x = I s := ⟨_, rfl⟩
          rw [← hx] at y0 hI1
          obtain ⟨bb, hbb⟩ : ∃ bb, bb = B s := ⟨_, rfl⟩
          rw [← hbb] at y1
          obtain ⟨q, hq⟩ : ∃ q, q = x % (n + 1) := ⟨_, rfl⟩
          have hqe : (x : Int) % ((n : Int) + 1) = (q : Int) := by rw [hq]; simp
          have hqn : q < n + 1 := by rw [hq]; exact Nat.mod_lt _ (by omega)
          have hqi : (q : Int) < (n : Int) + 1 := by omega
          obtain ⟨p1, p2, p3⟩ := hT.ahead (.cells #[.int .u16 (x : Int), .bool bb] 40)
          have hmark := mark_any w (wr.alloc (.cells #[.int .u16 (x : Int), .bool bb] 40)) w.heap.size gl (n + 1) cp q md [wr.heap.size, w.heap.size, gl, M] any mo bb hqn (by omega) HR.out (by simp) (by simp) p3 p1 p2
          have HMARK := hideIt hmark
          have HT := hideIt hT
          have hc1 : (wr.alloc (.cells #[.int .u16 (x : Int), .bool bb] 40)).cell? ⟨wr.heap.size, 1, none⟩ = some (.bool bb) := by simp
          have HC1 := hideIt hc1
          clear hT hcell hx hbb hmark p1 p2 p3 hc1 hq
          go_wp2_with fail
          refine HMARK.out.mono ?_
          rintro e w3 ⟨rfl, hp⟩
          obtain ⟨⟨d1, d2, d3, d4⟩, hT'⟩ := HT.out.after hqn hp
          have e3 := (d3 1).trans HC1.out
          have e4 := (d4 1 (.bool bb)).trans HC1.out
          have hmk : ∀ nn, Calls Yba.prog 8 #[.pointer (some ⟨w.heap.size, 0, none⟩), .int .i64 (q : Int)] ((w3.setCell ⟨M, q, none⟩ (.bool bb)).drewN nn) fun e w' => e = .returned (.bool bb) ∧ ∃ n', w' = ((w3.setCell ⟨M, q, none⟩ (.bool bb)).drewN nn).drewN n' := fun nn => by
            have hh := marked_any w _ w.heap.size gl (n + 1) cp q md _ _ _ hqn (by omega) HR.out (hT'.drewN nn).gp (hT'.drewN nn).mks
            rw [if_pos rfl] at hh
            exact hh
          have HMK := hideIt hmk
          have HT' := hideIt hT'
          clear d3 d4 hT' hmk hp HMARK HC1 y0 y1
          cases bb with
          | true =>
            go_wp2_with fail
            go_quiet ((go_at_call 8; exact Calls.quiet_of (HMK.out _)))
            go_wp2_with fail
            go_roundw
            case rel => ((repeat apply Exists.intro); exact ⟨⟨s + 1, any || true, _, by simp, by simp, by omega, HT'.out.drewN _⟩, rfl⟩)
            case measure => simp [intOf]; omega
          | false =>
            go_wp2_with fail
            go_quiet ((go_at_call 8; exact Calls.quiet_of (HMK.out _)))
            go_wp2_with fail
            go_roundw
            case rel => ((repeat apply Exists.intro); exact ⟨⟨s + 1, any || false, _, by simp, by simp, by omega, HT'.out.drewN _⟩, rfl⟩)
            case measure => simp [intOf]; omega
        · have hsn : s = ns := by omega
          subst hsn
          have c0 := hT.gp.c0
          have c1 := hT.gp.c1
          have HT := hideIt hT
          clear hT hlt hs
          go_wp2_with fail
          obtain ⟨w5, hw5⟩ : ∃ w5, w5 = wr := ⟨_, rfl⟩
          rw [← hw5] at HT c0 c1
          go_loopw [13] (fun iv ws => ∃ (i nn : Nat), iv = .int .i64 (i : Int) ∧ i ≤ n + 1 ∧ ws = w5.drewN nn) (fun iv _ => n + 1 - (intOf iv).toNat)
          case atStart => exact ⟨0, 0, rfl, Nat.zero_le _, hw5.symm⟩
          case round =>
            obtain ⟨i, nn, rfl, hi, hwr⟩ := hrel
            have HT6 : Hid (ST w wr w.heap.size gl (n + 1) cp M md any mo) := hideIt (by rw [hwr]; exact HT.out.drewN nn)
            have HW := hideIt hwr
            clear hw5 hwr c0 c1
            have c0 := HT6.out.gp.c0
            by_cases hlt : i < n + 1
            · have hlti : (i : Int) < (n : Int) + 1 := by omega
              obtain ⟨z0, z1⟩ := HT6.out.gp.cells i hlt
              have hA : ∀ qq, Calls Yba.prog 6 #[.slice a n cap, .int .i64 (i : Int)] (wr.drewN qq) fun e w' => e = .returned (.int .u8 ((md i : Nat) : Int)) ∧ w' = wr.drewN qq := fun qq => by
                have := amode_any a n cap i zs (wr.drewN qq) hn (by omega) (HZ.out.below (below_drewN HT6.out.gp.bel qq))
                rw [← HMD.out] at this
                exact this
              have HA := hideIt hA
              clear hA
              have hwu : IntKind.u64.wrap (i : Int) = (i : Int) := by rw [IntKind.wrap_u64]; omega
              have hbne : ((i : Int) != (i : Int)) = false := by simp
              have hbne2 : (((md i : Nat) : Int) != ((md i : Nat) : Int)) = false := by simp
              go_wp2_with fail
              go_quiet ((go_at_call 6; exact Calls.quiet_of_same (HA.out _)))
              go_wp2_with fail
              go_roundw
              case rel => exact ⟨i + 1, _, by simp, by omega, by rw [HW.out, World.drewN_drewN]⟩
              case measure => simp [intOf]; omega
            · have hik : i = n + 1 := by omega
              subst hik
              clear hlt hi
              clear c0
              rcases HT6.out.mks with ⟨rfl, h11, hz⟩ | ⟨rfl, A, V, WS, TP, FF, h11, hM⟩
              · clear hz
                go_wp2_with fail
                go_ret
                exact ⟨rfl, HT6.out.gp.bel⟩
              · have HM := hideIt hM
                clear hM
                go_wp2_with fail
                obtain ⟨w7, hw7⟩ : ∃ w7, w7 = wr := ⟨_, rfl⟩
                rw [← hw7] at HT6 HM h11
                go_loopw [14] (fun iv ws => ∃ (i nn : Nat), iv = .int .i64 (i : Int) ∧ i ≤ n + 1 ∧ ws = w7.drewN nn) (fun iv _ => n + 1 - (intOf iv).toNat)
                case atStart => exact ⟨0, 0, rfl, Nat.zero_le _, hw7.symm⟩
                case round =>
                  obtain ⟨i, nn, rfl, hi, hwr⟩ := hrel
                  clear hw7
                  by_cases hlt : i < n + 1
                  · have hlti : (i : Int) < (n : Int) + 1 := by omega
                    have HW7 := hideIt hwr
                    clear hwr
                    go_wp2_with fail
                    go_loopw [15] (fun mv ws => ∃ (m nn : Nat), mv = .int .i64 (m : Int) ∧ m ≤ 7 ∧ ws = w7.drewN nn) (fun mv _ => 7 - (intOf mv).toNat)
                    case atStart => exact ⟨0, nn, rfl, Nat.zero_le _, HW7.out⟩
                    case round =>
                      obtain ⟨m, n2, rfl, hm, hw2⟩ := hrel
                      have HT8 : Hid (ST w wr w.heap.size gl (n + 1) cp M md true mo) := hideIt (by rw [hw2]; exact HT6.out.drewN n2)
                      have HW8 := hideIt hw2
                      by_cases hm7 : m < 7
                      · have hm6 : (m : Int) ≤ 6 := by omega
                        have hMA : MA w wr A [w.heap.size, gl, M] V WS TP FF (fun m j => mo j && (md j == m)) := by rw [hw2]; exact HM.out.keep (Nat.le_refl _) (fun _ _ _ => rfl)
                        have k11 : wr.cell? ⟨w.heap.size, 11, none⟩ = some (.pointer (some ⟨A, 0, none⟩)) := by rw [hw2]; exact h11
                        have k0 := HT8.out.gp.c0
                        have k1 := (HT8.out.gp.cells i hlt).2
                        have kM := HT8.out.mo.cell i hlt
                        have hh := has_any A m i (V m) (WS m) (TP m) (FF m) wr (by omega) (hMA.cell m hm7) (hMA.ps m hm7)
                        rw [hMA.bits m hm7 i] at hh
                        have hwu : IntKind.u8.wrap (m : Int) = (m : Int) := by rw [IntKind.wrap_u8]; omega
                        obtain ⟨oi, hoi⟩ : ∃ oi, oi = mo i := ⟨_, rfl⟩
                        obtain ⟨mi, hmi⟩ : ∃ mi, mi = md i := ⟨_, rfl⟩
                        obtain ⟨be, hbe⟩ : ∃ be, be = (mi == m) := ⟨_, rfl⟩
                        have hbe2 : ((m : Int) == (mi : Int)) = be := by
                          rw [hbe]
                          by_cases e : mi = m
                          · subst e; simp
                          · have e1 : (mi == m) = false := by simpa using e
                            have e2 : ((m : Int) == (mi : Int)) = false := by simp; omega
                            rw [e1, e2]
                        rw [← hmi] at k1
                        rw [← hoi] at kM
                        have hh2 : Calls Yba.prog 9 #[.pointer (some ⟨A, m, none⟩), .int .i64 (i : Int)] wr fun e w' => e = .returned (.bool (oi && be)) ∧ ∃ n, w' = wr.drewN n := by rw [hoi, hbe, hmi]; exact hh
                        have HH := hideIt hh2
                        clear hh hh2 hMA hw2 hoi hmi hbe h11
                        cases oi with
                        | true =>
                          go_wp2_with fail
                          refine HH.out.mono ?_
                          rintro e w9 ⟨rfl, n9, rfl⟩
                          go_wp2_with fail
                          go_roundw
                          case rel => ((repeat apply Exists.intro); exact ⟨⟨m + 1, _, by simp, by omega, by rw [HW8.out, World.drewN_drewN]⟩, rfl⟩)
                          case measure => simp [intOf]; omega
                        | false =>
                          go_wp2_with fail
                          refine HH.out.mono ?_
                          rintro e w9 ⟨rfl, n9, rfl⟩
                          go_wp2_with fail
                          go_roundw
                          case rel => ((repeat apply Exists.intro); exact ⟨⟨m + 1, _, by simp, by omega, by rw [HW8.out, World.drewN_drewN]⟩, rfl⟩)
                          case measure => simp [intOf]; omega
                      · have hm7' : m = 7 := by omega
                        subst hm7'
                        clear hw2 hm7 hm
                        go_wp2_with fail
                        go_roundw
                        case rel => exact ⟨i + 1, _, by simp, by omega, HW8.out⟩
                        case measure => simp [intOf]; omega
                  · have hik : i = n + 1 := by omega
                    subst hik
                    clear hlt hi
                    have HW7 := hideIt hwr
                    clear hwr
                    go_wp2_with fail
                    go_loopw [17] (fun mv ws => ∃ (m nn : Nat), mv = .int .i64 (m : Int) ∧ m ≤ 7 ∧ ws = w7.drewN nn) (fun mv _ => 7 - (intOf mv).toNat)
                    case atStart => exact ⟨0, nn, rfl, Nat.zero_le _, HW7.out⟩
                    case round =>
                      obtain ⟨m, n2, rfl, hm, hw2⟩ := hrel
                      have HT8 : Hid (ST w wr w.heap.size gl (n + 1) cp M md true mo) := hideIt (by rw [hw2]; exact HT6.out.drewN n2)
                      have HW8 := hideIt hw2
                      by_cases hm7 : m < 7
                      · have hm6 : (m : Int) ≤ 6 := by omega
                        have hMA : MA w wr A [w.heap.size, gl, M] V WS TP FF (fun m j => mo j && (md j == m)) := by rw [hw2]; exact HM.out.keep (Nat.le_refl _) (fun _ _ _ => rfl)
                        have k11 : wr.cell? ⟨w.heap.size, 11, none⟩ = some (.pointer (some ⟨A, 0, none⟩)) := by rw [hw2]; exact h11
                        have hh := tree_any A m (V m) (WS m) (TP m) (FF m) wr (hMA.cell m hm7) (hMA.ps m hm7) (hMA.good m hm7)
                        have HH := hideIt hh
                        clear hh hMA hw2 h11
                        go_wp2_with fail
                        refine HH.out.mono ?_
                        rintro e w9 ⟨rfl, n9, rfl⟩
                        go_wp2_with fail
                        go_roundw
                        case rel => ((repeat apply Exists.intro); exact ⟨⟨m + 1, _, by simp, by omega, by rw [HW8.out, World.drewN_drewN]⟩, rfl⟩)
                        case measure => simp [intOf]; omega
                      · have hm7' : m = 7 := by omega
                        subst hm7'
                        clear hw2 hm7 hm
                        go_wp2_with fail
                        go_ret
                        exact ⟨rfl, HT8.out.gp.bel⟩

end Go.Proofs.Ybulkbgqi
