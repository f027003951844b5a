import Derived.Test.YbulkbgqiGrowS
import Derived.Deep.RegionLaw
namespace Go.Proofs.Ybulkbgqi
open Go.RowKit
set_option linter.unusedVariables false

/-- An append whose run is known, as one step of a region that draws. -/
theorem step_append_run {P : Program} {ops : Array Oper} {o : Oper} {a : Act} {w : World} {K : Act → World → Prop} {Q : Exit → Act → World → Prop} {E : Prop}
    (hg : o.guard = none) (s x : Operand) (t tn : TypeId) (hop : o.op = Op.call { callee := Callee.builtin Builtin.append, args := #[s, x], argTypes := #[t, tn] })
    (vs vx : Value) (hs : a.eval s = vs) (hx : a.eval x = vx) (v' : Value) (w' : World) (hr : (Builtin.append_ #[t, tn] o.type #[vs, vx]).run P w = .ok v' w') (hK : K (a.put o.dst v') w') :
    if Region.wanted o (yielded ops a.tmps) = true then Oper.wp P o a w K Q else E := by
  have hw : Region.wanted o (yielded ops a.tmps) = true := by simp [Region.wanted, hg]
  rw [if_pos hw]
  exact Lib.wp_append_run w s x t tn hop vs vx hs hx v' w' hr hK

theorem wrap_more (q len : Nat) (h1 : q ≤ 1000) (h2 : len ≤ 1000) : IntKind.i64.wrap (IntKind.i64.wrap ((q : Int) + 1) - (len : Int)) = (q : Int) + 1 - (len : Int) := by
  rw [IntKind.wrap_i64, IntKind.wrap_i64]; omega

theorem wrap_one (q : Nat) (h1 : q ≤ 16) : IntKind.i64.wrap (IntKind.i64.wrap ((q : Int) + 1) - 1) = (q : Int) := by
  rw [IntKind.wrap_i64, IntKind.wrap_i64]; omega

/-- The loop's heads: the start; the words below lie; the level above lies. -/
def GR (w : World) (A m i q : Nat) (F ws : List Nat) (l : Nat) (x : Int) (wr : World) : Prop :=
  (l = 0 ∧ x = (i : Int) ∧ wr = w) ∨
  (l = 1 ∧ x = (q : Int) ∧ ∃ ws1 top1 L nl cL g0 c0 g1 c1, S0 w wr A m F ws ws1 top1 L nl cL g0 c0 g1 c1 ∧ q < ws1.length) ∨
  (l = 2 ∧ x = 0 ∧ ∃ ws1 top1 L cL g0 c0 g1 c1, S0 w wr A m F ws ws1 top1 L 2 cL g0 c0 g1 c1 ∧ q < ws1.length)

theorem slice_one (w : World) (o : Obj) (x : Value) (t : TypeId) : ∀ j u, [x][j]? = some u → ((w.alloc o).alloc (.cells #[x] t)).cell? ((⟨w.heap.size + 1, 0, none⟩ : Addr).add j) = some u := by
  have h := cell_one_new (w.alloc o) x t
  rw [World.size_alloc] at h
  exact h

theorem one_slice (a : Option Addr) (n c : Nat) : ∀ u ∈ [Value.slice a n c], u.oneCell' = true := by
  intro u hu; simp at hu; subst hu; rfl

theorem own_some {w : World} {e : TypeId} {v : Value} {n : Nat} {xs : List Value} (h : w.ownsRow 0 e 1 v n xs) (hn : 0 < n) : ∃ L cL, v = .slice (some ⟨L, 0, none⟩) n cL := by
  obtain ⟨-, ⟨_, h0⟩ | ⟨g, cp, cur, hv, -⟩⟩ := h
  · omega
  · exact ⟨g, cp, hv⟩

theorem own_cap {w : World} {e : TypeId} {g n cap : Nat} {xs : List Value} (h : Own w e g n cap xs) : n ≤ cap := by
  obtain ⟨-, ⟨h2, _⟩ | ⟨g', cp, cur, hs, hg, hh, h3, h4, h5, h6⟩⟩ := h
  · cases h2
  · injection hs with a b c
    omega

set_option maxHeartbeats 1000000 in
set_option maxRecDepth 1000000 in
theorem grow_any (A m i q : Nat) (v : Value) (ws : List Nat) (top : Nat) (F : List Nat) (w : World) (hi : i ≤ 1024) (hq : (i : Int) / 64 = (q : Int)) (hA : A < w.heap.size) (hv : w.cell? ⟨A, m, none⟩ = some v) (hf : w.frozen? ⟨A, m, none⟩ = false)
    (hp : PSet w v ws top F) (ht : top < 18446744073709551616) (hG : Good ws top) (hAF : A ∉ F) :
    Calls Yba.prog 19 #[.pointer (some ⟨A, m, none⟩), .int .i64 (i : Int)] w fun e w' => e = .returned (.tuple #[]) ∧ ∃ ws1 top1 L nl cL g0 c0 g1 c1, S0 w w' A m F ws ws1 top1 L nl cL g0 c0 g1 c1 ∧ q < ws1.length ∧ (nl = 1 ↔ ws1.length = 1) := by
  have hq16 : q ≤ 16 := by omega
  have hq0 : (q : Int) / 64 = 0 := by omega
  obtain ⟨i67, hi67, hz67, hs67, hb67⟩ := info_parts info67
  go_enter Yba.func19, Yba.ntmps19
  go_wp2
  go_loopw [1, 4] (fun iv lv wr => ∃ (l : Nat) (x : Int), lv = .int .i64 (l : Int) ∧ iv = .int .i64 x ∧ GR w A m i q F ws l x wr) (fun _ lv _ => 3 - (intOf lv).toNat)
  case atStart => exact ⟨0, _, rfl, rfl, .inl ⟨rfl, rfl, rfl⟩⟩
  case round =>
    obtain ⟨l, x, rfl, rfl, hR⟩ := hrel
    rcases hR with ⟨rfl, rfl, rfl⟩ | ⟨rfl, rfl, ws1, top1, L, nl, cL, g0, c0, g1, c1, hS, hql⟩ | ⟨rfl, rfl, ws1, top1, L, cL, g0, c0, g1, c1, hS, hql⟩
    · rcases hp with ⟨rfl, rfl, rfl⟩ | ⟨L, nl, cL, g0, c0, g1, c1, rfl, hl, h1, h17, hiff, rfl⟩
      · go_wp2_with (at_builtin; refine wpList_append_own_at _ rfl _ _ 45 rfl 0 67 i67 (.slice none 0 0) 1 24 Yba.underlying45 hi67 hz67 hs67 hb67 rfl (by decide) _ _ _ rfl (World.ownsRow_nil _ _ _ _) ⟨wr.heap.size + 1, 0, none⟩ 1 1 [.slice (some ⟨wr.heap.size, 0, none⟩) 1 1] rfl rfl (slice_one _ _ _ _) (one_slice _ _ _) (by unfold maxLen; omega) (by omega) (Nat.zero_le _) ?_)
        intro v' w1 hown' hgrow _ hloc
        obtain ⟨L, cL, rfl⟩ := own_some hown' (by omega)
        have hL : L = wr.heap.size + 2 := by
          rcases hloc with e | e
          · exact absurd e (by simp [Value.ownBlock])
          · have e' := Option.some.inj e; simpa using e'
        obtain ⟨⟨a1, a2⟩, hS⟩ := S0.nil (F := []) (top := 0) hA hv hf (by omega) hown' hgrow hL
        have b1 := hS.cell
        have b2 := hS.lv.lev0
        rw [show ([0] : List Nat).length = 1 from rfl] at b2
        by_cases hlt : q = 0
        · have hqz : (q : Int) = 0 := by omega
          have hq2 : (i : Int) / 64 = 0 := by omega
          have HS := hideIt hS
          clear hown' hgrow hloc hL hS hq hqz hv hf hG hq0
          go_wp2
          go_roundw
          case rel => first | exact ⟨1, _, rfl, rfl, .inr (.inl ⟨rfl, by rw [hlt]; rfl, [0], 0, L, 1, cL, wr.heap.size, 1, 0, 0, HS.out, by rw [hlt]; decide⟩)⟩ | ((repeat apply Exists.intro); exact ⟨⟨1, _, rfl, rfl, .inr (.inl ⟨rfl, by rw [hlt]; rfl, [0], 0, L, 1, cL, wr.heap.size, 1, 0, 0, HS.out, by rw [hlt]; decide⟩)⟩, rfl⟩)
          case measure => simp [intOf]
        · have hge' : (1 : Int) ≤ (q : Int) := by omega
          have hown0 := hS.lv.ow0
          rw [show ([0] : List Nat).length = 1 from rfl] at hown0
          obtain ⟨g', c', w2, hrun, hown1, hg1, hloc1⟩ := run_zeros (w1.setCell ⟨A, m, none⟩ (.slice (some ⟨L, 0, none⟩) 1 cL)).drew 67 wr.heap.size 1 1 (q + 1 - 1) (([0] : List Nat).map word) (Own.keep hown0 rfl) (by omega) (by omega) (by omega)
          rw [show 1 + (q + 1 - 1) = q + 1 from by omega, show ((q + 1 - 1 : Nat) : Int) = (q : Int) + 1 - ((1 : Nat) : Int) from by omega] at hrun
          obtain ⟨⟨d1, d2, d3⟩, hS1⟩ := hS.ext hA (q := q) (by show 1 ≤ q; omega) hq16 hown1 hg1 hloc1
          rw [show ([0] : List Nat).length = 1 from rfl] at d2
          have hwr := wrap_more q 1 (by omega) (by omega)
          have HS1 := hideIt hS1
          have HRUN := hideIt hrun
          have hbits : q < (([0] : List Nat) ++ List.replicate (q + 1 - ([0] : List Nat).length) 0).length := by simp
          have HB := hideIt hbits
          clear hown' hgrow hloc hL hS hv hf hG hown0 hown1 hg1 hloc1 hS1 hrun hbits
          go_wp2
          go_region_law (refine step_append_run rfl (.tmp 75) (.tmp 80) 67 3 rfl (.slice (some ⟨wr.heap.size, 0, none⟩) 1 1) (.int .i64 ((q : Int) + 1 - ((1 : Nat) : Int))) (by simp [Act.eval, Act.put]) (by simp [Act.eval, Act.put]; exact wrap_one q hq16) _ _ HRUN.out ?_)
          all_goals
            go_wp2
            go_roundw
            case rel => first | exact ⟨1, _, rfl, rfl, .inr (.inl ⟨rfl, rfl, _, 0, L, 1, cL, g', c', 0, 0, HS1.out, HB.out⟩)⟩ | ((repeat apply Exists.intro); exact ⟨⟨1, _, rfl, rfl, .inr (.inl ⟨rfl, rfl, _, 0, L, 1, cL, g', c', 0, 0, HS1.out, HB.out⟩)⟩, rfl⟩)
            case measure => simp [intOf]
      · have hS := S0.start hv hf hl h1 h17 hiff hG hAF
        have hc := hS.cell
        have hl0 := hl.lev0
        have hnl : 0 < nl := by rcases hl.nlr with h | h <;> omega
        have hnl2 : nl ≤ 2 := by rcases hl.nlr with h | h <;> omega
        have hnz : (0 == (nl : Int)) = false := by simp; omega
        obtain ⟨len, hlen⟩ : ∃ len, len = ws.length := ⟨_, rfl⟩
        rw [← hlen] at hl0 h1 h17
        have HLEN := hideIt hlen
        have HS := hideIt hS
        by_cases hlt : q < len
        · have hlt' : ¬ (len : Int) ≤ (q : Int) := by omega
          clear hS hlen hl hiff hG hv hf
          go_wp2
          go_roundw
          case rel => exact ⟨1, _, rfl, rfl, .inr (.inl ⟨rfl, rfl, ws, top, L, nl, cL, g0, c0, g1, c1, HS.out, by rw [← HLEN.out]; exact hlt⟩)⟩
          case measure => simp [intOf]
        · have hge' : (len : Int) ≤ (q : Int) := by omega
          have hown0 := hl.ow0
          rw [← hlen] at hown0
          have hcap := own_cap hown0
          obtain ⟨g', c', w1, hrun, hown1, hg1, hloc1⟩ := run_zeros wr.drew 67 g0 len c0 (q + 1 - len) (ws.map word) (Own.keep hown0 rfl) (by omega) (by omega) hcap
          rw [show len + (q + 1 - len) = q + 1 from by omega, show ((q + 1 - len : Nat) : Int) = (q : Int) + 1 - (len : Int) from by omega] at hrun
          obtain ⟨⟨a1, a2, a3⟩, hS1⟩ := hS.ext hA (q := q) (by omega) hq16 (by rw [← hlen]; exact hown1) hg1 hloc1
          rw [← hlen] at a2
          have hwr := wrap_more q len (by omega) (by omega)
          have HS1 := hideIt hS1
          have HRUN := hideIt hrun
          have hbits : q < (ws ++ List.replicate (q + 1 - ws.length) 0).length := by simp; omega
          have HB := hideIt hbits
          clear hS hlen hl hiff hG hf hown0 hown1 hg1 hloc1 hS1 hrun hbits HS
          go_wp2
          go_region_law (refine step_append_run rfl (.tmp 75) (.tmp 80) 67 3 rfl (.slice (some ⟨g0, 0, none⟩) len c0) (.int .i64 ((q : Int) + 1 - (len : Int))) (by simp [Act.eval, Act.put]) (by simp [Act.eval, Act.put]) _ _ HRUN.out ?_)
          all_goals
            go_wp2
            go_roundw
            case rel => exact ⟨1, _, rfl, rfl, .inr (.inl ⟨rfl, rfl, _, top, L, nl, cL, g', c', g1, c1, HS1.out, HB.out⟩)⟩
            case measure => simp [intOf]
    · have hc := hS.cell
      have hl0 := hS.lv.lev0
      clear hp
      obtain ⟨len, hlen⟩ : ∃ len, len = ws1.length := ⟨_, rfl⟩
      rw [← hlen] at hl0 hql
      have hpos := hS.pos
      have hle := hS.le
      rw [← hlen] at hpos hle
      have HLEN := hideIt hlen
      clear hlen
      by_cases h1 : len = 1
      · subst h1
        have hnl : nl = 1 := by
          rcases hS.lv.nlr with e | e
          · exact e
          · have := (hS.two e).1; have := HLEN.out; omega
        subst hnl
        have HS := hideIt hS
        clear hS
        go_wp2
        go_end0
        exact ⟨rfl, ws1, top1, L, 1, cL, g0, c0, g1, c1, HS.out, by rw [← HLEN.out]; exact hql, by have := HLEN.out; omega⟩
      · have h2 : (1 : Int) < (len : Int) := by omega
        rcases hS.lv.nlr with rfl | rfl
        · obtain ⟨x0, hx0⟩ : ∃ x0, x0 = ws1.getD 0 0 := ⟨_, rfl⟩
          have hw0 := hS.lv.word0 0 (by have := HLEN.out; omega)
          rw [← hx0] at hw0
          have hql' := hql
          rw [HLEN.out] at hql'
          have HQL := hideIt hql'
          clear hql'
          by_cases hz : x0 = 0
          · have hxz : Hid (ws1.getD 0 0 = 0) := by show _ = _; rw [← hx0]; exact hz
            subst hz
            clear hx0
            have hown := hS.lv.own
            have HS := hideIt hS
            clear hS
            go_wp2_with (at_builtin; refine wpList_append_own_at _ rfl _ _ 45 rfl 0 67 i67 (.slice none 0 0) 1 24 Yba.underlying45 hi67 hz67 hs67 hb67 rfl (by decide) _ _ _ rfl (Own.alloc (Own.alloc hown _) _) ⟨wr.heap.size + 1, 0, none⟩ 1 1 [.slice (some ⟨wr.heap.size, 0, none⟩) 1 1] rfl rfl (slice_one _ _ _ _) (one_slice _ _ _) (by unfold maxLen; omega) (by omega) (Nat.zero_le _) ?_)
            intro v' w1 hown' hgrow _ hloc
            obtain ⟨L', cL', rfl⟩ := own_some hown' (by omega)
            have hloc' : L' = L ∨ L' = wr.heap.size + 2 := by
              rcases hloc with e | e
              · left; exact Option.some.inj e
              · right; have e' := Option.some.inj e; simpa using e'
            obtain ⟨⟨a1, a2, a3⟩, hS2⟩ := HS.out.up hA (by have := HLEN.out; omega) (t := 0) (by rw [if_pos hxz.out]) hown' hgrow hloc'
            have b1 := hS2.cell
            have b2 := hS2.lv.lev1
            have HS2 := hideIt hS2
            clear hown hown' hgrow hloc hloc' HS hS2 hl0 hw0
            go_wp2
            go_roundw
            case rel => first | exact ⟨2, 0, rfl, rfl, .inr (.inr ⟨rfl, rfl, _, _, _, _, _, _, _, _, HS2.out, HQL.out⟩)⟩ | ((repeat apply Exists.intro); exact ⟨⟨2, 0, rfl, rfl, .inr (.inr ⟨rfl, rfl, _, _, _, _, _, _, _, _, HS2.out, HQL.out⟩)⟩, rfl⟩)
            case measure => simp [intOf]
          · have hxz : Hid (¬ ws1.getD 0 0 = 0) := by show ¬ _ = _; rw [← hx0]; exact hz
            have hzb : ((x0 : Int) != 0) = true := by simpa using hz
            clear hx0
            have hown := hS.lv.own
            have HS := hideIt hS
            clear hS
            go_wp2_with (at_builtin; refine wpList_append_own_at _ rfl _ _ 45 rfl 0 67 i67 (.slice none 0 0) 1 24 Yba.underlying45 hi67 hz67 hs67 hb67 rfl (by decide) _ _ _ rfl (Own.alloc (Own.alloc hown _) _) ⟨wr.heap.size + 1, 0, none⟩ 1 1 [.slice (some ⟨wr.heap.size, 0, none⟩) 1 1] rfl rfl (slice_one _ _ _ _) (one_slice _ _ _) (by unfold maxLen; omega) (by omega) (Nat.zero_le _) ?_)
            intro v' w1 hown' hgrow _ hloc
            obtain ⟨L', cL', rfl⟩ := own_some hown' (by omega)
            have hloc' : L' = L ∨ L' = wr.heap.size + 2 := by
              rcases hloc with e | e
              · left; exact Option.some.inj e
              · right; have e' := Option.some.inj e; simpa using e'
            obtain ⟨⟨a1, a2, a3⟩, hS2⟩ := HS.out.up hA (by have := HLEN.out; omega) (t := 1) (by rw [if_neg hxz.out]) hown' hgrow hloc'
            have b1 := hS2.cell
            have b2 := hS2.lv.lev1
            have HS2 := hideIt hS2
            clear hown hown' hgrow hloc hloc' HS hS2 hl0 hw0
            go_wp2
            go_roundw
            case rel => first | exact ⟨2, 0, rfl, rfl, .inr (.inr ⟨rfl, rfl, _, _, _, _, _, _, _, _, HS2.out, HQL.out⟩)⟩ | ((repeat apply Exists.intro); exact ⟨⟨2, 0, rfl, rfl, .inr (.inr ⟨rfl, rfl, _, _, _, _, _, _, _, _, HS2.out, HQL.out⟩)⟩, rfl⟩)
            case measure => simp [intOf]
        · have hl1 := hS.lv.lev1
          have HS := hideIt hS
          clear hS
          go_wp2
          go_roundw
          case rel => exact ⟨2, 0, rfl, rfl, .inr (.inr ⟨rfl, rfl, _, _, _, _, _, _, _, _, HS.out, by rw [← HLEN.out]; exact hql⟩)⟩
          case measure => simp [intOf]
    · have hc := hS.cell
      have hl1 := hS.lv.lev1
      have HS := hideIt hS
      clear hS hp
      go_wp2
      go_end0
      exact ⟨rfl, ws1, top1, L, 2, cL, g0, c0, g1, c1, HS.out, hql, by have := (HS.out.two rfl).1; omega⟩

end Go.Proofs.Ybulkbgqi
