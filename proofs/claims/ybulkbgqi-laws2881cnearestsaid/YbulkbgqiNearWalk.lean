import Derived.Test.YbulkbgqiRows2
namespace Go.Proofs.Ybulkbgqi
open Go.RowKit
set_option linter.unusedVariables false

theorem one_new1 (w : World) (o : Obj) (x : Value) (t : TypeId) : ∀ j u, [x][j]? = some u → ((w.alloc o).alloc (.cells #[x] t)).cell? ((⟨w.heap.size + 1, 0, none⟩ : Addr).add j) = some u := by
  have h := cell_one_new (w.alloc o) x t
  rw [World.size_alloc] at h
  exact h

/-- The row of ends: each no more than the name's length. -/
structure EndsOk (g cap n : Nat) (s : ByteArray) (E : List Int) (w : World) : Prop where
  own : Own w 3 g n cap (E.map (Value.int .i64))
  le : ∀ e ∈ E, 0 ≤ e ∧ e ≤ s.size

theorem tot_mono (ss : List ByteArray) (k : Nat) : ∀ n, k ≤ n → tot ss k ≤ tot ss n
  | 0, h => by obtain rfl : k = 0 := by omega
               exact Nat.le_refl _
  | n + 1, h => by
    by_cases e : k = n + 1
    · subst e; exact Nat.le_refl _
    · have := tot_mono ss k n (by omega)
      simp only [tot]; omega

theorem one_size : ({ data := #[47] } : ByteArray).size = 1 := rfl

theorem EndsOk.slash {g cap n : Nat} {s : ByteArray} {E : List Int} {w w2 : World} (h : EndsOk g cap n s E w) (p : ByteArray) (ho : Own w2 3 g (n + 1) cap (E.map (Value.int .i64) ++ [.int .i64 ((s.size : Int) + 1 + (p.size : Int))])) :
    EndsOk g cap (n + 1) (s ++ { data := #[47] } ++ p) (E ++ [(s.size : Int) + 1 + (p.size : Int)]) w2 := by
  refine ⟨by simpa using ho, fun e he => ?_⟩
  have hz : (s ++ { data := #[47] } ++ p).size = s.size + 1 + p.size := by simp only [ByteArray.size_append, one_size]
  rcases List.mem_append.1 he with he | he
  · have := h.le e he; omega
  · simp at he; omega

theorem EndsOk.plain {g cap n : Nat} {s : ByteArray} {E : List Int} {w w2 : World} (h : EndsOk g cap n s E w) (p : ByteArray) (ho : Own w2 3 g (n + 1) cap (E.map (Value.int .i64) ++ [.int .i64 ((s.size : Int) + (p.size : Int))])) :
    EndsOk g cap (n + 1) (s ++ p) (E ++ [(s.size : Int) + (p.size : Int)]) w2 := by
  refine ⟨by simpa using ho, fun e he => ?_⟩
  have hz : (s ++ p).size = s.size + p.size := by simp only [ByteArray.size_append]
  rcases List.mem_append.1 he with he | he
  · have := h.le e he; omega
  · simp at he; omega

/-- The two rows: the keys in block g, what they name in block g + 1. -/
structure Pairs (g cap k : Nat) (K V : List ByteArray) (w : World) : Prop where
  lenK : K.length = k
  lenV : V.length = k
  ownK : Own w 9 g k cap (K.map Value.string)
  ownV : Own w 54 (g + 1) k cap (V.map Value.string)
  szK : ∀ x ∈ K, x.size ≤ maxLen
  szV : ∀ x ∈ V, x.size ≤ maxLen

theorem Pairs.start (w : World) (c : Nat) (hc : c ≤ 100000) : Pairs w.heap.size c 0 [] [] ((w.alloc (.cells (madeCells #[.string { data := #[] }] c) 9)).alloc (.cells (madeCells #[.string { data := #[] }] c) 54)) := by
  have h1 := Own.made w 9 (.string { data := #[] }) c (by unfold maxLen; omega)
  have h2 := Own.made (w.alloc (.cells (madeCells #[.string { data := #[] }] c) 9)) 54 (.string { data := #[] }) c (by unfold maxLen; omega)
  rw [World.size_alloc] at h2
  exact ⟨rfl, rfl, Own.alloc h1 _, h2, by simp, by simp⟩

theorem Pairs.add {g cap k : Nat} {K V : List ByteArray} {w w2 : World} (h : Pairs g cap k K V w) (key v : ByteArray) (hK : Own w2 9 g (k + 1) cap (K.map Value.string ++ [.string key])) (hV : Own w2 54 (g + 1) (k + 1) cap (V.map Value.string ++ [.string v])) (hks : key.size ≤ maxLen) (hvs : v.size ≤ 100) :
    Pairs g cap (k + 1) (K ++ [key]) (V ++ [v]) w2 := by
  refine ⟨by simp [h.lenK], by simp [h.lenV], by simpa using hK, by simpa using hV, fun x hx => ?_, fun x hx => ?_⟩
  · rcases List.mem_append.1 hx with hx | hx
    · exact h.szK x hx
    · simp at hx; subst hx; exact hks
  · rcases List.mem_append.1 hx with hx | hx
    · exact h.szV x hx
    · simp at hx; subst hx; unfold maxLen; omega

theorem depth_nat (x : Int) (np : Nat) (h : 0 ≤ x) : ∃ d : Nat, x / 4 % ((np : Int) + 1) = (d : Int) ∧ d < np + 1 := by
  have h1 := Int.emod_nonneg (x / 4) (b := (np : Int) + 1) (by omega)
  have h2 := Int.emod_lt_of_pos (x / 4) (b := (np : Int) + 1) (by omega)
  exact ⟨(x / 4 % ((np : Int) + 1)).toNat, by omega, by omega⟩

theorem EndsOk.at {g cap n : Nat} {s : ByteArray} {E : List Int} {w : World} (h : EndsOk g cap n s E w) (d : Nat) (hd : d < n) : ∃ en : Nat, en ≤ s.size ∧ w.cell? ⟨g, d, none⟩ = some (.int .i64 (en : Int)) := by
  have hl : E.length = n := by have := h.own.1; simpa using this
  have hm := h.le E[d] (List.getElem_mem (by omega))
  refine ⟨E[d].toNat, by omega, ?_⟩
  have := Own.get h.own d (.int .i64 E[d]) (by simp [List.getElem?_eq_getElem (show d < E.length by omega)])
  rw [this, Int.toNat_of_nonneg hm.1]

theorem Pairs.below {g cap k B : Nat} {K V : List ByteArray} {w w2 : World} (h : Pairs g cap k K V w) (hb : Below B w w2) (hg : g + 1 < B) : Pairs g cap k K V w2 :=
  ⟨h.lenK, h.lenV, h.ownK.below hb (by omega), h.ownV.below hb hg, h.szK, h.szV⟩

theorem map_at (K : List ByteArray) (j : Nat) (h : j < K.length) : (K.map Value.string)[j]? = some (.string (K.getD j emp)) := by
  simp [List.getD, h]

theorem Pairs.atK {g cap k : Nat} {K V : List ByteArray} {w : World} (h : Pairs g cap k K V w) (j : Nat) (hj : j < k) : w.cell? ⟨g, j, none⟩ = some (.string (K.getD j emp)) :=
  Own.get h.ownK j _ (map_at K j (by rw [h.lenK]; exact hj))

theorem Pairs.atV {g cap k : Nat} {K V : List ByteArray} {w : World} (h : Pairs g cap k K V w) (j : Nat) (hj : j < k) : w.cell? ⟨g + 1, j, none⟩ = some (.string (V.getD j emp)) :=
  Own.get h.ownV j _ (map_at V j (by rw [h.lenV]; exact hj))

theorem getD_size (K : List ByteArray) (h : ∀ x ∈ K, x.size ≤ maxLen) (j : Nat) : (K.getD j emp).size ≤ maxLen := by
  rcases Nat.lt_or_ge j K.length with hj | hj
  · rw [List.getD_eq_getElem?_getD, List.getElem?_eq_getElem hj]; exact h _ (List.getElem_mem hj)
  · rw [List.getD_eq_getElem?_getD, List.getElem?_eq_none hj]; exact Nat.zero_le _

theorem Pairs.szKd {g cap k : Nat} {K V : List ByteArray} {w : World} (h : Pairs g cap k K V w) (j : Nat) : (K.getD j emp).size ≤ maxLen := getD_size K h.szK j
theorem Pairs.szVd {g cap k : Nat} {K V : List ByteArray} {w : World} (h : Pairs g cap k K V w) (j : Nat) : (V.getD j emp).size ≤ maxLen := getD_size V h.szV j

theorem MapIs.lt {K V : List ByteArray} {k mb : Nat} {w : World} (h : MapIs K V k mb w) : mb < w.heap.size := by
  obtain ⟨D, ⟨es, clock, hes, r⟩, h2, h3⟩ := h
  exact (Array.getElem?_eq_some_iff.1 hes).1

theorem byteN_get (s : ByteArray) (j : Nat) (h : j < s.size) : byteN s j = (s[j].toNat : Int) := by
  unfold byteN
  rw [getElem!_pos s.data j h]
  rfl

theorem scan_hit (name : ByteArray) (look : ByteArray → Option ByteArray) (i : Nat) (v : ByteArray) (h : byteN name i = 47) (hl : look (name.extract 0 i) = some v) : scanAt name look (i + 1) = some (name.extract 0 i, v) := by
  rw [scanAt, if_pos h, hl]
theorem scan_miss (name : ByteArray) (look : ByteArray → Option ByteArray) (i : Nat) (h : byteN name i = 47) (hl : look (name.extract 0 i) = none) : scanAt name look (i + 1) = scanAt name look i := by
  rw [scanAt, if_pos h, hl]

theorem toList_ne {a b : ByteArray} (h : a ≠ b) : (a.toList == b.toList) = false := by
  rw [ByteArray.toList_eq, ByteArray.toList_eq]
  simp only [beq_eq_false_iff_ne, ne_eq]
  exact fun e => h (Go.WideShapes.bytes_inj e)

set_option maxHeartbeats 4000000 in
set_option maxRecDepth 1000000 in
theorem near_walk (ap ak av aq : Option Addr) (np cp nk ck nv cv nq cq : Nat) (ss ks : List ByteArray) (vz qz : List Int) (thr : Int) (w : World)
    (hnp : np ≤ 256) (hnk : nk ≤ 1024) (hnq : nq ≤ 1024) (hnv : nv ≤ maxLen) (hP : StrRow w ap np ss) (hK : StrRow w ak nk ks) (hV : ByteRow w av nv vz) (hQ : ByteRow w aq nq qz) :
    Calls Yba.prog 4 #[.slice ap np cp, .slice ak nk ck, .slice av nv cv, .slice aq nq cq, .int .i64 thr] w fun e w' => e = .returned (.bool true) ∧ Below w.heap.size w w' := by
  unfold maxLen at hnv
  have hmkE : ∀ w, (Instr.makeSlice 52 (.int .i64 0) (.int .i64 ((np : Int) + 1))).run Yba.prog w = .ok (.slice (some ⟨w.heap.size, 0, none⟩) 0 (np + 1)) (w.alloc (.cells (madeCells #[.int .i64 0] (np + 1)) 3)) :=
    make_of 52 3 _ 8 Yba.underlying52 info3 rfl (by omega) (np + 1) (by omega)
  go_enter Yba.func4, Yba.ntmps4
  go_wp2
  go_loop [11, 52] (fun t i => ∃ k : Nat, k ≤ np ∧ i = .int .i64 k ∧ t = .int .i64 (tot ss k : Int) ∧ tot ss k ≤ 65536) (fun _ i => np - (intOf i).toNat)
  case atStart => exact ⟨0, by omega, rfl, rfl, by simp [tot]⟩
  case round =>
    obtain ⟨k, hk, rfl, rfl, ht⟩ := hrel
    by_cases hlt : k < np
    · obtain ⟨b, off, rfl, hb, hc⟩ := hP.cells (by omega)
      obtain ⟨p, hp⟩ : ∃ p, p = ss.getD k emp := ⟨_, rfl⟩
      have hck := hc k hlt
      have hps := hP.size k
      rw [← hp] at hck hps
      have hts : Hid (tot ss (k + 1) = tot ss k + p.size) := by show tot ss k + _ = _; rw [hp]
      clear hc hp
      by_cases hbig : 65536 < tot ss k + p.size
      · go_wp2
        go_ret
        exact ⟨rfl, Below.refl _ _⟩
      · go_wp2
        go_round
        case rel => exact ⟨k + 1, by omega, by go_num, by rw [hts.out]; go_num, by rw [hts.out]; omega⟩
        case measure => simp [intOf]; omega
    · obtain rfl : np = k := by omega
      obtain ⟨i3, hi3, _, hs3, _⟩ := info_parts info3
      have hE0 := Own.made w 3 (.int .i64 0) (np + 1) (by unfold maxLen; omega)
      have hB0 : Below w.heap.size w (w.alloc (.cells (madeCells #[.int .i64 0] (np + 1)) 3)) := (Below.refl _ _).alloc (Nat.le_refl _) _
      go_wp2_with (at_builtin; refine wpList_append_own_spare _ rfl _ _ 52 rfl 0 3 i3 1 Yba.underlying52 hi3 hs3 w.heap.size 0 (np + 1) [] rfl (Own.alloc hE0 _) ⟨w.heap.size + 1, 0, none⟩ 1 1 [.int .i64 0] rfl rfl (one_new1 _ _ _ _) (one_int _ _) (by omega) ?_)
      intro w1 hE1 hg1
      have hB1 := Below.grown (hB0.alloc (by simp) _) hg1 (by simp; omega) (fun k hk => by cases hk; exact Nat.le_refl _)
      clear hE0 hB0 hg1
      go_wp2
      go_loopw [14, 15, 72] (fun nm en i wr => ∃ (k : Nat) (s : ByteArray) (E : List Int), k ≤ np ∧ i = .int .i64 k ∧ nm = .string s ∧ s.size ≤ tot ss k + k ∧ en = .slice (some ⟨w.heap.size, 0, none⟩) (k + 1) (np + 1) ∧
          EndsOk w.heap.size (np + 1) (k + 1) s E wr ∧ Below w.heap.size w wr) (fun _ _ i _ => np - (intOf i).toNat)
      case atStart => exact ⟨0, emp, [0], by omega, rfl, rfl, Nat.zero_le _, rfl, ⟨hE1, by simp [emp]⟩, hB1⟩
      case round =>
        clear hE1 hB1
        obtain ⟨k, s, E, hk, rfl, rfl, hs, rfl, hE, hB⟩ := hrel
        have htm := tot_mono ss k np hk
        by_cases hlt : k < np
        · obtain ⟨b, off, rfl, hb, hc⟩ := hP.cells (by omega)
          obtain ⟨p, hp⟩ : ∃ p, p = ss.getD k emp := ⟨_, rfl⟩
          have hck : wr.cell? ⟨b, off + k, none⟩ = some (.string p) := by rw [hp]; exact (hB.cell (p := ⟨b, off + k, none⟩) hb).trans (hc k hlt)
          have hts : Hid (tot ss (k + 1) = tot ss k + p.size) := by show tot ss k + _ = _; rw [hp]
          have htm2 := tot_mono ss (k + 1) np hlt
          rw [hts.out] at htm2
          have hE1 := hE.own
          clear hc hp
          by_cases hk0 : 0 < k
          · go_wp2_with (at_builtin; refine wpList_append_own_spare _ rfl _ _ 52 rfl 0 3 i3 1 Yba.underlying52 hi3 hs3 w.heap.size (k + 1) (np + 1) (E.map (Value.int .i64)) rfl (Own.alloc hE1 _) ⟨wr.heap.size, 0, none⟩ 1 1 [.int .i64 ((s.size : Int) + 1 + (p.size : Int))] rfl rfl (cell_one_new _ _ _) (one_int _ _) (by omega) ?_)
            intro w2 hE2 hg2
            have hB2 := Below.grown (hB.alloc hB.size _) hg2 (by have := hB.size; simp; omega) (fun k hk => by cases hk; exact Nat.le_refl _)
            have hE3 := EndsOk.slash hE p hE2
            have HE3 := hideIt hE3
            have HB2 := hideIt hB2
            clear hE1 hE hB hg2 hE2 hE3 hB2 hck
            go_wp2
            go_roundw
            case rel => first | exact ⟨k + 1, s ++ { data := #[47] } ++ p, _, by omega, by go_num, rfl, by rw [hts.out]; simp only [ByteArray.size_append]; simp only [one_size]; omega, rfl, HE3.out, HB2.out⟩ | ((repeat apply Exists.intro); exact ⟨⟨k + 1, s ++ { data := #[47] } ++ p, _, by omega, by go_num, rfl, by rw [hts.out]; simp only [ByteArray.size_append]; simp only [one_size]; omega, rfl, HE3.out, HB2.out⟩, rfl⟩)
            case measure => simp [intOf]; omega
          · go_wp2_with (at_builtin; refine wpList_append_own_spare _ rfl _ _ 52 rfl 0 3 i3 1 Yba.underlying52 hi3 hs3 w.heap.size (k + 1) (np + 1) (E.map (Value.int .i64)) rfl (Own.alloc hE1 _) ⟨wr.heap.size, 0, none⟩ 1 1 [.int .i64 ((s.size : Int) + (p.size : Int))] rfl rfl (cell_one_new _ _ _) (one_int _ _) (by omega) ?_)
            intro w2 hE2 hg2
            have hB2 := Below.grown (hB.alloc hB.size _) hg2 (by have := hB.size; simp; omega) (fun k hk => by cases hk; exact Nat.le_refl _)
            have hE3 := EndsOk.plain hE p hE2
            have HE3 := hideIt hE3
            have HB2 := hideIt hB2
            clear hE1 hE hB hg2 hE2 hE3 hB2 hck
            go_wp2
            go_roundw
            case rel => first | exact ⟨k + 1, s ++ p, _, by omega, by go_num, rfl, by rw [hts.out]; simp only [ByteArray.size_append]; omega, rfl, HE3.out, HB2.out⟩ | ((repeat apply Exists.intro); exact ⟨⟨k + 1, s ++ p, _, by omega, by go_num, rfl, by rw [hts.out]; simp only [ByteArray.size_append]; omega, rfl, HE3.out, HB2.out⟩, rfl⟩)
            case measure => simp [intOf]; omega
        · obtain rfl : np = k := by omega
          obtain ⟨W2, rfl⟩ : ∃ W2 : World, W2 = wr := ⟨wr, rfl⟩
          obtain ⟨i9, hi9, _, hs9, _⟩ := info_parts info9
          obtain ⟨i54, hi54, _, hs54, _⟩ := info_parts info54
          have hmkK : ∀ w, (Instr.makeSlice 51 (.int .i64 0) (.int .i64 ((nk : Int) + (nq : Int)))).run Yba.prog w = .ok (.slice (some ⟨w.heap.size, 0, none⟩) 0 (nk + nq)) (w.alloc (.cells (madeCells #[.string { data := #[] }] (nk + nq)) 9)) := fun w => by
            have h := make_of 51 9 _ 16 Yba.underlying51 info9 rfl (by omega) (nk + nq) (by omega) w
            rw [Int.natCast_add] at h
            exact h
          have hmkV : ∀ w, (Instr.makeSlice 53 (.int .i64 0) (.int .i64 ((nk : Int) + (nq : Int)))).run Yba.prog w = .ok (.slice (some ⟨w.heap.size, 0, none⟩) 0 (nk + nq)) (w.alloc (.cells (madeCells #[.string { data := #[] }] (nk + nq)) 54)) := fun w => by
            have h := make_of 53 54 _ 16 Yba.underlying53 info54 rfl (by omega) (nk + nq) (by omega) w
            rw [Int.natCast_add] at h
            exact h
          have hP0 := Pairs.start W2 (nk + nq) (by omega)
          have hB0 : Below W2.heap.size W2 ((W2.alloc (.cells (madeCells #[.string { data := #[] }] (nk + nq)) 9)).alloc (.cells (madeCells #[.string { data := #[] }] (nk + nq)) 54)) := ((Below.refl _ _).alloc (Nat.le_refl _) _).alloc (by simp) _
          have HP0 := hideIt hP0
          have HB0 := hideIt hB0
          have HE := hideIt hE
          have HB := hideIt hB
          clear hP0 hB0 hmkE hE hB
          go_wp2
          clear hmkK hmkV
          go_loopw [18, 19, 104] (fun kv vv i wr => ∃ (k : Nat) (K V : List ByteArray), k ≤ nk ∧ i = .int .i64 k ∧ kv = .slice (some ⟨W2.heap.size, 0, none⟩) k (nk + nq) ∧ vv = .slice (some ⟨W2.heap.size + 1, 0, none⟩) k (nk + nq) ∧
              Pairs W2.heap.size (nk + nq) k K V wr ∧ Below W2.heap.size W2 wr) (fun _ _ i _ => nk - (intOf i).toNat)
          case atStart => exact ⟨0, [], [], by omega, rfl, rfl, rfl, HP0.out, HB0.out⟩
          case round =>
            clear HP0 HB0
            obtain ⟨k, K, V, hk2, rfl, rfl, rfl, hPr, hB2⟩ := hrel
            by_cases hlt2 : k < nk
            · obtain ⟨b, off, rfl, hb, hc⟩ := (hK.below HB.out).cells (by omega)
              obtain ⟨key, hkey⟩ : ∃ p, p = ks.getD k emp := ⟨_, rfl⟩
              have hkz : key.size ≤ maxLen := by rw [hkey]; have := hK.size k; unfold maxLen; omega
              have hck : wr.cell? ⟨b, off + k, none⟩ = some (.string key) := by rw [hkey]; exact (hB2.cell (p := ⟨b, off + k, none⟩) hb).trans (hc k hlt2)
              clear hc hkey
              by_cases hv : k < nv
              · obtain ⟨b2, off2, rfl, hb2, hc2⟩ := (hV.below HB.out).cells (by omega)
                obtain ⟨x, hx⟩ : ∃ x, x = vz.getD k 0 := ⟨_, rfl⟩
                have hxb := hV.size k
                have hcx : wr.cell? ⟨b2, off2 + k, none⟩ = some (.int .u8 x) := by rw [hx]; exact (hB2.cell (p := ⟨b2, off2 + k, none⟩) hb2).trans (hc2 k hv)
                rw [← hx] at hxb
                clear hc2 hx
                obtain ⟨ev, hev, hesc⟩ := esc_any x hxb.1 hxb.2
                have HESC := hideIt hesc
                clear hesc
                go_wp2_with (at_builtin; refine wpList_append_own_spare _ rfl _ _ 51 rfl 0 9 i9 1 Yba.underlying51 hi9 hs9 W2.heap.size k (nk + nq) (K.map Value.string) rfl (Own.alloc hPr.ownK _) ⟨wr.heap.size, 0, none⟩ 1 1 [.string key] rfl rfl (cell_one_new _ _ _) (one_str _) (by omega) ?_)
                intro w3 hK3 hg3
                have hV3 := (Own.alloc hPr.ownV _).grown hg3 (by omega)
                have hB3 := Below.grown (hB2.alloc hB2.size _) hg3 (by have := hB2.size; simp; omega) (fun k hk => by cases hk; exact Nat.le_refl _)
                have HB3 := hideIt hB3
                have HK3 := hideIt hK3
                have HPr := hideIt hPr
                clear hPr hB2 hB3 hK3 hg3 hck hcx
                go_wp2_with fail
                refine (HESC.out _).mono ?_
                rintro e w4 ⟨rfl, rfl⟩
                go_wp2_with (at_builtin; refine wpList_append_own_spare _ rfl _ _ 53 rfl 0 54 i54 1 Yba.underlying53 hi54 hs54 (W2.heap.size + 1) k (nk + nq) (V.map Value.string) rfl (Own.alloc hV3 _) ⟨w4.heap.size, 0, none⟩ 1 1 [.string ev] rfl rfl (cell_one_new _ _ _) (one_str _) (by omega) ?_)
                intro w5 hV5 hg5
                have hP5 := Pairs.add HPr.out key ev ((Own.alloc HK3.out _).grown hg5 (by omega)) hV5 hkz (by omega)
                have hB5 := Below.grown (HB3.out.alloc HB3.out.size _) hg5 (by have := HB3.out.size; simp; omega) (fun k hk => by cases hk; exact Nat.le_succ _)
                have HP5 := hideIt hP5
                have HB5 := hideIt hB5
                clear hV3 HK3 HPr HB3 hP5 hB5 hV5 hg5 HESC
                go_wp2
                go_roundw
                case rel => first | exact ⟨k + 1, _, _, by omega, by go_num, rfl, rfl, HP5.out, HB5.out⟩ | ((repeat apply Exists.intro); exact ⟨⟨k + 1, _, _, by omega, by go_num, rfl, rfl, HP5.out, HB5.out⟩, rfl⟩)
                case measure => simp [intOf]; omega
              · obtain ⟨ev, hev, hesc⟩ := esc_any 0 (by omega) (by omega)
                have HESC := hideIt hesc
                clear hesc
                go_wp2_with (at_builtin; refine wpList_append_own_spare _ rfl _ _ 51 rfl 0 9 i9 1 Yba.underlying51 hi9 hs9 W2.heap.size k (nk + nq) (K.map Value.string) rfl (Own.alloc hPr.ownK _) ⟨wr.heap.size, 0, none⟩ 1 1 [.string key] rfl rfl (cell_one_new _ _ _) (one_str _) (by omega) ?_)
                intro w3 hK3 hg3
                have hV3 := (Own.alloc hPr.ownV _).grown hg3 (by omega)
                have hB3 := Below.grown (hB2.alloc hB2.size _) hg3 (by have := hB2.size; simp; omega) (fun k hk => by cases hk; exact Nat.le_refl _)
                have HB3 := hideIt hB3
                have HK3 := hideIt hK3
                have HPr := hideIt hPr
                clear hPr hB2 hB3 hK3 hg3 hck
                go_wp2_with fail
                refine (HESC.out _).mono ?_
                rintro e w4 ⟨rfl, rfl⟩
                go_wp2_with (at_builtin; refine wpList_append_own_spare _ rfl _ _ 53 rfl 0 54 i54 1 Yba.underlying53 hi54 hs54 (W2.heap.size + 1) k (nk + nq) (V.map Value.string) rfl (Own.alloc hV3 _) ⟨w4.heap.size, 0, none⟩ 1 1 [.string ev] rfl rfl (cell_one_new _ _ _) (one_str _) (by omega) ?_)
                intro w5 hV5 hg5
                have hP5 := Pairs.add HPr.out key ev ((Own.alloc HK3.out _).grown hg5 (by omega)) hV5 hkz (by omega)
                have hB5 := Below.grown (HB3.out.alloc HB3.out.size _) hg5 (by have := HB3.out.size; simp; omega) (fun k hk => by cases hk; exact Nat.le_succ _)
                have HP5 := hideIt hP5
                have HB5 := hideIt hB5
                clear hV3 HK3 HPr HB3 hP5 hB5 hV5 hg5 HESC
                go_wp2
                go_roundw
                case rel => first | exact ⟨k + 1, _, _, by omega, by go_num, rfl, rfl, HP5.out, HB5.out⟩ | ((repeat apply Exists.intro); exact ⟨⟨k + 1, _, _, by omega, by go_num, rfl, rfl, HP5.out, HB5.out⟩, rfl⟩)
                case measure => simp [intOf]; omega
            · obtain rfl : nk = k := by omega
              go_wp2
              go_loopw [18, 19, 129] (fun kv vv i wr => ∃ (k : Nat) (K V : List ByteArray), k ≤ nq ∧ i = .int .i64 k ∧ kv = .slice (some ⟨W2.heap.size, 0, none⟩) (nk + k) (nk + nq) ∧ vv = .slice (some ⟨W2.heap.size + 1, 0, none⟩) (nk + k) (nk + nq) ∧
                  Pairs W2.heap.size (nk + nq) (nk + k) K V wr ∧ Below W2.heap.size W2 wr) (fun _ _ i _ => nq - (intOf i).toNat)
              case atStart => exact ⟨0, K, V, by omega, rfl, rfl, rfl, hPr, hB2⟩
              case round =>
                clear hPr hB2
                obtain ⟨k, K, V, hk3, rfl, rfl, rfl, hPr, hB2⟩ := hrel
                by_cases hlt3 : k < nq
                · obtain ⟨b2, off2, rfl, hb2, hc2⟩ := (hQ.below HB.out).cells (by omega)
                  obtain ⟨x, hx⟩ : ∃ x, x = qz.getD k 0 := ⟨_, rfl⟩
                  have hxb := hQ.size k
                  have hcx : wr.cell? ⟨b2, off2 + k, none⟩ = some (.int .u8 x) := by rw [hx]; exact (hB2.cell (p := ⟨b2, off2 + k, none⟩) hb2).trans (hc2 k hlt3)
                  rw [← hx] at hxb
                  clear hc2 hx
                  obtain ⟨d, hd, hdn⟩ := depth_nat x np hxb.1
                  obtain ⟨en, hen, hcen⟩ := EndsOk.at HE.out d (by omega)
                  have hce : wr.cell? ⟨w.heap.size, d, none⟩ = some (.int .i64 (en : Int)) := (hB2.cell (p := ⟨w.heap.size, d, none⟩) (Own.lt HE.out.own)).trans hcen
                  have hkz : (s.extract 0 en).size ≤ maxLen := by rw [size_extract s en hen]; unfold maxLen; omega
                  clear hcen
                  obtain ⟨ev, hev, hesc⟩ := esc_any x hxb.1 hxb.2
                  have HESC := hideIt hesc
                  clear hesc
                  go_wp2_with (at_builtin; refine wpList_append_own_spare _ rfl _ _ 51 rfl 0 9 i9 1 Yba.underlying51 hi9 hs9 W2.heap.size (nk + k) (nk + nq) (K.map Value.string) rfl (Own.alloc hPr.ownK _) ⟨wr.heap.size, 0, none⟩ 1 1 [.string (s.extract 0 en)] rfl rfl (cell_one_new _ _ _) (one_str _) (by omega) ?_)
                  intro w3 hK3 hg3
                  have hV3 := (Own.alloc hPr.ownV _).grown hg3 (by omega)
                  have hB3 := Below.grown (hB2.alloc hB2.size _) hg3 (by have := hB2.size; simp; omega) (fun k hk => by cases hk; exact Nat.le_refl _)
                  have HB3 := hideIt hB3
                  have HK3 := hideIt hK3
                  have HPr := hideIt hPr
                  clear hPr hB2 hB3 hK3 hg3 hcx hce
                  go_wp2_with fail
                  refine (HESC.out _).mono ?_
                  rintro e w4 ⟨rfl, rfl⟩
                  go_wp2_with (at_builtin; refine wpList_append_own_spare _ rfl _ _ 53 rfl 0 54 i54 1 Yba.underlying53 hi54 hs54 (W2.heap.size + 1) (nk + k) (nk + nq) (V.map Value.string) rfl (Own.alloc hV3 _) ⟨w4.heap.size, 0, none⟩ 1 1 [.string ev] rfl rfl (cell_one_new _ _ _) (one_str _) (by omega) ?_)
                  intro w5 hV5 hg5
                  have hP5 := Pairs.add HPr.out (s.extract 0 en) ev ((Own.alloc HK3.out _).grown hg5 (by omega)) hV5 hkz (by omega)
                  have hB5 := Below.grown (HB3.out.alloc HB3.out.size _) hg5 (by have := HB3.out.size; simp; omega) (fun k hk => by cases hk; exact Nat.le_succ _)
                  have HP5 := hideIt hP5
                  have HB5 := hideIt hB5
                  clear hV3 HK3 HPr HB3 hP5 hB5 hV5 hg5 HESC
                  go_wp2
                  go_roundw
                  case rel => first | exact ⟨k + 1, _, _, by omega, by go_num, rfl, rfl, HP5.out, HB5.out⟩ | ((repeat apply Exists.intro); exact ⟨⟨k + 1, _, _, by omega, by go_num, rfl, rfl, HP5.out, HB5.out⟩, rfl⟩)
                  case measure => simp [intOf]; omega
                · obtain rfl : nq = k := by omega
                  obtain ⟨W3, rfl⟩ : ∃ W3 : World, W3 = wr := ⟨wr, rfl⟩
                  have hmm := @run_makeMap Yba.prog
                  have HPr := hideIt hPr
                  have HB2 := hideIt hB2
                  clear hPr hB2
                  go_wp2
                  clear hmm
                  go_loopw [158] (fun i wr => ∃ k : Nat, k ≤ nk + nq ∧ i = .int .i64 k ∧ MapIs K V k W3.heap.size wr ∧ Below W3.heap.size W3 wr) (fun i _ => nk + nq - (intOf i).toNat)
                  case atStart => exact ⟨0, by omega, rfl, MapIs.made K V W3, (Below.refl _ _).alloc (Nat.le_refl _) _⟩
                  case round =>
                    obtain ⟨k, hk4, rfl, hM, hB3⟩ := hrel
                    by_cases hlt4 : k < nk + nq
                    · have hPw := HPr.out.below hB3 (Own.lt HPr.out.ownV)
                      obtain ⟨key, hkey⟩ : ∃ p, p = K.getD k emp := ⟨_, rfl⟩
                      obtain ⟨vv, hvv⟩ : ∃ p, p = V.getD k emp := ⟨_, rfl⟩
                      have hck : wr.cell? ⟨W2.heap.size, k, none⟩ = some (.string key) := by rw [hkey]; exact hPw.atK k hlt4
                      have hcv : wr.cell? ⟨W2.heap.size + 1, k, none⟩ = some (.string vv) := by rw [hvv]; exact hPw.atV k hlt4
                      have hM' : MapIs K V k W3.heap.size wr.drew := hM.keep rfl
                      obtain ⟨w5, hup, hM5, hg5⟩ := hM'.put (by omega) (hPw.szKd k) (hPw.szVd k)
                      rw [← hkey, ← hvv] at hup
                      have hB5 : Below W3.heap.size W3 w5 := Below.grown hB3.drew hg5 hB3.size (fun k hk => by cases hk; exact Nat.le_refl _)
                      have hlt' : (k : Int) < (nk : Int) + (nq : Int) := by omega
                      have HM5 := hideIt hM5
                      have HB5 := hideIt hB5
                      clear hPw hkey hvv hM hM' hM5 hg5 hB5 hB3
                      go_wp2
                      go_region
                      go_wp2
                      go_roundw
                      case rel => exact ⟨k + 1, by omega, by go_num, HM5.out, HB5.out⟩
                      case measure => simp [intOf]; omega
                    · obtain rfl : k = nk + nq := by omega
                      obtain ⟨W4, rfl⟩ : ∃ W4 : World, W4 = wr := ⟨wr, rfl⟩
                      have hPw := HPr.out.below hB3 (Own.lt HPr.out.ownV)
                      have hmb : W3.heap.size < W4.heap.size := hM.lt
                      have hL : Looks W3.heap.size (lk K V (nk + nq)) (W4.alloc (.cells #[.map (some W3.heap.size), .int .i64 thr] 60)) := (hM.keep (Below.heap_alloc _ _ _ hmb)).looks
                      have hBw : Below w.heap.size w W4 := (HB.out.trans (HB2.out.mono HB.out.size)).trans (hB3.mono (Nat.le_trans HB.out.size HB2.out.size))
                      have hT := target_any W4.heap.size W3.heap.size s (lk K V (nk + nq)) _ (by omega) (by rw [World.cell?_alloc_at _ _ _ _ rfl]; rfl) hL
                      obtain ⟨gS, hgS⟩ : ∃ gS, gS = ansS (scanAt s (lk K V (nk + nq)) s.size) := ⟨_, rfl⟩
                      obtain ⟨gB, hgB⟩ : ∃ gB, gB = ansB (scanAt s (lk K V (nk + nq)) s.size) := ⟨_, rfl⟩
                      rw [← hgS, ← hgB] at hT
                      have HT := hideIt hT
                      have HGS := hideIt hgS
                      have HGB := hideIt hgB
                      have HPw := hideIt (hPw.below (B := W4.heap.size) ((Below.refl _ _).alloc (Nat.le_refl _) (.cells #[.map (some W3.heap.size), .int .i64 thr] 60)) (Own.lt hPw.ownV))
                      have HBw := hideIt hBw
                      clear hPw hL hT hgS hgB hBw hM hB3 HPr HB2
                      go_wp2_with fail
                      refine HT.out.mono ?_
                      rintro e w6 ⟨rfl, hw6⟩
                      subst hw6
                      clear HT
                      rcases Nat.eq_zero_or_pos (nk + nq) with hz | hpos
                      · have hA : scanAt s (lk K V (nk + nq)) s.size = none := by rw [hz]; exact scan_none s _ (fun _ => rfl) s.size
                        have hS : gS = { data := #[] } := by rw [HGS.out, hA]; rfl
                        have hBo : gB = false := by rw [HGB.out, hA]; rfl
                        have hz' : ((nk : Int) + (nq : Int)) = 0 := by omega
                        subst hS hBo
                        clear HGS HGB hA
                        go_wp2
                        go_ret
                        exact ⟨by simp, HBw.out.alloc HBw.out.size _⟩
                      · go_wp2
                        go_loop [31, 32, 33] (fun ws wo i => ∃ n : Nat, n ≤ s.size ∧ i = .int .i64 ((n : Int) - 1) ∧ ws = .string { data := #[] } ∧ wo = .bool false ∧ scanAt s (lk K V (nk + nq)) n = scanAt s (lk K V (nk + nq)) s.size) (fun _ _ i => (intOf i + 1).toNat)
                        case atStart => exact ⟨s.size, Nat.le_refl _, rfl, rfl, rfl, rfl⟩
                        case round =>
                          obtain ⟨n, hn, rfl, rfl, rfl, hsc⟩ := hrel
                          rcases Nat.eq_zero_or_pos n with rfl | hnp2
                          · have hS : gS = { data := #[] } := by rw [HGS.out, ← hsc]; rfl
                            have hBo : gB = false := by rw [HGB.out, ← hsc]; rfl
                            have e0 : ((0 : Nat) : Int) - 1 = -1 := by omega
                            rw [e0]
                            clear HGS HGB hsc
                            go_wp2
                            go_ret
                            exact ⟨by simp, HBw.out.alloc HBw.out.size _⟩
                          · obtain ⟨j, rfl⟩ : ∃ j, n = j + 1 := ⟨n - 1, by omega⟩
                            have e0 : ((j + 1 : Nat) : Int) - 1 = (j : Int) := by omega
                            rw [e0]
                            have HSC := hideIt hsc
                            clear hsc e0
                            have hjs : j < s.size := by omega
                            have hbyte : byteN s j = (s[j].toNat : Int) := byteN_get s j hjs
                            by_cases hb47 : byteN s j = 47
                            · have hne : ((s[j].toNat : Int) != 47) = false := by rw [← hbyte, hb47]; rfl
                              have HB47 := hideIt hb47
                              clear hbyte hb47
                              go_wp2
                              go_loop [35, 36] (fun f i => ∃ x : Nat, x ≤ nk + nq ∧ i = .int .i64 ((x : Int) - 1) ∧ f = .int .i64 (-1) ∧ ∀ y, x ≤ y → y < nk + nq → K.getD y emp ≠ s.extract 0 j) (fun _ i => (intOf i + 1).toNat)
                              case atStart => exact ⟨nk + nq, Nat.le_refl _, by go_num, rfl, fun y h1 h2 => by omega⟩
                              case round =>
                                obtain ⟨x, hx, rfl, rfl, hno⟩ := hrel
                                rcases Nat.eq_zero_or_pos x with rfl | hxp
                                · have hlk : lk K V (nk + nq) (s.extract 0 j) = none := by
                                    rw [lk_above K V _ 0 (nk + nq) (by omega) (fun y h1 h2 => hno y h1 h2)]; rfl
                                  have e1 : ((0 : Nat) : Int) - 1 = -1 := by omega
                                  have hnext : scanAt s (lk K V (nk + nq)) j = scanAt s (lk K V (nk + nq)) s.size := by rw [← HSC.out, scan_miss s _ j HB47.out hlk]
                                  rw [e1]
                                  have HN := hideIt hnext
                                  clear hno hlk hnext e1
                                  go_wp2
                                  go_round
                                  case rel => first | exact ⟨j, by omega, rfl, rfl, rfl, HN.out⟩ | ((repeat apply Exists.intro); exact ⟨⟨j, by omega, rfl, rfl, rfl, HN.out⟩, rfl, rfl, rfl⟩)
                                  case measure => first | (simp [intOf]; done) | (simp [intOf]; omega)
                                · obtain ⟨y, rfl⟩ : ∃ y, x = y + 1 := ⟨x - 1, by omega⟩
                                  have e1 : ((y + 1 : Nat) : Int) - 1 = (y : Int) := by omega
                                  rw [e1]
                                  obtain ⟨key, hkey⟩ : ∃ p, p = K.getD y emp := ⟨_, rfl⟩
                                  obtain ⟨vv, hvv⟩ : ∃ p, p = V.getD y emp := ⟨_, rfl⟩
                                  obtain ⟨pre, hpre⟩ : ∃ p, p = s.extract 0 j := ⟨_, rfl⟩
                                  have hck := HPw.out.atK y (by omega)
                                  have hcv := HPw.out.atV y (by omega)
                                  rw [← hkey] at hck
                                  rw [← hvv] at hcv
                                  by_cases heq : key = pre
                                  · have hlk : lk K V (nk + nq) (s.extract 0 j) = some vv := by
                                      rw [lk_above K V _ (y + 1) (nk + nq) (by omega) (fun z h1 h2 => hno z h1 h2), lk, if_pos (by rw [← hkey, ← hpre]; exact heq), hvv]
                                    have hA : scanAt s (lk K V (nk + nq)) s.size = some (s.extract 0 j, vv) := by rw [← HSC.out, scan_hit s _ j vv HB47.out hlk]
                                    have hS : gS = s.extract 0 j := by rw [HGS.out, hA]; rfl
                                    have hBo : gB = !(vv.toList == [100, 105, 115, 97, 98, 108, 101]) := by rw [HGB.out, hA]; rfl
                                    have hteq : (key.toList == (s.extract 0 j).toList) = true := by rw [heq, hpre]; simp
                                    clear HGS HGB HSC HB47 hlk hA hno hkey hvv e1 heq hpre
                                    go_wp2
                                    go_ret
                                    exact ⟨rfl, HBw.out.alloc HBw.out.size _⟩
                                  · have hteq : (key.toList == (s.extract 0 j).toList) = false := by rw [← hpre]; exact toList_ne heq
                                    have hno' : Hid (∀ z, y ≤ z → z < nk + nq → K.getD z emp ≠ s.extract 0 j) := fun z h1 h2 => by
                                      by_cases e : z = y
                                      · rw [e, ← hkey, ← hpre]; exact heq
                                      · exact hno z (by omega) h2
                                    clear hno hkey hvv heq hpre e1
                                    go_wp2
                                    go_round
                                    case rel => exact ⟨y, by omega, rfl, rfl, hno'.out⟩
                                    case measure => first | (simp [intOf]; done) | (simp [intOf]; omega)
                            · have hne : ((s[j].toNat : Int) != 47) = true := by rw [← hbyte]; simpa using hb47
                              have hnext : scanAt s (lk K V (nk + nq)) j = scanAt s (lk K V (nk + nq)) s.size := by rw [← HSC.out, scanAt, if_neg hb47]
                              have HN := hideIt hnext
                              clear hbyte hb47 hnext
                              go_wp2
                              go_round
                              case rel => exact ⟨j, by omega, rfl, rfl, rfl, HN.out⟩
                              case measure => first | (simp [intOf]; done) | (simp [intOf]; omega)
end Go.Proofs.Ybulkbgqi
