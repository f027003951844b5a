import Derived.Test.YbulkbgqiReindex
namespace Go.Proofs.Ybulkbgqi
open Go.RowKit
set_option linter.unusedVariables false

theorem info44 : (Yba.prog.info? 44).map (fun i => (i.zero, i.size, i.bytes)) = some (some (.agg #[.int .u64 0, .int .u8 0, .bool false]), 3, 16) := by kernel_rfl

theorem row_some {w : World} {b : Nat} {e : TypeId} {s n : Nat} {v : Value} {xs : List Value} (h : w.ownsRow b e s v n xs) (hn : 0 < n) : ∃ g cap, v = .slice (some ⟨g, 0, none⟩) n cap := by
  obtain ⟨-, ⟨_, h0⟩ | ⟨g, cp, cur, hv, -⟩⟩ := h
  · omega
  · exact ⟨g, cp, hv⟩

theorem gcell_new (w : World) (md : Nat → Nat) (k : Nat) : ∀ j u, (gcell md k)[j]? = some u → (w.alloc (.cells #[.int .u64 (k : Int), .int .u8 ((md k : Nat) : Int), .bool false] 44)).cell? ((⟨w.heap.size, 0, none⟩ : Addr).add j) = some u := by
  intro j u hu
  match j, hu with
  | 0, hu => simp [gcell] at hu; subst hu; rw [Go.WideShapes.add_plain]; simp
  | 1, hu => simp [gcell] at hu; subst hu; rw [Go.WideShapes.add_plain]; simp
  | 2, hu => simp [gcell] at hu; subst hu; rw [Go.WideShapes.add_plain]; simp
  | j + 3, hu => simp [gcell] at hu

theorem gcell_one (md : Nat → Nat) (k : Nat) : ∀ u ∈ gcell md k, u.oneCell' = true := by
  intro u hu
  simp [gcell] at hu
  rcases hu with rfl | rfl | rfl <;> rfl

/-- Behind the append, and the list is stored. -/
theorem GC.append {w0 w w1 : World} {G k : Nat} {md : Nat → Nat} {v v' : Value} {ob : Obj} (h : GC w0 w G k k md v) (hown : w1.ownsRow w0.heap.size 44 3 v' (k + 1) (gcells md (k + 1))) (hg : (w.alloc ob).grownBy w1 v.ownBlock) (hl : v'.ownBlock = v.ownBlock ∨ v'.ownBlock = some (w.alloc ob).heap.size) :
    (w1.cell? ⟨G, 0, none⟩ = some v ∧ w1.frozen? ⟨G, 0, none⟩ = false) ∧ GC w0 (w1.setCell ⟨G, 0, none⟩ v') G (k + 1) k md v' ∧ (w1.setCell ⟨G, 0, none⟩ v').cell? ⟨G, 10, none⟩ = w.cell? ⟨G, 10, none⟩ ∧
    (∀ mb, mb < w.heap.size → mb ≠ G → v.ownBlock ≠ some mb → (w1.setCell ⟨G, 0, none⟩ v').heap[mb]? = w.heap[mb]? ∧ v'.ownBlock ≠ some mb) ∧ w.heap.size ≤ (w1.setCell ⟨G, 0, none⟩ v').heap.size := by
  have hs := h.bel.size
  have hsa : (w.alloc ob).heap.size = w.heap.size + 1 := by simp
  have hsz := hg.size
  have hss : (w1.setCell ⟨G, 0, none⟩ v').heap.size = w1.heap.size := by simp [World.setCell]
  have hbk : ∀ b, b < w.heap.size → v.ownBlock ≠ some b → w1.heap[b]? = w.heap[b]? := fun b hb hv => by
    rw [hg.block b (by omega) (fun e => hv e.symm), Below.heap_alloc _ _ _ hb]
  have eG := hbk G h.hG1 h.neG
  have cG : ∀ o, w1.cell? ⟨G, o, none⟩ = w.cell? ⟨G, o, none⟩ := fun o => World.cell?_of_block (w := w) eG
  have cS : ∀ o, o ≠ 0 → (w1.setCell ⟨G, 0, none⟩ v').cell? ⟨G, o, none⟩ = w.cell? ⟨G, o, none⟩ := fun o ho => by
    rw [World.cell?_setCell_other w1 ⟨G, 0, none⟩ ⟨G, o, none⟩ v' (fun e => ho (congrArg Addr.off e).symm)]; exact cG o
  have fG : ∀ o, w1.frozen? ⟨G, o, none⟩ = false := fun o => (World.frozen?_of_block (w := w) eG).trans (h.free o)
  have hGv : v'.ownBlock ≠ some G := by
    rcases hl with e | e
    · rw [e]; exact h.neG
    · rw [e, hsa]; intro e'; have := Option.some.inj e'; have := h.hG1; omega
  have c00 : w1.cell? ⟨G, 0, none⟩ = some v := (cG 0).trans h.c0
  refine ⟨⟨c00, fG 0⟩, ⟨?_, h.hG0, by rw [hss]; have := h.hG1; omega, World.cell?_setCell_same w1 _ _ c00, row_keep hown (fun g e => Below.heap_setCell _ _ _ _ (fun e' => hGv (by rw [e, e']))), hGv, (cS 1 (by omega)).trans h.c1, fun m hm => ?_, ?_, (cS 11 (by omega)).trans h.wait, fun o => by rw [World.frozen?_setCell]; exact fG o⟩, cS 10 (by omega), fun mb hmb hne hv => ⟨?_, ?_⟩, by rw [hss]; omega⟩
  · refine h.bel.trans ⟨hg.os, hg.tape, hg.output, by rw [hss]; omega, fun b hb => ?_⟩
    have hbG : b ≠ G := by have := h.hG0; omega
    rw [Below.heap_setCell _ _ _ _ hbG]
    exact hbk b (by omega) (fun e => by have := (row_lt h.row b e).1; omega)
  · obtain ⟨c, hc, e⟩ := h.cnt m hm
    exact ⟨c, hc, (cS _ (by omega)).trans e⟩
  · obtain ⟨x, e⟩ := h.held
    exact ⟨x, (cS 9 (by omega)).trans e⟩
  · rw [Below.heap_setCell _ _ _ _ hne]
    exact hbk mb hmb hv
  · rcases hl with e | e
    · rw [e]; exact hv
    · rw [e, hsa]; intro e'; have := Option.some.inj e'; omega

set_option maxHeartbeats 1000000 in
theorem gadd_any (w0 w : World) (G k : Nat) (md : Nat → Nat) (v : Value) (hk : k ≤ 1100) (hmd : ∀ j, 1 ≤ md j ∧ md j ≤ 6) (h : GC w0 w G k k md v) (hI : GI w0 w G k v) :
    Calls Yba.prog 5 #[.pointer (some ⟨G, 0, none⟩), .int .u64 (k : Int), .int .u8 ((md k : Nat) : Int)] w fun e w' => e = .returned (.tuple #[]) ∧ ∃ v', GC w0 w' G (k + 1) (k + 1) md v' ∧ GI w0 w' G (k + 1) v' := by
  obtain ⟨i44, hi44, hz44, hs44, hb44⟩ := info_parts info44
  have hc0 := h.c0
  have hrow : (w.alloc (.cells #[.int .u64 (k : Int), .int .u8 ((md k : Nat) : Int), .bool false] 44)).ownsRow w0.heap.size 44 3 v k (gcells md k) := row_keep h.row (fun g e => Below.heap_alloc _ _ _ (row_lt h.row g e).2)
  have hsz := h.bel.size
  have H := hideIt h
  have HMD := hideIt hmd
  have HI := hideIt hI
  clear h hI hmd
  go_enter Yba.func5, Yba.ntmps5
  go_wp2_with (at_builtin; refine wpList_append_own_at _ rfl _ _ 25 rfl w0.heap.size 44 i44 (.agg #[.int .u64 0, .int .u8 0, .bool false]) 3 16 Yba.underlying25 hi44 hz44 hs44 hb44 rfl (by decide) v k (gcells md k) rfl hrow ⟨w.heap.size, 0, none⟩ 1 1 (gcell md k) rfl rfl (gcell_new w md k) (gcell_one md k) (by unfold maxLen; omega) (by omega) (by simp; omega) ?_)
  intro v' w1 hown hgrow _ hloc
  obtain ⟨⟨a1, a2⟩, hC1, hX, hK, hZ⟩ := H.out.append hown hgrow (by rw [World.size_alloc]; exact hloc)
  obtain ⟨gl, cap, rfl⟩ := row_some hown (by omega)
  obtain ⟨c, hcn, hcc⟩ := hC1.cnt (md k) (HMD.out k).2
  obtain ⟨hh, hhe⟩ := hC1.held
  obtain ⟨W1, hW1⟩ : ∃ W1, W1 = w1.setCell ⟨G, 0, none⟩ (.slice (some ⟨gl, 0, none⟩) (k + 1) cap) := ⟨_, rfl⟩
  rw [← hW1] at hC1 hX hK hZ hcc hhe
  have hcnt := counted_any G (md k) c hh W1 (HMD.out k).2 (by omega) hC1.hG1 hcc hhe hC1.free
  have HCNT := hideIt hcnt
  have HC1 := hideIt hC1
  clear hcnt hC1 hown hgrow hloc hcc hhe hrow
  go_wp2_with fail
  rw [← hW1]
  refine HCNT.out.mono ?_
  rintro e w2 ⟨rfl, w1', s, T1, e1, T2, e2⟩
  have hC2 := HC1.out.count (HMD.out k).2 hcn T1 e1 T2 e2
  have hX2 : w2.cell? ⟨G, 10, none⟩ = w.cell? ⟨G, 10, none⟩ := (T2.cells 10 (by omega)).trans ((T1.cells 10 (by have := (HMD.out k).2; omega)).trans hX)
  have hZ2 : w.heap.size ≤ w2.heap.size := Nat.le_trans hZ (Nat.le_trans T1.size T2.size)
  have hK2 : ∀ mb, mb < w.heap.size → mb ≠ G → v.ownBlock ≠ some mb → w2.heap[mb]? = w.heap[mb]? ∧ (Value.slice (some ⟨gl, 0, none⟩) (k + 1) cap).ownBlock ≠ some mb := fun mb hmb hne hv => by
    obtain ⟨q1, q2⟩ := hK mb hmb hne hv
    have s1 := T1.size
    exact ⟨(T2.block mb (by omega) hne (fun e => by cases e)).trans ((T1.block mb (by omega) hne (fun e => by cases e)).trans q1), q2⟩
  clear hW1 a1 a2 hX hK hZ T1 e1 T2 e2 HCNT HC1 hc0
  have c0 := hC2.c0
  rcases HI.out with ⟨hk8, hi⟩ | ⟨hk9, mb, n, hi, hM, hn, hmG, hmv, hmb0, hmb1⟩
  · rw [hi] at hX2
    have me := map_ne0 w2
    by_cases hk7 : k ≤ 7
    · have HC2 := hideIt hC2
      clear hC2 hK2
      go_wp2
      go_end0
      exact ⟨rfl, _, HC2.out, .inl ⟨by omega, hX2⟩⟩
    · have hk8' : k = 8 := by omega
      have hg1 := row_lt hC2.row gl rfl
      have hne : gl ≠ G := fun e => hC2.neG (by rw [e]; rfl)
      have hcells : ∀ j, j < k + 1 → w2.cell? ⟨gl, j * 3, none⟩ = some (.int .u64 (j : Int)) ∧ w2.cell? ⟨gl, j * 3 + 1, none⟩ = some (.int .u8 ((md j : Nat) : Int)) ∧ w2.cell? ⟨gl, j * 3 + 2, none⟩ = some (.bool false) := fun j hj =>
        ⟨row_get hC2.row (j * 3) _ (by have := gcells_get md 0 (by omega) (k + 1) j hj; simpa [gcell] using this), row_get hC2.row (j * 3 + 1) _ (by have := gcells_get md 1 (by omega) (k + 1) j hj; simpa [gcell] using this), row_get hC2.row (j * 3 + 2) _ (by have := gcells_get md 2 (by omega) (k + 1) j hj; simpa [gcell] using this)⟩
      have hre := reindex_any G gl (k + 1) cap md w2 (by omega) (by omega) hC2.hG1 hg1.2 hne c0 hX2 hC2.free hcells (fun j => (HMD.out j).1)
      have HRE := hideIt hre
      have HC2 := hideIt hC2
      clear hC2 hK2 hre hcells
      go_wp2_with fail
      refine HRE.out.mono ?_
      rintro e w3 ⟨rfl, T3, mb, m1, m2, m3, m4⟩
      go_wp2
      go_end0
      exact ⟨rfl, _, HC2.out.turn10 T3, .inr ⟨by omega, mb, k + 1, m1, m2, Nat.le_refl _, by have := HC2.out.hG1; omega, fun e => by have e' : gl = mb := Option.some.inj e; omega, by have := HC2.out.bel.size; omega, m4⟩⟩
  · rw [hi] at hX2
    have me := map_ne1 mb w2
    obtain ⟨q1, q2⟩ := hK2 mb hmb1 hmG hmv
    have hM2 : IMap w2.drew mb n := (hM.keep q1).keep rfl
    obtain ⟨w3, hrun, hM3, hg3⟩ := hM2.put (by omega) k k (by omega) (by omega)
    have hC3 := hC2.map (w' := w3) ⟨hg3.os, hg3.tape, hg3.output, hg3.size, hg3.block⟩ hmG q2 hmb0
    have hX3 : w3.cell? ⟨G, 10, none⟩ = some (.map (some mb)) := (World.cell?_of_block (w := w2) (hg3.block G hC2.hG1 (fun e => hmG (Option.some.inj e).symm))).trans hX2
    have hz3 : w2.heap.size ≤ w3.heap.size := hg3.size
    have HRES : Hid (GC w0 w3 G (k + 1) (k + 1) md (.slice (some ⟨gl, 0, none⟩) (k + 1) cap) ∧ GI w0 w3 G (k + 1) (.slice (some ⟨gl, 0, none⟩) (k + 1) cap)) :=
      hideIt ⟨hC3, .inr ⟨by omega, mb, n + 1, hX3, hM3, by omega, hmG, q2, hmb0, by omega⟩⟩
    clear hC2 hK2 hM2 hM3 hg3 hC3 hX3 q1 q2 hM HI
    go_wp2
    go_region
    all_goals go_wp2
    all_goals go_end0
    all_goals exact ⟨rfl, _, HRES.out.1, HRES.out.2⟩

end Go.Proofs.Ybulkbgqi
