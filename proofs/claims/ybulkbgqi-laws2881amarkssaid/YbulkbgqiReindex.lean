import Derived.Test.YbulkbgqiGrants
namespace Go.Proofs.Ybulkbgqi
open Go.RowKit
set_option linter.unusedVariables false

theorem map_eq (w : World) : (binOp .eql 28 (.map none) (.map none)).run Yba.prog w = .ok (.bool true) w := by
  simp [binOp, go_sem, run_equal_map_nil w 28 34 3 none Yba.underlying28]
theorem map_ne0 (w : World) : (binOp .neq 28 (.map none) (.map none)).run Yba.prog w = .ok (.bool false) w := by
  simp [binOp, go_sem, run_equal_map_nil w 28 34 3 none Yba.underlying28]
theorem map_ne1 (mb : Nat) (w : World) : (binOp .neq 28 (.map (some mb)) (.map none)).run Yba.prog w = .ok (.bool true) w := by
  simp [binOp, go_sem, run_equal_map_nil w 28 34 3 (some mb) Yba.underlying28]
theorem make_idx (k : Nat) (w : World) : (Instr.makeMap 28 (some (.int .i64 (k : Int)))).run Yba.prog w = .ok (.map (some w.heap.size)) (w.alloc (.map #[] 0)) := by
  simp [Instr.makeMap, run_underlying Yba.underlying28, asInt, asIntOf]

def RI (w wr : World) (G mb j : Nat) : Prop := Turn w wr G 10 [] ∧ wr.cell? ⟨G, 10, none⟩ = some (.map (some mb)) ∧ IMap wr mb j ∧ w.heap.size ≤ mb ∧ mb < wr.heap.size

set_option maxHeartbeats 1000000 in
theorem reindex_any (G gl k cap : Nat) (md : Nat → Nat) (w : World) (hk : 9 ≤ k) (hk2 : k ≤ 2000) (hG : G < w.heap.size) (hgl : gl < w.heap.size) (hne : gl ≠ G) (h0 : w.cell? ⟨G, 0, none⟩ = some (.slice (some ⟨gl, 0, none⟩) k cap)) (h10 : w.cell? ⟨G, 10, none⟩ = some (.map none)) (hf : ∀ o, w.frozen? ⟨G, o, none⟩ = false)
    (hc : ∀ j, j < k → w.cell? ⟨gl, j * 3, none⟩ = some (.int .u64 (j : Int)) ∧ w.cell? ⟨gl, j * 3 + 1, none⟩ = some (.int .u8 ((md j : Nat) : Int)) ∧ w.cell? ⟨gl, j * 3 + 2, none⟩ = some (.bool false)) (hmd : ∀ j, 1 ≤ md j) :
    Calls Yba.prog 14 #[.pointer (some ⟨G, 0, none⟩)] w fun e w' => e = .returned (.tuple #[]) ∧ Turn w w' G 10 [] ∧ ∃ mb, w'.cell? ⟨G, 10, none⟩ = some (.map (some mb)) ∧ IMap w' mb k ∧ w.heap.size ≤ mb ∧ mb < w'.heap.size := by
  have hf10 := hf 10
  have HC := hideIt hc
  have HF := hideIt hf
  clear hc hf
  have me := map_eq w
  have mk := make_idx k w
  go_enter Yba.func14, Yba.ntmps14
  go_wp2
  have hst : RI w ((w.setCell ⟨G, 10, none⟩ (.map (some w.heap.size))).alloc (.map #[] 0)) G w.heap.size 0 := by
    have hsz : (w.setCell ⟨G, 10, none⟩ (.map (some w.heap.size))).heap.size = w.heap.size := by simp [World.setCell]
    refine ⟨((Turn.refl w G 10 []).setA _).alloc _ hG, ?_, ?_, Nat.le_refl _, by simp [hsz]⟩
    · rw [World.cell?_of_block (Below.heap_alloc _ _ _ (by rw [hsz]; exact hG))]
      exact World.cell?_setCell_same w _ _ h10
    · have := IMap.made (w.setCell ⟨G, 10, none⟩ (.map (some w.heap.size)))
      rw [hsz] at this
      exact this
  have HST := hideIt hst
  clear hst me mk
  go_loopw [36] (fun jv wr => ∃ j : Nat, jv = .int .i64 (j : Int) ∧ j ≤ k ∧ RI w wr G w.heap.size j) (fun jv _ => k - (intOf jv).toNat)
  case atStart => exact ⟨0, rfl, Nat.zero_le _, HST.out⟩
  case round =>
    obtain ⟨j, rfl, hj, hR⟩ := hrel
    by_cases hlt : j < k
    · obtain ⟨hT, h10', hM, hb1, hb2⟩ := hR
      obtain ⟨x0, x1, x2⟩ := HC.out j hlt
      have hgb : wr.heap[gl]? = w.heap[gl]? := hT.block gl hgl hne (fun e => by cases e)
      have y0 := (World.cell?_of_block (w := w) (a := ⟨gl, j * 3, none⟩) hgb).trans x0
      have y1 := (World.cell?_of_block (w := w) (a := ⟨gl, j * 3 + 1, none⟩) hgb).trans x1
      have y2 := (World.cell?_of_block (w := w) (a := ⟨gl, j * 3 + 2, none⟩) hgb).trans x2
      have hji : (j : Int) < (k : Int) := by omega
      have hm1 := hmd j
      obtain ⟨mj, hmj⟩ : ∃ mj, mj = md j := ⟨_, rfl⟩
      rw [← hmj] at y1 hm1
      have hmz : ((mj : Int) != 0) = true := by simp; omega
      have HT := hideIt hT
      have HM := hideIt hM
      clear hT hM x0 x1 x2 hgb h0 h10 hmj hf10
      go_wp2
      obtain ⟨W2, hW2⟩ : ∃ W2, W2 = wr.alloc (.cells #[.int .u64 (j : Int), .int .u8 (mj : Int), .bool false] 44) := ⟨_, rfl⟩
      have hbk : ∀ b, b < wr.heap.size → W2.heap[b]? = wr.heap[b]? := fun b hb => by rw [hW2]; exact Below.heap_alloc _ _ _ hb
      have hGr : G < wr.heap.size := Nat.lt_of_lt_of_le hG HT.out.size
      have z10 : W2.cell? ⟨G, 10, none⟩ = some (.map (some w.heap.size)) := (World.cell?_of_block (w := wr) (hbk G hGr)).trans h10'
      have z0 : W2.cell? ⟨wr.heap.size, 0, none⟩ = some (.int .u64 (j : Int)) := by rw [hW2]; simp
      have T2 : Turn w W2 G 10 [] := by rw [hW2]; exact HT.out.alloc _ hG
      have M2 : IMap W2.drew w.heap.size j := (HM.out.keep (hbk _ hb2)).keep rfl
      have hs2 : wr.heap.size ≤ W2.heap.size := by rw [hW2]; simp
      obtain ⟨W3, hrun, hM3, hg3⟩ := M2.put (by omega) j j (by omega) (by omega)
      have T3 : Turn w W3 G 10 [] := T2.drew.grown hg3 hG (fun g e => by cases e; exact ⟨by omega, .inr (Nat.le_refl _)⟩)
      have c3 : W3.cell? ⟨G, 10, none⟩ = some (.map (some w.heap.size)) := (World.cell?_of_block (w := W2) (hg3.block G (Nat.lt_of_lt_of_le hGr hs2) (fun e => by have := Option.some.inj e; omega))).trans z10
      have hs3 : w.heap.size < W3.heap.size := Nat.lt_of_lt_of_le (Nat.lt_of_lt_of_le hb2 hs2) hg3.size
      have HRI : Hid (RI w W3 G w.heap.size (j + 1)) := hideIt ⟨T3, c3, hM3, Nat.le_refl _, hs3⟩
      rw [← hW2]
      clear hW2 hbk hM3 hg3 T2 M2 T3 c3 hs3 HM HT y0 y1 y2 h10' hs2
      go_region
      all_goals go_wp2
      all_goals go_roundw
      all_goals first | exact ⟨j + 1, by simp, by omega, HRI.out⟩ | (simp [intOf]; omega)
    · have hjk : j = k := by omega
      subst hjk
      clear hlt
      have HR := hideIt hR
      clear hR h0 h10 hf10
      go_wp2
      go_end0
      exact ⟨rfl, HR.out.1, w.heap.size, HR.out.2⟩

end Go.Proofs.Ybulkbgqi
