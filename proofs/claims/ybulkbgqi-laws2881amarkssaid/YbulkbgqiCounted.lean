import Derived.Test.YbulkbgqiTree
namespace Go.Proofs.Ybulkbgqi
open Go.RowKit
set_option linter.unusedVariables false

theorem setOf_any (b m : Nat) (hm : m ≤ 6) (w : World) (h : w.cell? ⟨b, 0, none⟩ = some (.int .u8 (m : Int))) :
    Calls Yba.prog 18 #[.slice (some ⟨b, 0, none⟩) 1 1] w fun e w' => (∃ s, e = .returned (.int .u8 s)) ∧ w' = w := by
  go_enter Yba.func18, Yba.ntmps18
  go_wp2
  refine wp_loop_rounds 2 ?_
  rw [rounds_succ]
  go_wp2
  rw [rounds_succ]
  go_wp2
  go_ret
  exact ⟨⟨_, rfl⟩, rfl⟩

theorem cell_set_alloc (W1 : World) (G o : Nat) (u v : Value) (ob : Obj) (h : W1.cell? ⟨G, o, none⟩ = some v) (hG : G < W1.heap.size) : ((W1.setCell ⟨G, o, none⟩ u).alloc ob).drew.cell? ⟨G, o, none⟩ = some u := by
  show ((W1.setCell ⟨G, o, none⟩ u).alloc ob).cell? ⟨G, o, none⟩ = some u
  rw [World.cell?_of_block (Below.heap_alloc _ _ _ (by simpa [World.setCell] using hG))]
  exact World.cell?_setCell_same W1 _ _ h

set_option maxHeartbeats 1000000 in
theorem counted_any (G m c : Nat) (h : Int) (w : World) (hm : m ≤ 6) (hc : c ≤ 2000) (hG : G < w.heap.size) (h2 : w.cell? ⟨G, 2 + m, none⟩ = some (.int .i64 (c : Int))) (h9 : w.cell? ⟨G, 9, none⟩ = some (.int .u8 h)) (hf : ∀ o, w.frozen? ⟨G, o, none⟩ = false) :
    Calls Yba.prog 13 #[.pointer (some ⟨G, 0, none⟩), .int .u8 (m : Int), .int .i64 1] w fun e w' => e = .returned (.tuple #[]) ∧ ∃ w1 s, Turn w w1 G (2 + m) [] ∧ w1.cell? ⟨G, 2 + m, none⟩ = some (.int .i64 ((c : Int) + 1)) ∧ Turn w1 w' G 9 [] ∧ w'.cell? ⟨G, 9, none⟩ = some (.int .u8 s) := by
  have hf2 := hf (2 + m)
  have hf9 := hf 9
  have hw1 : IntKind.i64.wrap ((c : Int) + 1) = ((c : Int) + 1) := by rw [IntKind.wrap_i64]; omega
  have hpos : (0 : Int) < ((c : Int) + 1) := by omega
  have hne : (2 + m) ≠ 9 := by omega
  have HH := hideIt hf
  clear hf
  go_enter Yba.func13, Yba.ntmps13
  go_wp2
  go_region
  go_wp2
  obtain ⟨W1, hW1⟩ : ∃ W1, W1 = (w.setCell ⟨G, 2 + m, none⟩ (.int .i64 ((c : Int) + 1))).drew := ⟨_, rfl⟩
  have T1 : Turn w W1 G (2 + m) [] := by rw [hW1]; exact ((Turn.refl w G (2 + m) []).setA _).drew
  have c1 : W1.cell? ⟨G, 2 + m, none⟩ = some (.int .i64 ((c : Int) + 1)) := by rw [hW1]; exact World.cell?_setCell_same w _ _ h2
  have c9 : W1.cell? ⟨G, 9, none⟩ = some (.int .u8 h) := (T1.cells 9 (fun e => hne e.symm)).trans h9
  have f9 : W1.frozen? ⟨G, 9, none⟩ = false := (T1.free 9).trans hf9
  have s1 : G < W1.heap.size := Nat.lt_of_lt_of_le hG T1.size
  have HT := hideIt T1
  have HC := hideIt c1
  have hcn : (W1.drew.alloc (.cells #[.int .u8 (m : Int)] 35)).cell? ⟨W1.heap.size, 0, none⟩ = some (.int .u8 (m : Int)) := cell_one_new W1.drew _ 35 0 _ rfl
  have HN := hideIt hcn
  rw [← hW1]
  clear hW1 T1 c1 h2 h9 hf2 hf9 hcn
  go_region_with (go_at_call 18; refine (setOf_any W1.heap.size m hm _ HN.out).mono ?_; rintro e w' ⟨⟨s, rfl⟩, rfl⟩)
  all_goals go_wp2
  all_goals go_end0
  all_goals exact ⟨rfl, W1, _, HT.out, HC.out, (((Turn.refl W1 G 9 []).setA _).alloc _ s1).drew, cell_set_alloc W1 G 9 _ _ _ c9 s1⟩

end Go.Proofs.Ybulkbgqi
