import Derived.Test.YbulkbgrkKit
namespace Go.Proofs.Ybulkbgrk
open Go.RowKit
set_option linter.unusedVariables false

theorem cells27 : Yba.prog.cellsOf 27 = 4 := by kernel_rfl

theorem start_zero (v : Value) (w : World) : Calls Yba.prog 7 #[v, .int .i64 0] w fun e w' => e = .returned (.int .i64 0) ∧ w' = w := by
  go_enter Yba.func7, Yba.ntmps7
  go_wp2
  go_ret
  exact ⟨rfl, rfl⟩

theorem start_pos (rb M n cap k : Nat) (x : Int) (w : World) (hk : k < n) (hn : n ≤ 1024) (hf : w.cell? ⟨rb, 18, none⟩ = some (.slice (some ⟨M, 0, none⟩) n cap)) (hc : w.cell? ⟨M, k * 4 + 1, none⟩ = some (.int .i64 x)) :
    Calls Yba.prog 7 #[.pointer (some ⟨rb, 0, none⟩), .int .i64 ((k : Int) + 1)] w fun e w' => e = .returned (.int .i64 x) ∧ w' = w := by
  have hz : ((k : Int) + 1 == 0) = false := by simp; omega
  go_enter Yba.func7, Yba.ntmps7
  go_wp2
  go_ret
  exact ⟨rfl, rfl⟩

/-- a row of n spans, each of four cells, whole zero. -/
def spanZero : Array Value := #[.int .i64 0, .int .i64 0, .int .i64 0, .int .u8 0]

theorem info27 : (Yba.prog.info? 27).map (fun i => (i.zero, i.size, i.bytes)) = some (some (.agg spanZero), 4, 32) := by kernel_rfl

theorem make_spans (l c : Nat) (hl : l ≤ c) (hc : c ≤ 1024) (w : World) :
    (Instr.makeSlice 24 (.int .i64 (l : Int)) (.int .i64 (c : Int))).run Yba.prog w = .ok (.slice (some ⟨w.heap.size, 0, none⟩) l c) (w.alloc (.cells (madeCells spanZero (c * 4)) 27)) := by
  obtain ⟨i0, hi, hz0, hz1, hz2⟩ := info_parts info27
  have h := run_make (P := Yba.prog) (w := w) 24 27 i0 _ Yba.underlying24 hi hz0 .i64 .i64 (l : Int) (c : Int) (by omega) (by omega) (by rw [hz2]; omega) (by omega)
  rw [h, hz1]
  rfl
end Go.Proofs.Ybulkbgrk
