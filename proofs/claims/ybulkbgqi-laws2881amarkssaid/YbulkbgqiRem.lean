import Derived.Test.YbulkbgqiSet2
import Derived.RegionTactic
namespace Go.Proofs.Ybulkbgqi
open Go.RowKit
set_option linter.unusedVariables false

theorem rem_nil (A m : Nat) (i : Nat) (w : World) (hi : i ≤ 1024) (hv : w.cell? ⟨A, m, none⟩ = some (.slice none 0 0)) :
    Calls Yba.prog 16 #[.pointer (some ⟨A, m, none⟩), .int .i64 (i : Int)] w fun e w' => e = .returned (.tuple #[]) ∧ w' = w := by
  go_enter Yba.func16, Yba.ntmps16
  go_wp2
  refine wp_loop_rounds 1 ?_
  rw [rounds_succ]
  go_wp2
  go_end0
  exact ⟨rfl, rfl⟩

theorem rem_far (A m i q L nl cL g0 len c0 : Nat) (w : World) (hi : i ≤ 1024) (hnl : 0 < nl) (hnl2 : nl ≤ 2) (hv : w.cell? ⟨A, m, none⟩ = some (.slice (some ⟨L, 0, none⟩) nl cL)) (hl0 : w.cell? ⟨L, 0, none⟩ = some (.slice (some ⟨g0, 0, none⟩) len c0))
    (hq : (i : Int) / 64 = (q : Int)) (hlen : len ≤ 17) (hge : len ≤ q) :
    Calls Yba.prog 16 #[.pointer (some ⟨A, m, none⟩), .int .i64 (i : Int)] w fun e w' => e = .returned (.tuple #[]) ∧ w' = w := by
  go_enter Yba.func16, Yba.ntmps16
  go_wp2
  refine wp_loop_rounds 1 ?_
  rw [rounds_succ]
  go_wp2
  refine bodyPost_ret (results_none rfl _ _ _) rfl ?_
  exact ⟨rfl, rfl⟩

set_option maxHeartbeats 1000000 in
/-- the word stays not zero. -/
theorem rem_stays (A m i q r L nl cL g0 len c0 x y : Nat) (w : World) (hi : i ≤ 1024) (hnl : 0 < nl) (hnl2 : nl ≤ 2) (hv : w.cell? ⟨A, m, none⟩ = some (.slice (some ⟨L, 0, none⟩) nl cL)) (hl0 : w.cell? ⟨L, 0, none⟩ = some (.slice (some ⟨g0, 0, none⟩) len c0))
    (hq : (i : Int) / 64 = (q : Int)) (hlen : len ≤ 17) (hlt : q < len) (hr : bits BinOp.and IntKind.i64 (i : Int) 63 = (r : Int)) (hr64 : r < 64) (hw : w.cell? ⟨g0, q, none⟩ = some (.int .u64 (x : Int))) (hf : w.frozen? ⟨g0, q, none⟩ = false)
    (hy : bits BinOp.andNot IntKind.u64 (x : Int) (IntKind.u64.wrap (2 ^ r)) = (y : Int)) (hyz : ((y : Int) != 0) = true) :
    Calls Yba.prog 16 #[.pointer (some ⟨A, m, none⟩), .int .i64 (i : Int)] w fun e w' => e = .returned (.tuple #[]) ∧ w' = (w.setCell ⟨g0, q, none⟩ (.int .u64 (y : Int))).drew := by
  have hqi2 : (q : Int) < (len : Int) := by omega
  go_enter Yba.func16, Yba.ntmps16
  go_wp2
  refine wp_loop_rounds 1 ?_
  rw [rounds_succ]
  go_wp2
  go_region
  go_wp2
  refine bodyPost_ret (results_none rfl _ _ _) rfl ?_
  exact ⟨rfl, rfl⟩

set_option maxHeartbeats 1000000 in
theorem rem_gone (A m i q r L cL g0 len c0 x : Nat) (w : World) (hi : i ≤ 1024) (hv : w.cell? ⟨A, m, none⟩ = some (.slice (some ⟨L, 0, none⟩) 1 cL)) (hl0 : w.cell? ⟨L, 0, none⟩ = some (.slice (some ⟨g0, 0, none⟩) len c0))
    (hq : (i : Int) / 64 = (q : Int)) (hlen : len ≤ 17) (hlt : q < len) (hr : bits BinOp.and IntKind.i64 (i : Int) 63 = (r : Int)) (hr64 : r < 64) (hw : w.cell? ⟨g0, q, none⟩ = some (.int .u64 (x : Int))) (hf : w.frozen? ⟨g0, q, none⟩ = false)
    (hy : bits BinOp.andNot IntKind.u64 (x : Int) (IntKind.u64.wrap (2 ^ r)) = 0) :
    Calls Yba.prog 16 #[.pointer (some ⟨A, m, none⟩), .int .i64 (i : Int)] w fun e w' => e = .returned (.tuple #[]) ∧ w' = (w.setCell ⟨g0, q, none⟩ (.int .u64 0)).drew := by
  have hqi2 : (q : Int) < (len : Int) := by omega
  go_enter Yba.func16, Yba.ntmps16
  go_wp2
  refine wp_loop_rounds 2 ?_
  rw [rounds_succ]
  go_wp2
  go_region
  go_wp2
  rw [rounds_succ]
  go_wp2
  go_end0
  exact ⟨rfl, rfl⟩

set_option maxHeartbeats 1000000 in
theorem rem_two (A m i q r L cL g0 len c0 x g1 c1 top y2 : Nat) (w : World) (hi : i ≤ 1024) (hv : w.cell? ⟨A, m, none⟩ = some (.slice (some ⟨L, 0, none⟩) 2 cL)) (hl0 : w.cell? ⟨L, 0, none⟩ = some (.slice (some ⟨g0, 0, none⟩) len c0))
    (hq : (i : Int) / 64 = (q : Int)) (hlen : len ≤ 17) (hlt : q < len) (hr : bits BinOp.and IntKind.i64 (i : Int) 63 = (r : Int)) (hr64 : r < 64) (hw : w.cell? ⟨g0, q, none⟩ = some (.int .u64 (x : Int))) (hf : w.frozen? ⟨g0, q, none⟩ = false)
    (hy : bits BinOp.andNot IntKind.u64 (x : Int) (IntKind.u64.wrap (2 ^ r)) = 0)
    (hl1 : (w.setCell ⟨g0, q, none⟩ (.int .u64 0)).cell? ⟨L, 1, none⟩ = some (.slice (some ⟨g1, 0, none⟩) 1 c1)) (hw1 : (w.setCell ⟨g0, q, none⟩ (.int .u64 0)).cell? ⟨g1, 0, none⟩ = some (.int .u64 (top : Int))) (hf1 : w.frozen? ⟨g1, 0, none⟩ = false)
    (hq0 : (q : Int) / 64 = 0) (hrq : bits BinOp.and IntKind.i64 (q : Int) 63 = (q : Int)) (hy2 : bits BinOp.andNot IntKind.u64 (top : Int) (IntKind.u64.wrap (2 ^ q)) = (y2 : Int)) (hy2z : ((y2 : Int) != 0) = true) :
    Calls Yba.prog 16 #[.pointer (some ⟨A, m, none⟩), .int .i64 (i : Int)] w fun e w' => e = .returned (.tuple #[]) ∧ w' = ((w.setCell ⟨g0, q, none⟩ (.int .u64 0)).setCell ⟨g1, 0, none⟩ (.int .u64 (y2 : Int))).drew.drew := by
  have hqi2 : (q : Int) < (len : Int) := by omega
  go_enter Yba.func16, Yba.ntmps16
  go_wp2
  refine wp_loop_rounds 2 ?_
  rw [rounds_succ]
  go_wp2
  go_region
  go_wp2
  rw [rounds_succ]
  go_wp2
  go_region
  go_wp2
  refine bodyPost_ret (results_none rfl _ _ _) rfl ?_
  exact ⟨rfl, rfl⟩

set_option maxHeartbeats 1000000 in
theorem rem_last (A m i q r L cL g0 len c0 x g1 c1 top : Nat) (w : World) (hi : i ≤ 1024) (hv : w.cell? ⟨A, m, none⟩ = some (.slice (some ⟨L, 0, none⟩) 2 cL)) (hl0 : w.cell? ⟨L, 0, none⟩ = some (.slice (some ⟨g0, 0, none⟩) len c0))
    (hq : (i : Int) / 64 = (q : Int)) (hlen : len ≤ 17) (hlt : q < len) (hr : bits BinOp.and IntKind.i64 (i : Int) 63 = (r : Int)) (hr64 : r < 64) (hw : w.cell? ⟨g0, q, none⟩ = some (.int .u64 (x : Int))) (hf : w.frozen? ⟨g0, q, none⟩ = false)
    (hy : bits BinOp.andNot IntKind.u64 (x : Int) (IntKind.u64.wrap (2 ^ r)) = 0)
    (hl1 : (w.setCell ⟨g0, q, none⟩ (.int .u64 0)).cell? ⟨L, 1, none⟩ = some (.slice (some ⟨g1, 0, none⟩) 1 c1)) (hw1 : (w.setCell ⟨g0, q, none⟩ (.int .u64 0)).cell? ⟨g1, 0, none⟩ = some (.int .u64 (top : Int))) (hf1 : w.frozen? ⟨g1, 0, none⟩ = false)
    (hq0 : (q : Int) / 64 = 0) (hrq : bits BinOp.and IntKind.i64 (q : Int) 63 = (q : Int)) (hy2 : bits BinOp.andNot IntKind.u64 (top : Int) (IntKind.u64.wrap (2 ^ q)) = 0) :
    Calls Yba.prog 16 #[.pointer (some ⟨A, m, none⟩), .int .i64 (i : Int)] w fun e w' => e = .returned (.tuple #[]) ∧ w' = ((w.setCell ⟨g0, q, none⟩ (.int .u64 0)).setCell ⟨g1, 0, none⟩ (.int .u64 0)).drew.drew := by
  have hqi2 : (q : Int) < (len : Int) := by omega
  go_enter Yba.func16, Yba.ntmps16
  go_wp2
  refine wp_loop_rounds 3 ?_
  rw [rounds_succ]
  go_wp2
  go_region
  go_wp2
  rw [rounds_succ]
  go_wp2
  go_region
  go_wp2
  rw [rounds_succ]
  go_wp2
  go_end0
  exact ⟨rfl, rfl⟩

end Go.Proofs.Ybulkbgqi
