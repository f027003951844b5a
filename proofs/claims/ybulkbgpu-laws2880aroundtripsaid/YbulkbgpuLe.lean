import Derived.Test.YbulkbgpuShelf
import Derived.WalkKit
import Derived.ProofKit
import Derived.Below
import Derived.Maps.AppendAt
import Derived.Outline
namespace Go.Proofs.Ybulkbgpu
set_option linter.unusedVariables false
open Go.RowKit

def leC (v k : Nat) : List Value := Lib.byteCells (Lib.leBytes k v)

theorem leBytes_snoc : ∀ (k v : Nat), Lib.leBytes (k + 1) v = Lib.leBytes k v ++ [(v / 256 ^ k % 256).toUInt8]
  | 0, v => by simp [Lib.leBytes]
  | k + 1, v => by
    have h := leBytes_snoc k (v / 256)
    rw [Lib.leBytes, h, Lib.leBytes]
    simp only [List.cons_append, Nat.div_div_eq_div_mul]
    rw [show 256 * 256 ^ k = 256 ^ (k + 1) from by rw [Nat.pow_succ, Nat.mul_comm]]

theorem leC_snoc (v k : Nat) : leC v (k + 1) = leC v k ++ [Value.int .u8 ((v / 256 ^ k % 256 : Nat) : Int)] := by
  unfold leC
  rw [leBytes_snoc]
  simp only [Lib.byteCells, List.map_append, List.map_cons, List.map_nil, Lib.toUInt8_mod]

theorem byte_at (v k : Nat) : ((v / 256 ^ k % 256 : Nat) : Int) = (v : Int) / 2 ^ (8 * k) % 256 := by
  rw [Int.pow_mul]; simp

theorem leC_next (v k : Nat) : leC v k ++ [Value.int .u8 ((v : Int) / 2 ^ (8 * k) % 256)] = leC v (k + 1) := by
  rw [leC_snoc, byte_at]

/-- what the loop's appended row is when 'm' bytes 'pre' lie ahead. -/
theorem pre_next (pre : List Value) (v k : Nat) : (pre ++ leC v k) ++ [Value.int .u8 ((v : Int) / 2 ^ (8 * k) % 256)] = pre ++ leC v (k + 1) := by
  rw [List.append_assoc, leC_next]

theorem first8 (w : World) (v : Nat) : (w.alloc (.cells (Array.replicate 12 (.int .u8 0)) 5)).ownsRow w.heap.size 5 1 (.slice (some ⟨w.heap.size, 0, none⟩) 0 12) 0 (leC v 0) :=
  ⟨rfl, .inr ⟨w.heap.size, 12, (Array.replicate 12 (.int .u8 0)), rfl, Nat.le_refl _, heap_alloc_new w _, by omega, by unfold maxLen; omega, by simp, rfl⟩⟩

theorem one_cell (k : IntKind) (x : Int) : ∀ u ∈ [Value.int k x], u.oneCell' = true := by
  intro u hu; simp at hu; subst hu; rfl

theorem size1 {n : Nat} {w : World} (o : Obj) (h : n ≤ w.heap.size) : n ≤ (w.alloc o).heap.size := by simp; omega

theorem loop_below {w wr w1 : World} {s : Value} {n : Nat} {xs : List Value} {o : Obj} (hown : wr.ownsRow w.heap.size 5 1 s n xs) (hnx : Below w.heap.size w wr) (hgrow : (wr.alloc o).grownBy w1 s.ownBlock) : Below w.heap.size w w1 :=
  (hnx.alloc hnx.size o).grown hgrow (by have := hnx.size; simp; omega) (fun k hk => (hown.lt k hk).1)

set_option maxHeartbeats 400000 in
theorem le_one (seq version dest : Int) (v : Nat) (hv : IntKind.u64.wrap seq = v) (hvlt : v < 18446744073709551616) (hver : (version == 1) = true) (w : World) :
    Calls Yba.prog 6 #[.int .i64 seq, .int .i64 version, .int .i64 dest] w fun e w' => ∃ v', e = .returned v' ∧ w'.ownsRow w.heap.size 5 1 v' 8 (leC v 8) ∧ Below w.heap.size w w' := by
  have hmk : ∀ w, (Instr.makeSlice 28 (.int .i64 0) (.int .i64 12)).run Yba.prog w = .ok (.slice (some ⟨w.heap.size, 0, none⟩) 0 12) (w.alloc (.cells (Array.replicate 12 (.int .u8 0)) 5)) := fun _ => by kernel_rfl
  obtain ⟨i0, hi, hz0, hz1, hz2⟩ := info_parts Yba.laysBin35.i5
  have hst := first8 w v
  go_enter Yba.func6, Yba.ntmps6
  go_wp2
  go_loopw [7, 9] (fun s i wr => ∃ k : Nat, k ≤ 8 ∧ i = .int .i64 k ∧ wr.ownsRow w.heap.size 5 1 s k (leC v k) ∧ Below w.heap.size w wr) (fun _ i _ => 8 - (intOf i).toNat)
  case atStart =>
    exact ⟨0, by omega, rfl, hst, (Below.refl _ _).alloc (Nat.le_refl _) _⟩
  case round =>
    obtain ⟨k, hk, rfl, hown, hnx⟩ := hrel
    by_cases hlt : k < 8
    · have h64 : ¬ (64 : Int) ≤ 8 * (k : Int) := by omega
      have hsz := hnx.size
      have h3 : k + 1 ≤ maxLen := by unfold maxLen; omega
      have h4 : (k + 1) * 1 ≤ 140737488355328 := by omega
      go_wp2_with (at_builtin; refine wpList_append_own _ rfl _ _ 28 rfl w.heap.size 5 i0 (.int .u8 0) 1 1 Yba.underlying28 hi hz0 hz1 hz2 rfl (by decide) _ _ _ rfl (hown.alloc _) ⟨wr.heap.size, 0, none⟩ 1 1 [.int .u8 ((v : Int) / 2 ^ (8 * k) % 256)] rfl rfl (cell_one_new _ _ _) (one_cell _ _) h3 h4 (size1 _ hsz) ?_)
      intro s' w1 hown' hgrow _
      rw [leC_next] at hown'
      have hbl := loop_below hown hnx hgrow
      clear hown hnx hgrow hst
      go_wp2
      go_roundw
      case rel => exact ⟨k + 1, by omega, by go_num, hown', hbl⟩
      case measure => simp [intOf]; omega
    · obtain rfl : k = 8 := by omega
      go_wp2
      go_ret
      exact ⟨_, rfl, hown, hnx⟩

set_option maxHeartbeats 800000 in
theorem le_two (seq version dest : Int) (v d : Nat) (hv : IntKind.u64.wrap seq = v) (hvlt : v < 18446744073709551616) (hd : IntKind.u32.wrap (wrap64 (dest + 1)) = d) (hdlt : d < 4294967296) (hver : (version == 1) = false) (w : World) :
    Calls Yba.prog 6 #[.int .i64 seq, .int .i64 version, .int .i64 dest] w fun e w' => ∃ v', e = .returned v' ∧ w'.ownsRow w.heap.size 5 1 v' 12 (leC v 8 ++ leC d 4) ∧ Below w.heap.size w w' := by
  have hmk : ∀ w, (Instr.makeSlice 28 (.int .i64 0) (.int .i64 12)).run Yba.prog w = .ok (.slice (some ⟨w.heap.size, 0, none⟩) 0 12) (w.alloc (.cells (Array.replicate 12 (.int .u8 0)) 5)) := fun _ => by kernel_rfl
  obtain ⟨i0, hi, hz0, hz1, hz2⟩ := info_parts Yba.laysBin35.i5
  have hst := first8 w v
  go_enter Yba.func6, Yba.ntmps6
  go_wp2
  go_loopw [7, 9] (fun s i wr => ∃ k : Nat, k ≤ 8 ∧ i = .int .i64 k ∧ wr.ownsRow w.heap.size 5 1 s k (leC v k) ∧ Below w.heap.size w wr) (fun _ i _ => 8 - (intOf i).toNat)
  case atStart =>
    exact ⟨0, by omega, rfl, hst, (Below.refl _ _).alloc (Nat.le_refl _) _⟩
  case round =>
    obtain ⟨k, hk, rfl, hown, hnx⟩ := hrel
    by_cases hlt : k < 8
    · have h64 : ¬ (64 : Int) ≤ 8 * (k : Int) := by omega
      have hsz := hnx.size
      have h3 : k + 1 ≤ maxLen := by unfold maxLen; omega
      have h4 : (k + 1) * 1 ≤ 140737488355328 := by omega
      go_wp2_with (at_builtin; refine wpList_append_own _ rfl _ _ 28 rfl w.heap.size 5 i0 (.int .u8 0) 1 1 Yba.underlying28 hi hz0 hz1 hz2 rfl (by decide) _ _ _ rfl (hown.alloc _) ⟨wr.heap.size, 0, none⟩ 1 1 [.int .u8 ((v : Int) / 2 ^ (8 * k) % 256)] rfl rfl (cell_one_new _ _ _) (one_cell _ _) h3 h4 (size1 _ hsz) ?_)
      intro s' w1 hown' hgrow _
      rw [leC_next] at hown'
      have hbl := loop_below hown hnx hgrow
      clear hown hnx hgrow hst
      go_wp2
      go_roundw
      case rel => exact ⟨k + 1, by omega, by go_num, hown', hbl⟩
      case measure => simp [intOf]; omega
    · obtain rfl : k = 8 := by omega
      have hst2 : wr.ownsRow w.heap.size 5 1 u7 (8 + 0) (leC v 8 ++ leC d 0) := by simpa [leC, Lib.leBytes, Lib.byteCells] using hown
      clear hst hown
      go_wp2
      go_loopw [7, 11] (fun s i wr => ∃ k : Nat, k ≤ 4 ∧ i = .int .i64 k ∧ wr.ownsRow w.heap.size 5 1 s (8 + k) (leC v 8 ++ leC d k) ∧ Below w.heap.size w wr) (fun _ i _ => 4 - (intOf i).toNat)
      case atStart =>
        exact ⟨0, by omega, rfl, hst2, hnx⟩
      case round =>
        clear hst2 hnx
        obtain ⟨k, hk, rfl, hown, hnx⟩ := hrel
        by_cases hlt : k < 4
        · have h64 : ¬ (32 : Int) ≤ 8 * (k : Int) := by omega
          have hsz := hnx.size
          have h3 : 8 + k + 1 ≤ maxLen := by unfold maxLen; omega
          have h4 : (8 + k + 1) * 1 ≤ 140737488355328 := by omega
          go_wp2_with (at_builtin; refine wpList_append_own _ rfl _ _ 28 rfl w.heap.size 5 i0 (.int .u8 0) 1 1 Yba.underlying28 hi hz0 hz1 hz2 rfl (by decide) _ _ _ rfl (hown.alloc _) ⟨wr.heap.size, 0, none⟩ 1 1 [.int .u8 ((d : Int) / 2 ^ (8 * k) % 256)] rfl rfl (cell_one_new _ _ _) (one_cell _ _) h3 h4 (size1 _ hsz) ?_)
          intro s' w1 hown' hgrow _
          rw [leC_next] at hown'
          have hbl := loop_below hown hnx hgrow
          clear hown hnx hgrow
          go_wp2
          go_roundw
          case rel => first | exact ⟨k + 1, by omega, by go_num, hown', hbl⟩ | ((repeat apply Exists.intro); exact ⟨⟨k + 1, by omega, by go_num, hown', hbl⟩, rfl⟩)
          case measure => simp [intOf]; omega
        · obtain rfl : k = 4 := by omega
          go_wp2
          go_ret
          exact ⟨_, rfl, hown, hnx⟩
end Go.Proofs.Ybulkbgpu
