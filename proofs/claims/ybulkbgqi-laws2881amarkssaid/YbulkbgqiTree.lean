import Derived.Test.YbulkbgqiAdd
namespace Go.Proofs.Ybulkbgqi
open Go.RowKit
set_option linter.unusedVariables false

theorem tree_nil (A m : Nat) (w : World) (hv : w.cell? ⟨A, m, none⟩ = some (.slice none 0 0)) :
    Calls Yba.prog 10 #[.pointer (some ⟨A, m, none⟩)] w fun e w' => e = .returned (.bool true) ∧ ∃ n, w' = w.drewN n := by
  go_enter Yba.func10, Yba.ntmps10
  go_wp2
  go_quiet (fail)
  go_wp2
  refine wp_loop_rounds 1 ?_
  rw [rounds_succ]
  go_wp2
  go_ret
  exact ⟨rfl, _, rfl⟩

set_option maxHeartbeats 1000000 in
theorem tree_one (A m L cL g0 c0 : Nat) (w : World) (hv : w.cell? ⟨A, m, none⟩ = some (.slice (some ⟨L, 0, none⟩) 1 cL)) (hl0 : w.cell? ⟨L, 0, none⟩ = some (.slice (some ⟨g0, 0, none⟩) 1 c0)) :
    Calls Yba.prog 10 #[.pointer (some ⟨A, m, none⟩)] w fun e w' => e = .returned (.bool true) ∧ ∃ n, w' = w.drewN n := by
  go_enter Yba.func10, Yba.ntmps10
  go_wp2
  go_quiet (fail)
  go_wp2
  refine wp_loop_rounds 1 ?_
  rw [rounds_succ]
  go_wp2
  go_ret
  exact ⟨rfl, _, rfl⟩

set_option maxHeartbeats 1000000 in
theorem tree_two (A m L cL g0 len c0 g1 c1 top : Nat) (x : Nat → Nat) (w : World) (hv : w.cell? ⟨A, m, none⟩ = some (.slice (some ⟨L, 0, none⟩) 2 cL)) (hl0 : w.cell? ⟨L, 0, none⟩ = some (.slice (some ⟨g0, 0, none⟩) len c0))
    (hl1 : w.cell? ⟨L, 1, none⟩ = some (.slice (some ⟨g1, 0, none⟩) 1 c1)) (hlen : len ≤ 17) (hw : ∀ q, q < len → w.cell? ⟨g0, q, none⟩ = some (.int .u64 ((x q : Nat) : Int))) (hw1 : w.cell? ⟨g1, 0, none⟩ = some (.int .u64 (top : Int))) (ht : top < 18446744073709551616)
    (hG : Hid (∀ q, q < len → top.testBit q = !(x q == 0))) :
    Calls Yba.prog 10 #[.pointer (some ⟨A, m, none⟩)] w fun e w' => e = .returned (.bool true) ∧ ∃ n, w' = w.drewN n := by
  have HW := hideIt hw
  clear hw
  go_enter Yba.func10, Yba.ntmps10
  go_wp2
  go_quiet (fail)
  go_wp2
  refine wp_loop_rounds 2 ?_
  rw [rounds_succ]
  go_wp2
  go_loopw [6] (fun jv wr => ∃ (j n : Nat), jv = .int .i64 (j : Int) ∧ j ≤ len ∧ wr = w.drewN n) (fun jv _ => 20 - (intOf jv).toNat)
  case atStart => exact ⟨0, _, rfl, Nat.zero_le _, rfl⟩
  case round =>
    obtain ⟨j, n, rfl, hj, rfl⟩ := hrel
    by_cases hlt : j < len
    · have hji : (j : Int) < (len : Int) := by omega
      have hq0 : (j : Int) / 64 = 0 := by omega
      have hrj : bits BinOp.and IntKind.i64 (j : Int) 63 = (j : Int) := by rw [low6 j (by omega)]; omega
      have hb := bit_and top j ht (by omega)
      have hwj := HW.out j hlt
      have hg := hG.out j hlt
      have hneq : (((x j : Nat) : Int) != 0) = top.testBit j := by rw [hg]; cases h : (x j == 0) <;> simp_all
      clear hg
      obtain ⟨b, hbb⟩ : ∃ b, b = top.testBit j := ⟨_, rfl⟩
      rw [← hbb] at hb hneq
      clear hbb
      obtain ⟨xj, hxj⟩ : ∃ xj, xj = x j := ⟨_, rfl⟩
      rw [← hxj] at hneq hwj
      clear hxj
      go_wp2
      go_quiet (fail)
      go_wp2
      go_roundw
      case rel => exact ⟨j + 1, _, by simp, by omega, rfl⟩
      case measure => simp [intOf]; omega
    · have hjl : j = len := by omega
      subst hjl
      clear hlt
      go_wp2
      rw [rounds_succ]
      go_wp2
      go_ret
      exact ⟨rfl, _, rfl⟩

theorem tree_any (A m : Nat) (v : Value) (ws : List Nat) (top : Nat) (F : List Nat) (w : World) (hv : w.cell? ⟨A, m, none⟩ = some v) (hp : PSet w v ws top F) (hG : Good ws top) :
    Calls Yba.prog 10 #[.pointer (some ⟨A, m, none⟩)] w fun e w' => e = .returned (.bool true) ∧ ∃ n, w' = w.drewN n := by
  rcases hp with ⟨rfl, rfl, rfl⟩ | ⟨L, nl, cL, g0, c0, g1, c1, rfl, hl, h1, h17, hiff, rfl⟩
  · exact tree_nil A m w hv
  · rcases hl.nlr with rfl | rfl
    · have e := hiff.1 rfl
      have h0 := hl.lev0
      rw [e] at h0
      exact tree_one A m L cL g0 c0 w hv h0
    · have h2 : 2 ≤ ws.length := by
        rcases Nat.lt_or_ge ws.length 2 with h | h
        · have := hiff.2 (by omega); omega
        · exact h
      exact tree_two A m L cL g0 ws.length c0 g1 c1 top (fun q => ws.getD q 0) w hv hl.lev0 hl.lev1 h17 (fun q hq => hl.word0 q hq) hl.word1 hl.tlt (hideIt fun q hq => hG h2 q)

end Go.Proofs.Ybulkbgqi
