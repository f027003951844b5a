import Derived.Test.YbulkbgpuRows
import Derived.Test.YbulkbgpuPay
import Derived.WalkKit
import Derived.ProofKit
import Derived.OpenShut
import Derived.ShutString
namespace Go.Proofs.Ybulkbgpu.lawS2880AExact
open Go.ChangeShapes Go.WideShapes Go.ChangeAt Go.RowKit
open Go.ChangeMaps (open_string shut_string)
set_option linter.unusedVariables false      -- a walk need not use every 'w<i>' (that an integer argument fits its kind)

theorem own : ownKnob Yba.prog.godebug = none := by kernel_rfl


def W3 (a0 a2 a3 kd : Int) (a4 : ByteArray) (w : World) : World :=
  ((w.alloc (.cells #[.string { data := #[97] }, .int .i64 2] 24)).alloc (.cells #[.int .i64 a0, .slice (some ⟨w.heap.size, 0, none⟩) 1 1] 27)).alloc (.cells #[.int .u8 kd, .int .i64 a2, .slice none 0 0, .int .i64 a3, .string a4, .int .i64 0] 30)

theorem W3_size (a0 a2 a3 kd : Int) (a4 : ByteArray) (w : World) : (W3 a0 a2 a3 kd a4 w).heap.size = w.heap.size + 3 := by simp [W3]

theorem W3_below (a0 a2 a3 kd : Int) (a4 : ByteArray) (w : World) : Below w.heap.size w (W3 a0 a2 a3 kd a4 w) :=
  (((Below.refl _ _).alloc (Nat.le_refl _) _).alloc (by simp) _).alloc (by simp; omega) _

theorem W3_facts (a0 a2 a3 kd : Int) (a4 : ByteArray) (w wx : World) (hb : Below (w.heap.size + 3) (W3 a0 a2 a3 kd a4 w) wx) :
    wx.cell? ⟨w.heap.size, 0, none⟩ = some (.string { data := #[97] }) ∧ wx.cell? ⟨w.heap.size, 1, none⟩ = some (.int .i64 2) ∧
    wx.cell? ⟨w.heap.size + 1, 0, none⟩ = some (.int .i64 a0) ∧ wx.cell? ⟨w.heap.size + 1, 1, none⟩ = some (.slice (some ⟨w.heap.size, 0, none⟩) 1 1) := by
  have c := fun b o (h : b < w.heap.size + 3) => hb.cell (p := ⟨b, o, none⟩) h
  refine ⟨?_, ?_, ?_, ?_⟩
  · rw [c _ _ (by omega)]; unfold W3
    rw [World.cell?_alloc_past _ _ _ (by simp; omega), World.cell?_alloc_past _ _ _ (by simp), World.cell?_alloc_at _ _ _ _ rfl]; rfl
  · rw [c _ _ (by omega)]; unfold W3
    rw [World.cell?_alloc_past _ _ _ (by simp; omega), World.cell?_alloc_past _ _ _ (by simp), World.cell?_alloc_at _ _ _ _ rfl]; rfl
  · rw [c _ _ (by omega)]; unfold W3
    rw [World.cell?_alloc_past _ _ _ (by simp), World.cell?_alloc_at _ _ _ _ (by simp)]; rfl
  · rw [c _ _ (by omega)]; unfold W3
    rw [World.cell?_alloc_past _ _ _ (by simp), World.cell?_alloc_at _ _ _ _ (by simp)]; rfl

set_option maxHeartbeats 400000 in
theorem walk_name (a0 : Int) (a1 : Int) (a2 : Int) (a3 : Int) (a4 : ByteArray) (l1 : 0 ≤ a1) (u1 : a1 ≤ 255) (hk : (a1 % 6 + 1 == 3) = true) (w : World) :
    Calls Yba.prog 3 #[.int .i64 a0, .int .u8 a1, .int .i64 a2, .int .i64 a3, .string a4] w fun e w' => e = .returned (.bool true) ∧ Below w.heap.size w w' := by
  have hcv := fun wx => Lib.run_convert_string_bytes (P := Yba.prog) wx 9 28 5 a4 Yba.underlying9 Yba.underlying28 Yba.underlying5
  go_enter Yba.func3, Yba.ntmps3
  go_wp2_with fail
  refine (pay_name (w.heap.size + 1) a0 (a1 % 6 + 1) a2 a3 0 a4 _ (W3 a0 a2 a3 (a1 % 6 + 1) a4 w) hk).mono ?_
  rintro e w1 ⟨v1, rfl, hh, hb⟩
  rw [W3_size] at hb
  have hz := hb.size
  rw [W3_size] at hz
  go_wp2_with fail
  refine (equal_same _ _ v1 _ a4.data.toList (Lib.bytesWorld w1 5 a4) (hh.below (below_bytes w1 a4)) (has_of_string w1 a4)).mono ?_
  rintro e w2 ⟨rfl, rfl⟩
  have hb2 := hb.trans ((below_bytes w1 a4).mono (by omega))
  obtain ⟨f1, f2, f3, f4⟩ := W3_facts a0 a2 a3 (a1 % 6 + 1) a4 w _ hb2
  go_wp2
  go_ret
  exact ⟨rfl, (W3_below a0 a2 a3 (a1 % 6 + 1) a4 w).trans (hb2.mono (by omega))⟩

set_option maxHeartbeats 400000 in
theorem walk_one (a0 : Int) (a1 : Int) (a2 : Int) (a3 : Int) (a4 : ByteArray) (v : Nat) (hv : IntKind.u64.wrap a2 = v) (hvlt : v < 18446744073709551616) (l1 : 0 ≤ a1) (u1 : a1 ≤ 255) (hk : (a1 % 6 + 1 == 3) = false) (h1 : (a0 == 1) = true) (w : World) :
    Calls Yba.prog 3 #[.int .i64 a0, .int .u8 a1, .int .i64 a2, .int .i64 a3, .string a4] w fun e w' => e = .returned (.bool true) ∧ Below w.heap.size w w' := by
  obtain ⟨f1, f2, f3, f4⟩ := W3_facts a0 a2 a3 (a1 % 6 + 1) a4 w _ (Below.refl _ _)
  go_enter Yba.func3, Yba.ntmps3
  go_wp2_with fail
  refine (pay_one (w.heap.size + 1) a0 (a1 % 6 + 1) a2 a3 0 v a4 _ (W3 a0 a2 a3 (a1 % 6 + 1) a4 w) hk hv hvlt (by rw [W3_size]; omega) f3 h1).mono ?_
  clear f1 f2 f3 f4
  rintro e w1 ⟨v1, rfl, hh, hb⟩
  rw [W3_size] at hb
  have hz := hb.size
  rw [W3_size] at hz
  go_wp2_with fail
  refine (le_one a2 a0 a3 v hv hvlt h1 w1).mono ?_
  rintro e w2 ⟨v2, rfl, hown, hle⟩
  have hh2 := has_of_owns (l := Lib.leBytes 8 v) hown (by omega)
  have hh1 := hh.below hle
  have hb2 := hb.trans (hle.mono (by omega))
  clear hown hh hle
  go_wp2_with fail
  refine (equal_same _ _ v1 v2 (Lib.leBytes 8 v) w2 hh1 hh2).mono ?_
  rintro e w3 ⟨rfl, rfl⟩
  obtain ⟨f1, f2, f3, f4⟩ := W3_facts a0 a2 a3 (a1 % 6 + 1) a4 w _ hb2
  go_wp2
  go_ret
  exact ⟨rfl, (W3_below a0 a2 a3 (a1 % 6 + 1) a4 w).trans (hb2.mono (by omega))⟩

set_option maxHeartbeats 400000 in
theorem walk_two (a0 : Int) (a1 : Int) (a2 : Int) (a3 : Int) (a4 : ByteArray) (v d : Nat) (hv : IntKind.u64.wrap a2 = v) (hvlt : v < 18446744073709551616) (hd : IntKind.u32.wrap (wrap64 (a3 + 1)) = d) (hdlt : d < 4294967296) (l1 : 0 ≤ a1) (u1 : a1 ≤ 255) (hk : (a1 % 6 + 1 == 3) = false) (h1 : (a0 == 1) = false) (w : World) :
    Calls Yba.prog 3 #[.int .i64 a0, .int .u8 a1, .int .i64 a2, .int .i64 a3, .string a4] w fun e w' => e = .returned (.bool true) ∧ Below w.heap.size w w' := by
  obtain ⟨f1, f2, f3, f4⟩ := W3_facts a0 a2 a3 (a1 % 6 + 1) a4 w _ (Below.refl _ _)
  go_enter Yba.func3, Yba.ntmps3
  go_wp2_with fail
  refine (pay_two (w.heap.size + 1) a0 (a1 % 6 + 1) a2 a3 0 v d a4 _ (W3 a0 a2 a3 (a1 % 6 + 1) a4 w) hk hv hvlt hd hdlt (by rw [W3_size]; omega) f3 h1).mono ?_
  clear f1 f2 f3 f4
  rintro e w1 ⟨v1, rfl, hh, hb⟩
  rw [W3_size] at hb
  have hz := hb.size
  rw [W3_size] at hz
  go_wp2_with fail
  refine (le_two a2 a0 a3 v d hv hvlt hd hdlt h1 w1).mono ?_
  rintro e w2 ⟨v2, rfl, hown, hle⟩
  have hh2 := has_of_owns (l := Lib.leBytes 8 v ++ Lib.leBytes 4 d) (n := 12) (by rw [← byteCells_append]; exact hown) (by omega)
  have hh1 := hh.below hle
  have hb2 := hb.trans (hle.mono (by omega))
  clear hown hh hle
  go_wp2_with fail
  refine (equal_same _ _ v1 v2 (Lib.leBytes 8 v ++ Lib.leBytes 4 d) w2 hh1 hh2).mono ?_
  rintro e w3 ⟨rfl, rfl⟩
  obtain ⟨f1, f2, f3, f4⟩ := W3_facts a0 a2 a3 (a1 % 6 + 1) a4 w _ hb2
  go_wp2
  go_ret
  exact ⟨rfl, (W3_below a0 a2 a3 (a1 % 6 + 1) a4 w).trans (hb2.mono (by omega))⟩
end Go.Proofs.Ybulkbgpu.lawS2880AExact
