import Derived.Test.YbulkbgpuRows
import Derived.Test.YbulkbgpuDec2
import Derived.WalkKit
import Derived.ProofKit
import Derived.OpenShut
import Derived.ShutString
namespace Go.Proofs.Ybulkbgpu.lawS2880ARoundTrip
open Go.ChangeShapes Go.WideShapes Go.ChangeAt Go.RowKit
open Go.ChangeMaps (open_string shut_string)
set_option linter.unusedVariables false      -- a walk need not use every 'w<i>' (that an integer argument fits its kind)

theorem own : ownKnob Yba.prog.godebug = none := by kernel_rfl


def W2 (a0 a2 ds kd : Int) (a4 : ByteArray) (w : World) : World :=
  (w.alloc (.cells #[.int .i64 a0, .slice none 0 0] 27)).alloc (.cells #[.int .u8 kd, .int .i64 a2, .slice none 0 0, .int .i64 ds, .string a4, .int .i64 0] 30)

theorem W2_size (a0 a2 ds kd : Int) (a4 : ByteArray) (w : World) : (W2 a0 a2 ds kd a4 w).heap.size = w.heap.size + 2 := by simp [W2]

theorem W2_below (a0 a2 ds kd : Int) (a4 : ByteArray) (w : World) : Below w.heap.size w (W2 a0 a2 ds kd a4 w) :=
  ((Below.refl _ _).alloc (Nat.le_refl _) _).alloc (by simp) _

theorem W2_ver (a0 a2 ds kd : Int) (a4 : ByteArray) (w wx : World) (hb : Below (w.heap.size + 2) (W2 a0 a2 ds kd a4 w) wx) :
    wx.cell? ⟨w.heap.size, 0, none⟩ = some (.int .i64 a0) := by
  have c := fun b o (h : b < w.heap.size + 2) => hb.cell (p := ⟨b, o, none⟩) h
  rw [c _ _ (by omega)]; unfold W2
  rw [World.cell?_alloc_past _ _ _ (by simp), World.cell?_alloc_at _ _ _ _ rfl]; rfl

theorem back_bytes (a : ByteArray) : ({ data := a.data.toList.toArray } : ByteArray) = a := by simp

set_option maxHeartbeats 400000 in
theorem walk_name (a0 : Int) (a1 : Int) (a2 : Int) (a3 : Int) (a4 : ByteArray) (l1 : 0 ≤ a1) (u1 : a1 ≤ 255) (l3 : 0 ≤ a3) (u3 : a3 ≤ 4294967295) (hk : (a1 % 3 + 3 == 3) = true) (w : World) :
    Calls Yba.prog 4 #[.int .i64 a0, .int .u8 a1, .int .i64 a2, .int .u32 a3, .string a4] w fun e w' => e = .returned (.bool true) ∧ Below w.heap.size w w' := by
  go_enter Yba.func4, Yba.ntmps4
  go_wp2_with fail
  refine (pay_name w.heap.size a0 (a1 % 3 + 3) a2 (a3 - 1) 0 a4 _ (W2 a0 a2 (a3 - 1) (a1 % 3 + 3) a4 w) hk).mono ?_
  rintro e w1 ⟨v1, rfl, hh, hb⟩
  rw [W2_size] at hb
  have hz := hb.size
  rw [W2_size] at hz
  go_wp2_with fail
  refine (dec_name _ w.heap.size (a1 % 3 + 3) v1 a4.data.toList w1 hk hh).mono ?_
  rintro e w2 ⟨rfl, hb2⟩
  rw [back_bytes]
  unfold recV
  have hbb := (W2_below a0 a2 (a3 - 1) (a1 % 3 + 3) a4 w).trans ((hb.trans (hb2.mono (by omega))).mono (by omega))
  have hz2 := hb2.size
  go_wp2
  go_ret
  exact ⟨rfl, hbb.alloc (by omega) _⟩

set_option maxHeartbeats 400000 in
theorem walk_one (a0 : Int) (a1 : Int) (a2 : Int) (a3 : Int) (a4 : ByteArray) (v : Nat) (hv : IntKind.u64.wrap a2 = v) (hvlt : v < 18446744073709551616) (hsq : wrap64 (v : Int) = a2) (l1 : 0 ≤ a1) (u1 : a1 ≤ 255) (l3 : 0 ≤ a3) (u3 : a3 ≤ 4294967295) (hk : (a1 % 3 + 3 == 3) = false) (h1 : (a0 == 1) = true) (w : World) :
    Calls Yba.prog 4 #[.int .i64 a0, .int .u8 a1, .int .i64 a2, .int .u32 a3, .string a4] w fun e w' => e = .returned (.bool true) ∧ Below w.heap.size w w' := by
  go_enter Yba.func4, Yba.ntmps4
  go_wp2_with fail
  refine (pay_one w.heap.size a0 (a1 % 3 + 3) a2 (a3 - 1) 0 v a4 _ (W2 a0 a2 (a3 - 1) (a1 % 3 + 3) a4 w) hk hv hvlt (by rw [W2_size]; omega) (W2_ver a0 a2 (a3 - 1) (a1 % 3 + 3) a4 w _ (Below.refl _ _)) h1).mono ?_
  rintro e w1 ⟨v1, rfl, hh, hb⟩
  have hlen := hh
  obtain ⟨g, cap, rfl, -, -, -, -⟩ := hlen
  rw [W2_size] at hb
  have hz := hb.size
  rw [W2_size] at hz
  have hver := W2_ver a0 a2 (a3 - 1) (a1 % 3 + 3) a4 w w1 hb
  have HH := hideIt hh
  have HB := hideIt hb
  clear hh hb
  simp only [Lib.leBytes_length]
  go_wp2_with fail
  refine (dec_one _ w.heap.size v (a1 % 3 + 3) a0 _ w1 hvlt hk h1 (by omega) hver (by simpa only [Lib.leBytes_length] using HH.out)).mono ?_
  rintro e w2 ⟨rfl, hb2⟩
  unfold recV
  rw [hsq]
  have hbb := (W2_below a0 a2 (a3 - 1) (a1 % 3 + 3) a4 w).trans ((HB.out.trans (hb2.mono (by omega))).mono (by omega))
  have hz2 := hb2.size
  clear HH HB hb2 hver hv hvlt hsq
  go_wp2
  go_ret
  exact ⟨rfl, hbb.alloc (by omega) _⟩


set_option maxHeartbeats 400000 in
theorem walk_two (a0 : Int) (a1 : Int) (a2 : Int) (a3 : Int) (a4 : ByteArray) (v d : Nat) (hv : IntKind.u64.wrap a2 = v) (hvlt : v < 18446744073709551616) (hsq : wrap64 (v : Int) = a2) (hd : IntKind.u32.wrap (wrap64 (a3 - 1 + 1)) = d) (hdlt : d < 4294967296) (hda : (d : Int) = a3) (l1 : 0 ≤ a1) (u1 : a1 ≤ 255) (l3 : 0 ≤ a3) (u3 : a3 ≤ 4294967295) (hk : (a1 % 3 + 3 == 3) = false) (h1 : (a0 == 1) = false) (w : World) :
    Calls Yba.prog 4 #[.int .i64 a0, .int .u8 a1, .int .i64 a2, .int .u32 a3, .string a4] w fun e w' => e = .returned (.bool true) ∧ Below w.heap.size w w' := by
  have HDA := hideIt hda
  clear hda
  go_enter Yba.func4, Yba.ntmps4
  go_wp2_with fail
  refine (pay_two w.heap.size a0 (a1 % 3 + 3) a2 (a3 - 1) 0 v d a4 _ (W2 a0 a2 (a3 - 1) (a1 % 3 + 3) a4 w) hk hv hvlt hd hdlt (by rw [W2_size]; omega) (W2_ver a0 a2 (a3 - 1) (a1 % 3 + 3) a4 w _ (Below.refl _ _)) h1).mono ?_
  rintro e w1 ⟨v1, rfl, hh, hb⟩
  have hlen := hh
  obtain ⟨g, cap, rfl, -, -, -, -⟩ := hlen
  rw [W2_size] at hb
  have hz := hb.size
  rw [W2_size] at hz
  have hver := W2_ver a0 a2 (a3 - 1) (a1 % 3 + 3) a4 w w1 hb
  have HH := hideIt hh
  have HB := hideIt hb
  clear hh hb
  simp only [List.length_append, Lib.leBytes_length]
  go_wp2_with fail
  refine (dec_two _ w.heap.size v d (a1 % 3 + 3) a0 _ w1 hvlt hdlt hk h1 (by omega) hver (by simpa only [List.length_append, Lib.leBytes_length] using HH.out)).mono ?_
  rintro e w2 ⟨rfl, hb2⟩
  unfold recV
  rw [hsq, HDA.out]
  have hbb := (W2_below a0 a2 (a3 - 1) (a1 % 3 + 3) a4 w).trans ((HB.out.trans (hb2.mono (by omega))).mono (by omega))
  have hz2 := hb2.size
  clear HH HB hb2 hver hv hvlt hsq hd hdlt HDA
  go_wp2
  go_ret
  exact ⟨rfl, hbb.alloc (by omega) _⟩

end Go.Proofs.Ybulkbgpu.lawS2880ARoundTrip
