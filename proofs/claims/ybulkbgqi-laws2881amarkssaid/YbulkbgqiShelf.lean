/- The contracts of the shelf that this seat uses, laid at its program in plain words (by lay-shelf and lay-plain). -/
import Derived.Shelf.Strings.LastIndex
import Derived.Test.YbulkbgqiProg
namespace Go.Proofs
open Go.Shelf
def Yba.lays222_ren : Go.Shelf.Ren := ⟨fun | 222 => 21 | n => n, fun | 9 => 9 | 5 => 5 | 3 => 3 | 4 => 4 | n => n, fun | n => n⟩
theorem Yba.lays222 : Go.Proofs.Lays.n222 Yba.prog Yba.lays222_ren := {
  mixed := by kernel_rfl
  f222 := Yba.func21.trans (congrArg some (by kernel_rfl))
  t3 := Yba.underlying3
  a3 := Yba.isAgg3
  z3 := Yba.sizeOf3
  v3 := Yba.zeroValue3
  t4 := Yba.underlying4
  a4 := Yba.isAgg4
  z4 := Yba.sizeOf4
  v4 := Yba.zeroValue4
  t5 := Yba.underlying5
  a5 := Yba.isAgg5
  z5 := Yba.sizeOf5
  v5 := Yba.zeroValue5
  t9 := Yba.underlying9
  a9 := Yba.isAgg9
  z9 := Yba.sizeOf9
  v9 := Yba.zeroValue9 }
open Go.RowKit Go.Lib in
theorem Yba.bytealg_LastIndexByteString_nm (s : ByteArray) (c : Int) (hs : s.size < 4611686018427387904) (w : World) :
    Calls Yba.prog 21 #[.string s, .int .u8 c] w fun e w' => e = .returned (.int .i64 (Lib.lastIndexByte s c)) ∧ w' = w := Any.bytealg_LastIndexByteString_nm Yba.lays222 s c hs w
def Yba.lays149_ren : Go.Shelf.Ren := ⟨fun | 149 => 20 | 222 => 21 | n => n, fun | 9 => 9 | 5 => 5 | 3 => 3 | 4 => 4 | n => n, fun | n => n⟩
theorem Yba.lays149 : Go.Proofs.Lays.n149 Yba.prog Yba.lays149_ren := {
  mixed := by kernel_rfl
  f149 := Yba.func20.trans (congrArg some (by kernel_rfl))
  f222 := Yba.func21.trans (congrArg some (by kernel_rfl))
  t3 := Yba.underlying3
  a3 := Yba.isAgg3
  z3 := Yba.sizeOf3
  v3 := Yba.zeroValue3
  t4 := Yba.underlying4
  a4 := Yba.isAgg4
  z4 := Yba.sizeOf4
  v4 := Yba.zeroValue4
  t5 := Yba.underlying5
  a5 := Yba.isAgg5
  z5 := Yba.sizeOf5
  v5 := Yba.zeroValue5
  t9 := Yba.underlying9
  a9 := Yba.isAgg9
  z9 := Yba.sizeOf9
  v9 := Yba.zeroValue9 }
open Go.RowKit Go.Lib in
theorem Yba.strings_LastIndexByte (s : ByteArray) (c : Int) (hs : s.size < 4611686018427387904) (w : World) :
    Calls Yba.prog 20 #[.string s, .int .u8 c] w fun e w' => e = .returned (.int .i64 (Lib.lastIndexByte s c)) ∧ w' = w := Any.strings_LastIndexByte Yba.lays149 s c hs w
end Go.Proofs
