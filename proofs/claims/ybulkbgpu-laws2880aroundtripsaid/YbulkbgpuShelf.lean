/- The contracts of the shelf that this seat uses, laid at its program in plain words (by lay-shelf and lay-plain). -/
import Derived.Shelf.Bin.LEUint32
import Derived.Shelf.Bin.LEAppendUint32
import Derived.Shelf.Bin.LEUint64
import Derived.Shelf.Bin.LEAppendUint64
import Derived.Shelf.Bin.LEAppendUint64Arg
import Derived.Shelf.Bin.ReadersZ
import Derived.Shelf.Bytes.SlEqualAll
import Derived.Shelf.Bytes.Small
import Derived.Test.YbulkbgpuProg
namespace Go.Proofs
open Go.Shelf
def Yba.laysBin30_ren : Go.Shelf.Ren := ⟨fun | 30 => 12 | n => n, fun | 25 => 39 | 22 => 28 | 29 => 35 | 0 => 0 | 5 => 5 | 45 => 43 | n => n, fun | n => n⟩
theorem Yba.laysBin30 : Go.Proofs.LaysBin.n30 Yba.prog Yba.laysBin30_ren := {
  mixed := by kernel_rfl
  f30 := Yba.func12.trans (congrArg some (by kernel_rfl))
  t0 := Yba.underlying0
  a0 := Yba.isAgg0
  z0 := Yba.sizeOf0
  v0 := Yba.zeroValue0
  i0 := by kernel_rfl
  t5 := Yba.underlying5
  a5 := Yba.isAgg5
  z5 := Yba.sizeOf5
  v5 := Yba.zeroValue5
  i5 := by kernel_rfl
  t22 := Yba.underlying28
  a22 := Yba.isAgg28
  z22 := Yba.sizeOf28
  v22 := Yba.zeroValue28
  i22 := by kernel_rfl
  t25 := Yba.underlying39
  a25 := Yba.isAgg39
  z25 := Yba.sizeOf39
  v25 := Yba.zeroValue39
  i25 := by kernel_rfl
  t29 := Yba.underlying35
  a29 := Yba.isAgg35
  z29 := Yba.sizeOf35
  v29 := Yba.zeroValue35
  i29 := by kernel_rfl
  t45 := Yba.underlying43
  a45 := Yba.isAgg43
  z45 := Yba.sizeOf43
  v45 := Yba.zeroValue43
  i45 := by kernel_rfl }
open Go.RowKit in
theorem Yba.binary_LE_Uint32 (g o n c : Nat) (b0 b1 b2 b3 : UInt8) (w : World) (hn : 4 ≤ n) (c0 : w.cell? ⟨g, o, none⟩ = some (.int .u8 b0.toNat)) (c1 : w.cell? ⟨g, o + 1, none⟩ = some (.int .u8 b1.toNat)) (c2 : w.cell? ⟨g, o + 2, none⟩ = some (.int .u8 b2.toNat)) (c3 : w.cell? ⟨g, o + 3, none⟩ = some (.int .u8 b3.toNat)) :
    Calls Yba.prog 12 #[.agg #[], .slice (some ⟨g, o, none⟩) n c] w fun e w' => e = .returned (.int .u32 (Lib.leNat [b0, b1, b2, b3])) ∧ Below w.heap.size w w' := Any.binary_LE_Uint32 Yba.laysBin30 g o n c b0 b1 b2 b3 w hn c0 c1 c2 c3
def Yba.laysBin32_ren : Go.Shelf.Ren := ⟨fun | 32 => 10 | n => n, fun | 25 => 39 | 22 => 28 | 29 => 35 | 0 => 0 | 5 => 5 | 45 => 43 | n => n, fun | n => n⟩
theorem Yba.laysBin32 : Go.Proofs.LaysBin.n32 Yba.prog Yba.laysBin32_ren := {
  mixed := by kernel_rfl
  f32 := Yba.func10.trans (congrArg some (by kernel_rfl))
  t0 := Yba.underlying0
  a0 := Yba.isAgg0
  z0 := Yba.sizeOf0
  v0 := Yba.zeroValue0
  i0 := by kernel_rfl
  t5 := Yba.underlying5
  a5 := Yba.isAgg5
  z5 := Yba.sizeOf5
  v5 := Yba.zeroValue5
  i5 := by kernel_rfl
  t22 := Yba.underlying28
  a22 := Yba.isAgg28
  z22 := Yba.sizeOf28
  v22 := Yba.zeroValue28
  i22 := by kernel_rfl
  t25 := Yba.underlying39
  a25 := Yba.isAgg39
  z25 := Yba.sizeOf39
  v25 := Yba.zeroValue39
  i25 := by kernel_rfl
  t29 := Yba.underlying35
  a29 := Yba.isAgg35
  z29 := Yba.sizeOf35
  v29 := Yba.zeroValue35
  i29 := by kernel_rfl
  t45 := Yba.underlying43
  a45 := Yba.isAgg43
  z45 := Yba.sizeOf43
  v45 := Yba.zeroValue43
  i45 := by kernel_rfl }
open Go.RowKit in
theorem Yba.binary_LE_AppendUint32 (B n v : Nat) (hv : v < 4294967296) (sv : Value) (xs : List Value) (w : World) (hown : w.ownsRow B 5 1 sv n xs) (hBw : B ≤ w.heap.size) (hlim : n + 4 ≤ 140737488355328) :
    Calls Yba.prog 10 #[.agg #[], sv, .int .u32 v] w fun e w' => ∃ v', e = .returned v' ∧ w'.ownsRow B 5 1 v' (n + 4) (xs ++ Lib.byteCells (Lib.leBytes 4 v)) ∧ Below B w w' := Any.binary_LE_AppendUint32 Yba.laysBin32 B n v hv sv xs w hown hBw hlim
def Yba.laysBin33_ren : Go.Shelf.Ren := ⟨fun | 33 => 11 | n => n, fun | 25 => 39 | 22 => 28 | 33 => 41 | 0 => 0 | 5 => 5 | 45 => 43 | n => n, fun | n => n⟩
theorem Yba.laysBin33 : Go.Proofs.LaysBin.n33 Yba.prog Yba.laysBin33_ren := {
  mixed := by kernel_rfl
  f33 := Yba.func11.trans (congrArg some (by kernel_rfl))
  t0 := Yba.underlying0
  a0 := Yba.isAgg0
  z0 := Yba.sizeOf0
  v0 := Yba.zeroValue0
  i0 := by kernel_rfl
  t5 := Yba.underlying5
  a5 := Yba.isAgg5
  z5 := Yba.sizeOf5
  v5 := Yba.zeroValue5
  i5 := by kernel_rfl
  t22 := Yba.underlying28
  a22 := Yba.isAgg28
  z22 := Yba.sizeOf28
  v22 := Yba.zeroValue28
  i22 := by kernel_rfl
  t25 := Yba.underlying39
  a25 := Yba.isAgg39
  z25 := Yba.sizeOf39
  v25 := Yba.zeroValue39
  i25 := by kernel_rfl
  t33 := Yba.underlying41
  a33 := Yba.isAgg41
  z33 := Yba.sizeOf41
  v33 := Yba.zeroValue41
  i33 := by kernel_rfl
  t45 := Yba.underlying43
  a45 := Yba.isAgg43
  z45 := Yba.sizeOf43
  v45 := Yba.zeroValue43
  i45 := by kernel_rfl }
open Go.RowKit in
theorem Yba.binary_LE_Uint64 (g o n c : Nat) (b0 b1 b2 b3 b4 b5 b6 b7 : UInt8) (w : World) (hn : 8 ≤ n) (c0 : w.cell? ⟨g, o, none⟩ = some (.int .u8 b0.toNat)) (c1 : w.cell? ⟨g, o + 1, none⟩ = some (.int .u8 b1.toNat)) (c2 : w.cell? ⟨g, o + 2, none⟩ = some (.int .u8 b2.toNat)) (c3 : w.cell? ⟨g, o + 3, none⟩ = some (.int .u8 b3.toNat)) (c4 : w.cell? ⟨g, o + 4, none⟩ = some (.int .u8 b4.toNat)) (c5 : w.cell? ⟨g, o + 5, none⟩ = some (.int .u8 b5.toNat)) (c6 : w.cell? ⟨g, o + 6, none⟩ = some (.int .u8 b6.toNat)) (c7 : w.cell? ⟨g, o + 7, none⟩ = some (.int .u8 b7.toNat)) :
    Calls Yba.prog 11 #[.agg #[], .slice (some ⟨g, o, none⟩) n c] w fun e w' => e = .returned (.int .u64 (Lib.leNat [b0, b1, b2, b3, b4, b5, b6, b7])) ∧ Below w.heap.size w w' := Any.binary_LE_Uint64 Yba.laysBin33 g o n c b0 b1 b2 b3 b4 b5 b6 b7 w hn c0 c1 c2 c3 c4 c5 c6 c7
def Yba.laysBin35_ren : Go.Shelf.Ren := ⟨fun | 35 => 9 | n => n, fun | 25 => 39 | 22 => 28 | 33 => 41 | 0 => 0 | 5 => 5 | 45 => 43 | n => n, fun | n => n⟩
theorem Yba.laysBin35 : Go.Proofs.LaysBin.n35 Yba.prog Yba.laysBin35_ren := {
  mixed := by kernel_rfl
  f35 := Yba.func9.trans (congrArg some (by kernel_rfl))
  t0 := Yba.underlying0
  a0 := Yba.isAgg0
  z0 := Yba.sizeOf0
  v0 := Yba.zeroValue0
  i0 := by kernel_rfl
  t5 := Yba.underlying5
  a5 := Yba.isAgg5
  z5 := Yba.sizeOf5
  v5 := Yba.zeroValue5
  i5 := by kernel_rfl
  t22 := Yba.underlying28
  a22 := Yba.isAgg28
  z22 := Yba.sizeOf28
  v22 := Yba.zeroValue28
  i22 := by kernel_rfl
  t25 := Yba.underlying39
  a25 := Yba.isAgg39
  z25 := Yba.sizeOf39
  v25 := Yba.zeroValue39
  i25 := by kernel_rfl
  t33 := Yba.underlying41
  a33 := Yba.isAgg41
  z33 := Yba.sizeOf41
  v33 := Yba.zeroValue41
  i33 := by kernel_rfl
  t45 := Yba.underlying43
  a45 := Yba.isAgg43
  z45 := Yba.sizeOf43
  v45 := Yba.zeroValue43
  i45 := by kernel_rfl }
open Go.RowKit in
theorem Yba.binary_LE_AppendUint64 (B n v : Nat) (hv : v < 18446744073709551616) (sv : Value) (xs : List Value) (w : World) (hown : w.ownsRow B 5 1 sv n xs) (hBw : B ≤ w.heap.size) (hlim : n + 8 ≤ 140737488355328) :
    Calls Yba.prog 9 #[.agg #[], sv, .int .u64 v] w fun e w' => ∃ v', e = .returned v' ∧ w'.ownsRow B 5 1 v' (n + 8) (xs ++ Lib.byteCells (Lib.leBytes 8 v)) ∧ Below B w w' := Any.binary_LE_AppendUint64 Yba.laysBin35 B n v hv sv xs w hown hBw hlim
open Go.RowKit in
theorem Yba.binary_LE_AppendUint64_arg (g o n cap v : Nat) (hv : v < 18446744073709551616) (olds : List Value) (w : World) (hlo : olds.length = n) (holds : ∀ j u, olds[j]? = some u → w.cell? ⟨g, o + j, none⟩ = some u) (hspare : n + 8 ≤ cap → ∀ j, j < 8 → (w.cell? ⟨g, o + n + j, none⟩).isSome = true ∧ w.frozen? ⟨g, o + n + j, none⟩ = false) (hlim : n + 8 ≤ 140737488355328) :
    Calls Yba.prog 9 #[.agg #[], .slice (some ⟨g, o, none⟩) n cap, .int .u64 v] w fun e w' =>
      (n + 8 ≤ cap ∧ e = .returned (.slice (some ⟨g, o, none⟩) (n + 8) cap) ∧ w' = ((w.alloc (.cells #[] 39)).alloc (.cells (Lib.byteCells (Lib.leBytes 8 v)).toArray 5)).setCells g (o + n) (Lib.byteCells (Lib.leBytes 8 v))) ∨
      (cap < n + 8 ∧ ∃ v', e = .returned v' ∧ w'.ownsRow (w.heap.size + 2) 5 1 v' (n + 8) (olds ++ Lib.byteCells (Lib.leBytes 8 v)) ∧ Below w.heap.size w w') := Any.binary_LE_AppendUint64_arg Yba.laysBin35 g o n cap v hv olds w hlo holds hspare hlim
open Go.RowKit in
theorem Yba.binary_LE_Uint32_z (a : Addr) (n c : Nat) (zs : List Int) (w : World) (hn : 4 ≤ n) (hl : 4 ≤ zs.length) (hcell : ∀ i, i < zs.length → w.cell? (a.add i) = some (.int .u8 (zs.getD i 0))) (hw : ∀ z ∈ zs, (Lit.int .u8 z).wf = true) :
    Calls Yba.prog 12 #[.agg #[], .slice (some a) n c] w fun e w' => e = .returned (.int .u32 (Lib.leZ (zs.take 4))) ∧ Below w.heap.size w w' := Any.binary_LE_Uint32_z Yba.laysBin30 a n c zs w hn hl hcell hw
open Go.RowKit in
theorem Yba.binary_LE_Uint64_z (a : Addr) (n c : Nat) (zs : List Int) (w : World) (hn : 8 ≤ n) (hl : 8 ≤ zs.length) (hcell : ∀ i, i < zs.length → w.cell? (a.add i) = some (.int .u8 (zs.getD i 0))) (hw : ∀ z ∈ zs, (Lit.int .u8 z).wf = true) :
    Calls Yba.prog 11 #[.agg #[], .slice (some a) n c] w fun e w' => e = .returned (.int .u64 (Lib.leZ (zs.take 8))) ∧ Below w.heap.size w w' := Any.binary_LE_Uint64_z Yba.laysBin33 a n c zs w hn hl hcell hw
def Yba.laysnb115_ren : Go.Shelf.Ren := ⟨fun | 115 => 7 | n => n, fun | 37 => 28 | 4 => 4 | 9 => 9 | 5 => 5 | n => n, fun | n => n⟩
theorem Yba.laysnb115 : Go.Proofs.Lays.nb115 Yba.prog Yba.laysnb115_ren := {
  mixed := by kernel_rfl
  f115 := Yba.func7.trans (congrArg some (by kernel_rfl))
  t4 := Yba.underlying4
  a4 := Yba.isAgg4
  z4 := Yba.sizeOf4
  v4 := Yba.zeroValue4
  t9 := Yba.underlying9
  a9 := Yba.isAgg9
  z9 := Yba.sizeOf9
  v9 := Yba.zeroValue9
  t37 := Yba.underlying28
  a37 := Yba.isAgg28
  z37 := Yba.sizeOf28
  v37 := Yba.zeroValue28
  t5 := Yba.underlying5
  a5 := Yba.isAgg5
  z5 := Yba.sizeOf5
  v5 := Yba.zeroValue5 }
theorem Yba.bytes_Equal_all (p1 p2 : Option Addr) (n c m d : Nat) (xs ys : List Int) (w : World) (hx : xs.length = n) (hy : ys.length = m) (h1 : Lib.BytesIn w p1 n xs) (h2 : Lib.BytesIn w p2 m ys) :
    Calls Yba.prog 7 #[.slice p1 n c, .slice p2 m d] w fun e w' => e = .returned (.bool (Lib.bytesOf xs == Lib.bytesOf ys)) ∧ w' = w := Any.bytes_Equal_all Yba.laysnb115 p1 p2 n c m d xs ys w hx hy h1 h2
def Yba.lays115_ren : Go.Shelf.Ren := ⟨fun | 115 => 7 | n => n, fun | 37 => 28 | 4 => 4 | 9 => 9 | 5 => 5 | n => n, fun | n => n⟩
theorem Yba.lays115 : Go.Proofs.Lays.n115 Yba.prog Yba.lays115_ren := {
  mixed := by kernel_rfl
  f115 := Yba.func7.trans (congrArg some (by kernel_rfl))
  t4 := Yba.underlying4
  a4 := Yba.isAgg4
  z4 := Yba.sizeOf4
  v4 := Yba.zeroValue4
  t9 := Yba.underlying9
  a9 := Yba.isAgg9
  z9 := Yba.sizeOf9
  v9 := Yba.zeroValue9
  t37 := Yba.underlying28
  a37 := Yba.isAgg28
  z37 := Yba.sizeOf28
  v37 := Yba.zeroValue28 }
theorem Yba.bytes_Equal (v1 v2 : Value) (xs ys : List Int) (w : World) (h1 : (convert 28 9 v1).run Yba.prog w = .ok (.string (strOfNums xs)) w) (h2 : (convert 28 9 v2).run Yba.prog w = .ok (.string (strOfNums ys)) w) :
    Calls Yba.prog 7 #[v1, v2] w fun e w' => e = .returned (.bool (Lib.bytesOf xs == Lib.bytesOf ys)) ∧ w' = w := Any.bytes_Equal Yba.lays115 v1 v2 xs ys w h1 h2
end Go.Proofs
