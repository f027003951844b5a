import Derived.Lib.LastIndexByte
namespace Go.Proofs.Ybulkbgqi

/-- byte j of s. -/
def byteN (s : ByteArray) (j : Nat) : Int := ((s.data[j]!).toNat : Int)

/-- The nearest named ancestor of 'name', cut ahead of a slash among its first i bytes: the ancestor and what is named. -/
def scanAt (name : ByteArray) (look : ByteArray → Option ByteArray) : Nat → Option (ByteArray × ByteArray)
  | 0 => none
  | i + 1 => if byteN name i = 47 then (match look (name.extract 0 i) with
    | some s => some (name.extract 0 i, s)
    | none => scanAt name look i) else scanAt name look i

theorem scan_none (name : ByteArray) (look : ByteArray → Option ByteArray) (h : ∀ k, look k = none) : ∀ i, scanAt name look i = none
  | 0 => rfl
  | i + 1 => by
    simp only [scanAt, h, scan_none name look h i]
    split <;> rfl

/-- Down to a slash nothing is found. -/
theorem scan_skip (name : ByteArray) (look : ByteArray → Option ByteArray) (j : Nat) : ∀ i, j ≤ i → (∀ x, j ≤ x → x < i → byteN name x ≠ 47) → scanAt name look i = scanAt name look j
  | 0, h, _ => by obtain rfl : j = 0 := by omega
                  rfl
  | i + 1, h, hn => by
    by_cases e : j = i + 1
    · subst e; rfl
    · rw [scanAt, if_neg (hn i (by omega) (by omega))]
      exact scan_skip name look j i (by omega) (fun x h1 h2 => hn x h1 (by omega))

def disable : ByteArray := { data := #[100, 105, 115, 97, 98, 108, 101] }

def ansS : Option (ByteArray × ByteArray) → ByteArray
  | some (p, _) => p
  | none => { data := #[] }

def ansB : Option (ByteArray × ByteArray) → Bool
  | some (_, s) => !(s.toList == [100, 105, 115, 97, 98, 108, 101])
  | none => false

theorem size_extract (name : ByteArray) (i : Nat) (h : i ≤ name.size) : (name.extract 0 i).size = i := by
  simp [ByteArray.size_extract]; omega

theorem byteN_extract (name : ByteArray) (i j : Nat) (h : i ≤ name.size) (hj : j < i) : byteN (name.extract 0 i) j = byteN name j := by
  unfold byteN
  have h1 : j < (name.extract 0 i).data.size := by
    have := size_extract name i h
    simp only [ByteArray.size] at this
    omega
  have h2 : j < name.data.size := by
    have : name.size = name.data.size := rfl
    omega
  rw [getElem!_pos (name.extract 0 i).data j h1, getElem!_pos name.data j h2]
  simp [ByteArray.data_extract]

theorem extract_extract (name : ByteArray) (i j : Nat) (h : j ≤ i) : (name.extract 0 i).extract 0 j = name.extract 0 j := by
  rw [ByteArray.extract_extract]
  congr 1
  omega

theorem extract_all (name : ByteArray) : name.extract 0 name.size = name := by simp

end Go.Proofs.Ybulkbgqi
