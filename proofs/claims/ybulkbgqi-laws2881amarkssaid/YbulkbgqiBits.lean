import Derived.Laws.Entries
import Derived.Laws.Bits64
import Derived.Laws.BitsLemmas
namespace Go.Proofs.Ybulkbgqi

theorem wrap_pow (r : Nat) (h : r < 64) : IntKind.u64.wrap (2 ^ r) = ((2 ^ r : Nat) : Int) := by
  have h1 : 2 ^ r < 2 ^ 64 := Nat.pow_lt_pow_right (by omega) h
  have h2 : ((2 ^ r : Nat) : Int) = (2 : Int) ^ r := by simp
  rw [← h2, IntKind.wrap_u64]
  generalize 2 ^ r = y at h1 ⊢
  omega

theorem ofInt_nat (x : Nat) (h : x < 18446744073709551616) : (BitVec.ofInt 64 (x : Int)).toNat = x := by
  rw [BitVec.ofInt_natCast, BitVec.toNat_ofNat]; exact Nat.mod_eq_of_lt (by omega)

theorem and_nat (x y : Nat) (hx : x < 18446744073709551616) (hy : y < 18446744073709551616) : bits .and .u64 (x : Int) (y : Int) = ((x &&& y : Nat) : Int) := by
  have hxy : x &&& y < 2 ^ 64 := Nat.and_lt_two_pow _ (by omega)
  show IntKind.u64.wrap ((BitVec.ofInt 64 (x : Int) &&& BitVec.ofInt 64 (y : Int)).toNat : Int) = _
  rw [BitVec.toNat_and, ofInt_nat x hx, ofInt_nat y hy, IntKind.wrap_u64]
  omega

theorem or_nat (x y : Nat) (hx : x < 18446744073709551616) (hy : y < 18446744073709551616) : bits .or .u64 (x : Int) (y : Int) = ((x ||| y : Nat) : Int) := by
  have hxy : x ||| y < 2 ^ 64 := Nat.or_lt_two_pow (by omega) (by omega)
  show IntKind.u64.wrap ((BitVec.ofInt 64 (x : Int) ||| BitVec.ofInt 64 (y : Int)).toNat : Int) = _
  rw [BitVec.toNat_or, ofInt_nat x hx, ofInt_nat y hy, IntKind.wrap_u64]
  omega

/-- x without bit r. -/
def clr (x r : Nat) : Nat := (BitVec.ofInt 64 (x : Int) &&& ~~~(BitVec.ofInt 64 ((2 ^ r : Nat) : Int))).toNat

theorem clr_lt (x r : Nat) : clr x r < 18446744073709551616 := (BitVec.ofInt 64 (x : Int) &&& ~~~(BitVec.ofInt 64 ((2 ^ r : Nat) : Int))).isLt

theorem clr_testBit (x r j : Nat) (hx : x < 18446744073709551616) (hr : r < 64) : (clr x r).testBit j = (x.testBit j && !(j == r)) := by
  have hp : 2 ^ r < 18446744073709551616 := Nat.lt_of_lt_of_le (Nat.pow_lt_pow_right (a := 2) (by omega) hr) (by decide)
  have e1 : (BitVec.ofInt 64 (x : Int)).getLsbD j = x.testBit j := by rw [← BitVec.testBit_toNat, ofInt_nat x hx]
  have e2 : (BitVec.ofInt 64 ((2 ^ r : Nat) : Int)).getLsbD j = (2 ^ r).testBit j := by rw [← BitVec.testBit_toNat, ofInt_nat _ hp]
  unfold clr
  rw [BitVec.testBit_toNat, BitVec.getLsbD_and, BitVec.getLsbD_not, e1, e2, Nat.testBit_two_pow]
  by_cases hj : j < 64
  · simp only [hj, decide_true, Bool.true_and]
    congr 2
    by_cases e : r = j
    · subst e; simp
    · have : ¬ j = r := fun h => e h.symm
      simp [e, this]
  · have : x.testBit j = false := Nat.testBit_lt_two_pow (Nat.lt_of_lt_of_le (show x < 2 ^ 64 by omega) (Nat.pow_le_pow_right (by omega) (by omega)))
    simp [this]

theorem pow_lt (r : Nat) (hr : r < 64) : 2 ^ r < 18446744073709551616 := Nat.lt_of_lt_of_le (Nat.pow_lt_pow_right (a := 2) (by omega) hr) (by decide)

theorem bit_and (x r : Nat) (hx : x < 18446744073709551616) (hr : r < 64) : (bits .and .u64 (x : Int) (IntKind.u64.wrap (2 ^ r)) != 0) = x.testBit r := by
  rw [wrap_pow r hr, and_nat x _ hx (pow_lt r hr)]
  cases h : x.testBit r with
  | true =>
    have h1 : (x &&& 2 ^ r).testBit r = true := by rw [Nat.testBit_and, h, Nat.testBit_two_pow]; simp
    have h2 : x &&& 2 ^ r ≠ 0 := fun e => by rw [e] at h1; simp at h1
    simp only [bne_iff_ne, ne_eq]
    omega
  | false =>
    have h1 : x &&& 2 ^ r = 0 := by
      apply Nat.eq_of_testBit_eq
      intro j
      rw [Nat.testBit_and, Nat.testBit_two_pow, Nat.zero_testBit]
      by_cases e : r = j
      · subst e; simp [h]
      · simp [e]
    rw [h1]
    rfl

theorem bit_or (x r : Nat) (hx : x < 18446744073709551616) (hr : r < 64) : bits .or .u64 (x : Int) (IntKind.u64.wrap (2 ^ r)) = ((x ||| 2 ^ r : Nat) : Int) := by
  rw [wrap_pow r hr]
  exact or_nat x _ hx (pow_lt r hr)

theorem bit_clr (x r : Nat) (hr : r < 64) : bits .andNot .u64 (x : Int) (IntKind.u64.wrap (2 ^ r)) = ((clr x r : Nat) : Int) := by
  rw [wrap_pow r hr]
  show IntKind.u64.wrap ((BitVec.ofInt 64 (x : Int) &&& ~~~(BitVec.ofInt 64 ((2 ^ r : Nat) : Int))).toNat : Int) = _
  rw [IntKind.wrap_u64]
  have := clr_lt x r
  unfold clr at this ⊢
  omega

theorem low6 (i : Nat) (h : i ≤ 100000) : bits .and .i64 (i : Int) 63 = ((i % 64 : Nat) : Int) := by
  have e1 : (BitVec.ofInt 64 (i : Int)).toNat = i := ofInt_nat i (by omega)
  have e2 : (BitVec.ofInt 64 63).toNat = 63 := by decide
  show IntKind.i64.wrap ((BitVec.ofInt 64 (i : Int) &&& BitVec.ofInt 64 63).toNat : Int) = _
  rw [BitVec.toNat_and, e1, e2, show i &&& 63 = i % 64 from Nat.and_two_pow_sub_one_eq_mod i 6, IntKind.wrap_i64]
  have := Nat.mod_lt i (show 0 < 64 by omega)
  omega

/-- Is position i in the words? -/
def hasBit (ws : List Nat) (i : Nat) : Bool := (ws.getD (i / 64) 0).testBit (i % 64)

theorem getD_set (ws : List Nat) (q y k : Nat) (hq : q < ws.length) : (ws.set q y).getD k 0 = if k = q then y else ws.getD k 0 := by
  simp only [List.getD_eq_getElem?_getD, List.getElem?_set]
  by_cases e : q = k
  · subst e; simp [hq]
  · have : ¬ k = q := fun h => e h.symm
    simp [e, this]

theorem has_or (ws : List Nat) (i j : Nat) (hq : i / 64 < ws.length) : hasBit (ws.set (i / 64) (ws.getD (i / 64) 0 ||| 2 ^ (i % 64))) j = (hasBit ws j || j == i) := by
  unfold hasBit
  rw [getD_set _ _ _ _ hq]
  by_cases e : j / 64 = i / 64
  · rw [if_pos e, Nat.testBit_or, Nat.testBit_two_pow, e]
    congr 1
    by_cases e2 : i % 64 = j % 64
    · have : j = i := by omega
      simp [this]
    · have : ¬ j = i := fun h => e2 (by rw [h])
      simp [e2, this]
  · rw [if_neg e]
    have : ¬ j = i := fun h => e (by rw [h])
    simp [this]

theorem has_clr (ws : List Nat) (i j : Nat) (hq : i / 64 < ws.length) (hx : ws.getD (i / 64) 0 < 18446744073709551616) : hasBit (ws.set (i / 64) (clr (ws.getD (i / 64) 0) (i % 64))) j = (hasBit ws j && !(j == i)) := by
  unfold hasBit
  rw [getD_set _ _ _ _ hq]
  by_cases e : j / 64 = i / 64
  · rw [if_pos e, clr_testBit _ _ _ hx (Nat.mod_lt _ (by omega)), e]
    by_cases e2 : j % 64 = i % 64
    · have : j = i := by omega
      rw [this]; simp
    · have : ¬ j = i := fun h => e2 (by rw [h])
      have a1 : (j % 64 == i % 64) = false := by simpa using e2
      have a2 : (j == i) = false := by simpa using this
      rw [a1, a2]
  · rw [if_neg e]
    have : ¬ j = i := fun h => e (by rw [h])
    simp [this]

theorem has_beyond (ws : List Nat) (i : Nat) (h : ws.length ≤ i / 64) : hasBit ws i = false := by
  unfold hasBit
  rw [List.getD_eq_getElem?_getD, List.getElem?_eq_none h]
  simp

theorem has_zeros (ws : List Nat) (k i : Nat) : hasBit (ws ++ List.replicate k 0) i = hasBit ws i := by
  unfold hasBit
  simp only [List.getD_eq_getElem?_getD]
  rcases Nat.lt_or_ge (i / 64) ws.length with h | h
  · rw [List.getElem?_append_left h]
  · rw [List.getElem?_append_right h, List.getElem?_eq_none h]
    rw [List.getElem?_replicate]
    split <;> simp

end Go.Proofs.Ybulkbgqi
