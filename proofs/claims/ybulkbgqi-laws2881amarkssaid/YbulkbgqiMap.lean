import Derived.Test.YbulkbgqiTarget
import Derived.Maps.OwnSet
import Derived.Maps.StringElems
namespace Go.Proofs.Ybulkbgqi
open Go.RowKit Go.Maps Go.WideShapes Go.WideMaps
set_option linter.unusedVariables false

def emp : ByteArray := { data := #[] }

/-- What the first k pairs name at a key: the last one counts. -/
def lk (K V : List ByteArray) : Nat → ByteArray → Option ByteArray
  | 0, _ => none
  | k + 1, key => if K.getD k emp = key then some (V.getD k emp) else lk K V k key

theorem law9 : Keyed Yba.prog 9 := string_keyed Yba.underlying9

def kl (s : ByteArray) : Lit := .string s.data.toList

theorem kl_inj {a b : ByteArray} (h : kl a = kl b) : a = b := by
  unfold kl at h
  injection h with h
  exact bytes_inj h

theorem kl_key (a : ByteArray) : WideAt.IsKeyLit (kl a) := trivial

/-- Block mb is a map that reads as the first k pairs. -/
def MapIs (K V : List ByteArray) (k mb : Nat) (w : World) : Prop :=
  ∃ D : DataW Unit, w.ownsMap Yba.prog 9 (plainElem Yba.prog 54) mb k D ∧ (∀ key : ByteArray, Maps.has D (kl key) = (lk K V k key).isSome) ∧ (∀ (key v : ByteArray) z, lk K V k key = some v → D.atKey (kl key) z = .lit (.string v.data.toList))

theorem MapIs.made (K V : List ByteArray) (w : World) : MapIs K V 0 w.heap.size (w.alloc (.map #[] 0)) :=
  ⟨.map [], World.ownsMap_made w _ _ _, fun _ => rfl, fun _ _ _ h => by simp [lk] at h⟩

theorem MapIs.keep {K V : List ByteArray} {k mb : Nat} {w w' : World} (h : MapIs K V k mb w) (hb : w'.heap[mb]? = w.heap[mb]?) : MapIs K V k mb w' := by
  obtain ⟨D, ⟨es, clock, hes, r⟩, h2, h3⟩ := h
  exact ⟨D, ⟨es, clock, hb.trans hes, r⟩, h2, h3⟩

theorem MapIs.put {K V : List ByteArray} {k mb : Nat} {w : World} (h : MapIs K V k mb w) (hk : k < 100000) (hK : (K.getD k emp).size ≤ maxLen) (hV : (V.getD k emp).size ≤ maxLen) :
    ∃ w', (Instr.mapUpdate 57 (.map (some mb)) (.string (K.getD k emp)) (.string (V.getD k emp))).run Yba.prog w = .ok () w' ∧ MapIs K V (k + 1) mb w' ∧ w.grownBy w' (some mb) := by
  obtain ⟨D, h1, h2, h3⟩ := h
  have hm := h1.isMap
  obtain ⟨w', hrun, hown, hturn⟩ := h1.store law9 Yba.underlying57 (by unfold maxLen; omega) (keyOf_string_mk Yba.underlying9 hK) (plainElem_string (e := 54) Yba.underlying54 hV)
  refine ⟨w', hrun, ⟨_, hown, fun key => ?_, fun key v z hl => ?_⟩, hturn.grown⟩
  · by_cases e : K.getD k emp = key
    · subst e
      simp only [lk, if_true, Option.isSome_some]
      exact has_put_same hm (kl_key _) _
    · simp only [lk, if_neg e]
      rw [← h2 key]
      exact has_put_other (fun e' => e (kl_inj e').symm) _
  · by_cases e : K.getD k emp = key
    · subst e
      simp only [lk, if_true, Option.some.injEq] at hl
      subst hl
      exact atKey_put_same hm (kl_key _) _ z
    · simp only [lk, if_neg e] at hl
      rw [← h3 key v z hl]
      exact atKey_put_other (fun e' => e (kl_inj e').symm) _ z

theorem zero54 (w : World) : (zeroValue 54).run Yba.prog w = .ok (.string { data := #[] }) w := by kernel_rfl

theorem MapIs.looks {K V : List ByteArray} {k mb : Nat} {w : World} (h : MapIs K V k mb w) : Looks mb (lk K V k) w := by
  obtain ⟨D, h1, h2, h3⟩ := h
  refine ⟨fun key hk => ?_, Maps.size D, fun ty => h1.len Yba.underlying57 ty, fun h0 key => ?_⟩
  · obtain ⟨v, ps, hrun, hR⟩ := h1.look_ok law9 Yba.underlying57 (zero54 w) (plainElem_string (e := 54) Yba.underlying54 (s := { data := #[] }) (Nat.zero_le _)) (keyOf_string_mk Yba.underlying9 (s := key) (by unfold maxLen; omega))
    obtain ⟨s, rfl, hz, _⟩ := plainElem_string_inv Yba.underlying54 hR
    refine ⟨s, Maps.has D (kl key), hrun, fun hy => ?_, fun hn => ?_⟩
    · rw [h2] at hy
      obtain ⟨v', hv'⟩ := Option.isSome_iff_exists.1 hy
      have := h3 key v' (.lit (.string ({ data := #[] } : ByteArray).data.toList)) hv'
      have hz1 : D.atKey (kl key) (.lit (.string ({ data := #[] } : ByteArray).data.toList)) = .lit (.string s.data.toList) := congrArg Prod.fst hz
      rw [this] at hz1
      injection hz1 with hz1
      injection hz1 with hz1
      rw [hv', bytes_inj hz1]
    · rw [h2] at hn
      exact Option.not_isSome_iff_eq_none.1 (by rw [hn]; decide)
  · obtain ⟨es, rfl⟩ := h1.isMap
    rw [size_eq] at h0
    have : es = [] := List.eq_nil_of_length_eq_zero h0
    subst this
    have := h2 key
    exact Option.not_isSome_iff_eq_none.1 (by rw [← this]; exact Bool.false_ne_true)

theorem lk_above (K V : List ByteArray) (key : ByteArray) (j : Nat) : ∀ m, j ≤ m → (∀ x, j ≤ x → x < m → K.getD x emp ≠ key) → lk K V m key = lk K V j key
  | 0, h, _ => by obtain rfl : j = 0 := by omega
                  rfl
  | m + 1, h, hn => by
    by_cases e : j = m + 1
    · subst e; rfl
    · rw [lk, if_neg (hn m (by omega) (by omega))]
      exact lk_above K V key j m (by omega) (fun x h1 h2 => hn x h1 (by omega))

end Go.Proofs.Ybulkbgqi
