import Derived.Test.YbulkbgrkProg
import Derived.WalkKit
import Derived.ProofKit
import Derived.OpenShut
import Derived.Below
import Derived.Outline
import Derived.Deep.OwnRows
namespace Go.Proofs.Ybulkbgrk
open Go.RowKit Go.ChangeShapes Go.WideShapes
set_option linter.unusedVariables false

/-- What is known of a slice of integers that came in: it is nil; or it leads to a row of 'cap' cells, the numbers 'zs', each fitting its kind. -/
def IsRow (k : IntKind) (w : World) (a : Option Addr) (len cap : Nat) (zs : List Int) : Prop :=
  (a = none ∧ len = 0 ∧ cap = 0 ∧ zs = []) ∨
  ∃ x, a = some x ∧ len ≤ cap ∧ cap ≤ maxLen ∧ zs.length = cap ∧ (∀ i, i < zs.length → w.cell? (x.add i) = some (.int k (zs.getD i 0))) ∧ ∀ n ∈ zs, (Lit.int k n).wf = true

theorem hideIt {p : Prop} (h : p) : Hid p := h

theorem cell_lt {w : World} {b o : Nat} {v : Value} (h : w.cell? ⟨b, o, none⟩ = some v) : b < w.heap.size := by
  rcases Nat.lt_or_ge b w.heap.size with h1 | h1
  · exact h1
  · have : w.heap[b]? = none := by simp [h1]
    simp [World.cell?, this] at h

theorem wf_zero (k : IntKind) : (Lit.int k 0).wf = true := by cases k <;> rfl

theorem getD_wf {k : IntKind} {zs : List Int} (h : ∀ n ∈ zs, (Lit.int k n).wf = true) (j : Nat) : (Lit.int k (zs.getD j 0)).wf = true := by
  rcases Nat.lt_or_ge j zs.length with hj | hj
  · rw [List.getD_eq_getElem?_getD, List.getElem?_eq_getElem hj]; exact h _ (List.getElem_mem hj)
  · rw [List.getD_eq_getElem?_getD, List.getElem?_eq_none hj]; exact wf_zero k

/-- A slice that came in, by its length: nothing in it; or its cells. -/
theorem IsRow.parts {k : IntKind} {w : World} {a : Option Addr} {len cap : Nat} {zs : List Int} (h : IsRow k w a len cap zs) :
    len ≤ cap ∧ len ≤ maxLen ∧ (∀ j, (Lit.int k (zs.getD j 0)).wf = true) ∧
    (len = 0 ∨ 0 < len ∧ ∃ b off, a = some ⟨b, off, none⟩ ∧ b < w.heap.size ∧ ∀ j, j < len → w.cell? ⟨b, off + j, none⟩ = some (.int k (zs.getD j 0))) := by
  rcases h with ⟨rfl, rfl, rfl, rfl⟩ | ⟨x, rfl, hl, hm, hz, hc, hw⟩
  · exact ⟨Nat.le_refl _, Nat.zero_le _, getD_wf (by simp), .inl rfl⟩
  · refine ⟨hl, Nat.le_trans hl hm, getD_wf hw, ?_⟩
    rcases Nat.eq_zero_or_pos len with h0 | h0
    · exact .inl h0
    · obtain ⟨b, off, spot⟩ := x
      have hspot : spot = none := by simpa [Addr.add] using World.cell?_spot (hc 0 (by omega))
      subst hspot
      have hc' : ∀ j, j < len → w.cell? ⟨b, off + j, none⟩ = some (.int k (zs.getD j 0)) := fun j hj => by rw [← add_plain]; exact hc j (by omega)
      exact .inr ⟨h0, b, off, rfl, cell_lt (hc' 0 h0), hc'⟩

end Go.Proofs.Ybulkbgrk
