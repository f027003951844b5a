import Derived.Test.YbulkbgqiSet
namespace Go.Proofs.Ybulkbgqi
open Go.RowKit
set_option linter.unusedVariables false

theorem Own.free {w : World} {e : TypeId} {g n cap : Nat} {xs : List Value} (h : Own w e g n cap xs) (o : Nat) : w.frozen? ⟨g, o, none⟩ = false := by
  obtain ⟨h1, ⟨h2, _⟩ | ⟨g', cp, cur, hs, hg, hh, h3, h4, h5, h6⟩⟩ := h
  · cases h2
  · have e1 : g' = g := by injection hs with a b c; injection a with a; injection a with a; exact a.symm
    subst e1
    simp [World.frozen?, hh]

theorem Own.setCell {w : World} {e : TypeId} {g n cap : Nat} {xs : List Value} (h : Own w e g n cap xs) (j : Nat) (u : Value) (hj : j < n) : Own (w.setCell ⟨g, j, none⟩ u) e g n cap (xs.set j u) := by
  obtain ⟨h1, ⟨h2, _⟩ | ⟨g', cp, cur, hs, hg, hh, h3, h4, h5, h6⟩⟩ := h
  · cases h2
  · have e1 : g' = g := by injection hs with a b c; injection a with a; injection a with a; exact a.symm
    subst e1
    refine ⟨by simpa using h1, .inr ⟨g', cp, cur.setIfInBounds j u, hs, hg, ?_, h3, h4, by simpa using h5, ?_⟩⟩
    · have hlt := (Array.getElem?_eq_some_iff.1 hh).1
      simp only [World.setCell, Array.getElem?_modify, hh]
      simp
    · rw [Array.toList_setIfInBounds, List.take_set, h6]

theorem Own.other {w : World} {e : TypeId} {g g' n cap o : Nat} {xs : List Value} (h : Own w e g n cap xs) (u : Value) (hne : g ≠ g') : Own (w.setCell ⟨g', o, none⟩ u) e g n cap xs :=
  Own.keep h (Below.heap_setCell _ _ _ _ hne)

theorem LvS.keep {w w' : World} {L nl cL g0 c0 g1 c1 top : Nat} {ws : List Nat} (h : LvS w L nl cL g0 c0 g1 c1 ws top) (hk : ∀ k, k ∈ foot nl L g0 g1 → w'.heap[k]? = w.heap[k]?) : LvS w' L nl cL g0 c0 g1 c1 ws top := by
  have hL : L ∈ foot nl L g0 g1 := by unfold foot; split <;> simp
  have h0 : g0 ∈ foot nl L g0 g1 := by unfold foot; split <;> simp
  refine ⟨h.nlr, h.own.keep (hk L hL), h.ow0.keep (hk g0 h0), fun e => (h.ow1 e).keep (hk g1 ?_), h.lt, h.tlt, h.ne0, h.ne1⟩
  subst e; simp [foot]

theorem LvS.drew {w : World} {L nl cL g0 c0 g1 c1 top : Nat} {ws : List Nat} (h : LvS w L nl cL g0 c0 g1 c1 ws top) : LvS w.drew L nl cL g0 c0 g1 c1 ws top := h.keep fun _ _ => rfl

theorem mem_set {ws : List Nat} {q y x : Nat} (h : x ∈ ws.set q y) : x ∈ ws ∨ x = y := List.mem_or_eq_of_mem_set h

/-- A store into the words below. -/
theorem LvS.set0 {w : World} {L nl cL g0 c0 g1 c1 top : Nat} {ws : List Nat} (h : LvS w L nl cL g0 c0 g1 c1 ws top) (q y : Nat) (hq : q < ws.length) (hy : y < 18446744073709551616) :
    LvS (w.setCell ⟨g0, q, none⟩ (.int .u64 (y : Int))) L nl cL g0 c0 g1 c1 (ws.set q y) top := by
  refine ⟨h.nlr, ?_, ?_, fun e => (h.ow1 e).other _ (fun x => (h.ne1 e).2 x.symm), fun x hx => ?_, h.tlt, h.ne0, h.ne1⟩
  · rw [List.length_set]; exact h.own.other _ h.ne0
  · have := h.ow0.setCell q (.int .u64 (y : Int)) hq
    rw [List.length_set, List.map_set]
    exact this
  · rcases mem_set hx with hx | hx
    · exact h.lt x hx
    · omega

/-- A store into the word above. -/
theorem LvS.set1 {w : World} {L cL g0 c0 g1 c1 top : Nat} {ws : List Nat} (h : LvS w L 2 cL g0 c0 g1 c1 ws top) (y : Nat) (hy : y < 18446744073709551616) :
    LvS (w.setCell ⟨g1, 0, none⟩ (.int .u64 (y : Int))) L 2 cL g0 c0 g1 c1 ws y :=
  ⟨h.nlr, h.own.other _ (h.ne1 rfl).1, h.ow0.other _ (h.ne1 rfl).2, fun e => (h.ow1 e).setCell 0 (.int .u64 (y : Int)) (by omega), h.lt, hy, h.ne0, h.ne1⟩

/-- Each word that is not zero has its bit above, and no other. -/
def Good (ws : List Nat) (top : Nat) : Prop := 2 ≤ ws.length → ∀ q, top.testBit q = !(ws.getD q 0 == 0)

/-- What a call on the set at cell m of block A leaves as it was. -/
structure Turn (w w' : World) (A m : Nat) (F : List Nat) : Prop where
  os : w'.os = w.os
  tape : w'.tape = w.tape
  output : w'.output = w.output
  size : w.heap.size ≤ w'.heap.size
  block : ∀ k, k < w.heap.size → k ≠ A → k ∉ F → w'.heap[k]? = w.heap[k]?
  cells : ∀ o, o ≠ m → w'.cell? ⟨A, o, none⟩ = w.cell? ⟨A, o, none⟩
  free : ∀ o, w'.frozen? ⟨A, o, none⟩ = w.frozen? ⟨A, o, none⟩

theorem Turn.refl (w : World) (A m : Nat) (F : List Nat) : Turn w w A m F := ⟨rfl, rfl, rfl, Nat.le_refl _, fun _ _ _ _ => rfl, fun _ _ => rfl, fun _ => rfl⟩

theorem Turn.drew {w w' : World} {A m : Nat} {F : List Nat} (h : Turn w w' A m F) : Turn w w'.drew A m F := ⟨h.os, h.tape, h.output, h.size, h.block, h.cells, h.free⟩

/-- A store into a block of the set. -/
theorem Turn.store {w w' : World} {A m : Nat} {F : List Nat} (h : Turn w w' A m F) {g o : Nat} (u : Value) (hg : g ∈ F ∨ w.heap.size ≤ g) (hA : g ≠ A) : Turn w (w'.setCell ⟨g, o, none⟩ u) A m F := by
  have hb : (w'.setCell ⟨g, o, none⟩ u).heap[A]? = w'.heap[A]? := Below.heap_setCell _ _ _ _ (fun e => hA e.symm)
  refine ⟨h.os, h.tape, h.output, by simpa [World.setCell] using h.size, fun k hk hkA hkF => ?_, fun o' ho => ?_, fun o' => ?_⟩
  · rw [Below.heap_setCell _ _ _ _ (fun e => ?_)]
    · exact h.block k hk hkA hkF
    · rcases hg with hg | hg
      · exact hkF (by rw [e]; exact hg)
      · have : k = g := e
        omega
  · rw [World.cell?_of_block (w := w') hb]; exact h.cells o' ho
  · rw [World.frozen?_of_block (w := w') hb]; exact h.free o'

end Go.Proofs.Ybulkbgqi
