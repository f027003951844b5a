import Derived.Test.YbulkbgqiCounted
import Derived.Test.YbulkbgqiMap
namespace Go.Proofs.Ybulkbgqi
open Go.RowKit Go.Maps
set_option linter.unusedVariables false

theorem law34 : Keyed Yba.prog 34 := int_keyed Yba.underlying34

/-- Block mb is a map of owners. -/
def IMap (w : World) (mb n : Nat) : Prop := ∃ D : DataW Unit, w.ownsMap Yba.prog 34 (plainElem Yba.prog 3) mb n D

theorem IMap.made (w : World) : IMap (w.alloc (.map #[] 0)) w.heap.size 0 := ⟨.map [], World.ownsMap_made w _ _ _⟩

theorem IMap.keep {w w' : World} {mb n : Nat} (h : IMap w mb n) (hb : w'.heap[mb]? = w.heap[mb]?) : IMap w' mb n := by
  obtain ⟨D, ⟨es, clock, hes, r⟩⟩ := h
  exact ⟨D, ⟨es, clock, hb.trans hes, r⟩⟩

theorem IMap.put {w : World} {mb n : Nat} (h : IMap w mb n) (hn : n ≤ 100000) (a b : Nat) (ha : a ≤ 100000) (hb : b ≤ 100000) :
    ∃ w', (Instr.mapUpdate 28 (.map (some mb)) (.int .u64 (a : Int)) (.int .i64 (b : Int))).run Yba.prog w = .ok () w' ∧ IMap w' mb (n + 1) ∧ w.grownBy w' (some mb) := by
  obtain ⟨D, h1⟩ := h
  obtain ⟨w', hrun, hown, hturn⟩ := h1.store law34 Yba.underlying28 (by unfold maxLen; omega) (keyOf_int_mk (a := (a : Int)) Yba.underlying34 (WalkArith.wf_u64 (by omega))) (plainElem_int (e := 3) (a := (b : Int)) Yba.underlying3 (WalkArith.wf_i64 (by omega)))
  exact ⟨w', hrun, ⟨_, hown⟩, hturn.grown⟩

/-- The cells of one grant. -/
def gcell (md : Nat → Nat) (j : Nat) : List Value := [.int .u64 (j : Int), .int .u8 ((md j : Nat) : Int), .bool false]

def gcells (md : Nat → Nat) : Nat → List Value
  | 0 => []
  | k + 1 => gcells md k ++ gcell md k

theorem gcells_len (md : Nat → Nat) : ∀ k, (gcells md k).length = k * 3
  | 0 => rfl
  | k + 1 => by simp [gcells, gcell, gcells_len md k]; omega

theorem gcells_get (md : Nat → Nat) (o : Nat) (ho : o < 3) : ∀ k j, j < k → (gcells md k)[j * 3 + o]? = (gcell md j)[o]?
  | 0, j, h => by omega
  | k + 1, j, h => by
    have hl := gcells_len md k
    rcases Nat.lt_or_ge j k with hj | hj
    · rw [gcells, List.getElem?_append_left (by rw [hl]; omega)]
      exact gcells_get md o ho k j hj
    · have : j = k := by omega
      subst this
      rw [gcells, List.getElem?_append_right (by rw [hl]; omega), hl]
      congr 1
      omega

theorem row_keep {w w' : World} {b : Nat} {e : TypeId} {s : Nat} {v : Value} {n : Nat} {xs : List Value} (h : w.ownsRow b e s v n xs) (hb : ∀ g, v.ownBlock = some g → w'.heap[g]? = w.heap[g]?) : w'.ownsRow b e s v n xs := by
  obtain ⟨h1, ⟨h2, h3⟩ | ⟨g, cap, cur, hs, hg, hh, r⟩⟩ := h
  · exact ⟨h1, .inl ⟨h2, h3⟩⟩
  · exact ⟨h1, .inr ⟨g, cap, cur, hs, hg, (hb g (by rw [hs]; rfl)).trans hh, r⟩⟩

theorem row_lt {w : World} {b : Nat} {e : TypeId} {s : Nat} {v : Value} {n : Nat} {xs : List Value} (h : w.ownsRow b e s v n xs) (g : Nat) (hg : v.ownBlock = some g) : b ≤ g ∧ g < w.heap.size := by
  obtain ⟨h1, ⟨h2, h3⟩ | ⟨g', cap, cur, hs, hg', hh, r⟩⟩ := h
  · rw [h2] at hg; cases hg
  · rw [hs] at hg
    have : g' = g := Option.some.inj hg
    subst this
    exact ⟨hg', (Array.getElem?_eq_some_iff.1 hh).1⟩

theorem row_get {w : World} {b : Nat} {e : TypeId} {s g cap n : Nat} {xs : List Value} (h : w.ownsRow b e s (.slice (some ⟨g, 0, none⟩) n cap) n xs) (j : Nat) (u : Value) (hu : xs[j]? = some u) : w.cell? ⟨g, j, none⟩ = some u := by
  obtain ⟨h1, ⟨h2, h3⟩ | ⟨g', cp, cur, hs, hg', hh, h3, h4, h5, h6⟩⟩ := h
  · cases h2
  · have e1 : g' = g := by injection hs with a b c; injection a with a; injection a with a; exact a.symm
    subst e1
    rw [← h6] at hu
    have hu' : cur.toList[j]? = some u := by
      rw [List.getElem?_take] at hu
      split at hu
      · exact hu
      · cases hu
    simp [World.cell?, hh]
    simpa using hu'

/-- The grants, but for the index. -/
structure GC (w0 w : World) (G k n : Nat) (md : Nat → Nat) (v : Value) : Prop where
  bel : Below w0.heap.size w0 w
  hG0 : w0.heap.size ≤ G
  hG1 : G < w.heap.size
  c0 : w.cell? ⟨G, 0, none⟩ = some v
  row : w.ownsRow w0.heap.size 44 3 v k (gcells md k)
  neG : v.ownBlock ≠ some G
  c1 : w.cell? ⟨G, 1, none⟩ = some (.int .i64 0)
  cnt : ∀ m, m ≤ 6 → ∃ c : Nat, c ≤ n ∧ w.cell? ⟨G, 2 + m, none⟩ = some (.int .i64 (c : Int))
  held : ∃ h : Int, w.cell? ⟨G, 9, none⟩ = some (.int .u8 h)
  wait : w.cell? ⟨G, 11, none⟩ = some (.pointer none)
  free : ∀ o, w.frozen? ⟨G, o, none⟩ = false

/-- The index. -/
def GI (w0 w : World) (G k : Nat) (v : Value) : Prop :=
  (k ≤ 8 ∧ w.cell? ⟨G, 10, none⟩ = some (.map none)) ∨ (9 ≤ k ∧ ∃ mb n, w.cell? ⟨G, 10, none⟩ = some (.map (some mb)) ∧ IMap w mb n ∧ n ≤ k ∧ mb ≠ G ∧ v.ownBlock ≠ some mb ∧ w0.heap.size ≤ mb ∧ mb < w.heap.size)

theorem Turn.below {w w' : World} {A m B : Nat} {F : List Nat} (h : Turn w w' A m F) (hB : B ≤ w.heap.size) (hA : B ≤ A) (hF : ∀ f ∈ F, B ≤ f) : Below B w w' :=
  ⟨h.os, h.tape, h.output, h.size, fun k hk => h.block k (by omega) (by omega) (fun e => by have := hF k e; omega)⟩

/-- A turn at one cell of the grants that is none of the list, the gaps, the counts, the held and the marks. -/
theorem GC.turn10 {w0 w w' : World} {G k n : Nat} {md : Nat → Nat} {v : Value} (h : GC w0 w G k n md v) (T : Turn w w' G 10 []) : GC w0 w' G k n md v := by
  have hs := h.bel.size
  refine ⟨h.bel.trans (T.below hs h.hG0 (fun _ e => by cases e)), h.hG0, Nat.lt_of_lt_of_le h.hG1 T.size, (T.cells 0 (by omega)).trans h.c0, row_keep h.row (fun g hg => T.block g (row_lt h.row g hg).2 (fun e => h.neG (by rw [← e]; exact hg)) (fun e => by cases e)), h.neG, (T.cells 1 (by omega)).trans h.c1, fun m hm => ?_, ?_, (T.cells 11 (by omega)).trans h.wait, fun o => (T.free o).trans (h.free o)⟩
  · obtain ⟨c, hc, e⟩ := h.cnt m hm
    exact ⟨c, hc, (T.cells (2 + m) (by omega)).trans e⟩
  · obtain ⟨x, e⟩ := h.held
    exact ⟨x, (T.cells 9 (by omega)).trans e⟩

/-- Behind 'counted'. -/
theorem GC.count {w0 w w1 w' : World} {G k n m c : Nat} {s : Int} {md : Nat → Nat} {v : Value} (h : GC w0 w G k n md v) (hm : m ≤ 6) (hc : c ≤ n) (T : Turn w w1 G (2 + m) []) (e1 : w1.cell? ⟨G, 2 + m, none⟩ = some (.int .i64 ((c : Int) + 1))) (T2 : Turn w1 w' G 9 []) (e2 : w'.cell? ⟨G, 9, none⟩ = some (.int .u8 s)) : GC w0 w' G k (n + 1) md v := by
  have hs := h.bel.size
  have hsz := T.size
  refine ⟨(h.bel.trans (T.below hs h.hG0 (fun _ e => by cases e))).trans (T2.below (Nat.le_trans hs T.size) h.hG0 (fun _ e => by cases e)), h.hG0, Nat.lt_of_lt_of_le (Nat.lt_of_lt_of_le h.hG1 T.size) T2.size, (T2.cells 0 (by omega)).trans ((T.cells 0 (by omega)).trans h.c0),
    row_keep h.row (fun g hg => ?_), h.neG, (T2.cells 1 (by omega)).trans ((T.cells 1 (by omega)).trans h.c1), fun m' hm' => ?_, ⟨s, e2⟩, (T2.cells 11 (by omega)).trans ((T.cells 11 (by omega)).trans h.wait), fun o => (T2.free o).trans ((T.free o).trans (h.free o))⟩
  · have hl := (row_lt h.row g hg).2
    have hn : g ≠ G := fun e => h.neG (by rw [← e]; exact hg)
    exact (T2.block g (by omega) hn (fun e => by cases e)).trans (T.block g hl hn (fun e => by cases e))
  · by_cases e : m' = m
    · subst e
      exact ⟨c + 1, by omega, (T2.cells (2 + m') (by omega)).trans (by rw [e1]; rfl)⟩
    · obtain ⟨c', hc', e'⟩ := h.cnt m' hm'
      exact ⟨c', by omega, (T2.cells (2 + m') (by omega)).trans ((T.cells (2 + m') (by omega)).trans e')⟩

/-- Behind a store into the index. -/
theorem GC.map {w0 w w' : World} {G k n mb : Nat} {md : Nat → Nat} {v : Value} (h : GC w0 w G k n md v) (hg : w.grownBy w' (some mb)) (hne : mb ≠ G) (hv : v.ownBlock ≠ some mb) (hb : w0.heap.size ≤ mb) : GC w0 w' G k n md v := by
  have hs := h.bel.size
  have eG : w'.heap[G]? = w.heap[G]? := hg.block G h.hG1 (fun e => hne (Option.some.inj e).symm)
  have hc : ∀ o, w'.cell? ⟨G, o, none⟩ = w.cell? ⟨G, o, none⟩ := fun o => World.cell?_of_block (w := w) eG
  refine ⟨h.bel.trans ⟨hg.os, hg.tape, hg.output, hg.size, fun k hk => hg.block k (by omega) (fun e => by have := Option.some.inj e; omega)⟩, h.hG0, Nat.lt_of_lt_of_le h.hG1 hg.size, (hc 0).trans h.c0, row_keep h.row (fun g e => hg.block g (row_lt h.row g e).2 (fun e' => hv (by rw [e, ← e']))), h.neG, (hc 1).trans h.c1, fun m hm => ?_, ?_, (hc 11).trans h.wait, fun o => (World.frozen?_of_block (w := w) eG).trans (h.free o)⟩
  · obtain ⟨c, hc', e⟩ := h.cnt m hm
    exact ⟨c, hc', (hc _).trans e⟩
  · obtain ⟨x, e⟩ := h.held
    exact ⟨x, (hc 9).trans e⟩

end Go.Proofs.Ybulkbgqi
