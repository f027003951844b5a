import Derived.Test.YbulkbgqiMap
import Derived.Deep.DeepAppendRoom
import Derived.Maps.AppendAt
namespace Go.Proofs.Ybulkbgqi
open Go.RowKit
set_option linter.unusedVariables false

theorem info3 : (Yba.prog.info? 3).map (fun i => (i.zero, i.size, i.bytes)) = some (some (.int .i64 0), 1, 8) := by kernel_rfl
theorem info9 : (Yba.prog.info? 9).map (fun i => (i.zero, i.size, i.bytes)) = some (some (.string { data := #[] }), 1, 16) := by kernel_rfl
theorem info54 : (Yba.prog.info? 54).map (fun i => (i.zero, i.size, i.bytes)) = some (some (.string { data := #[] }), 1, 16) := by kernel_rfl

/-- A slice of strings that came in. -/
structure StrRow (w : World) (a : Option Addr) (n : Nat) (ss : List ByteArray) : Prop where
  size : ∀ j, (ss.getD j emp).size ≤ 140737488355328
  cells : 0 < n → ∃ b off, a = some ⟨b, off, none⟩ ∧ b < w.heap.size ∧ ∀ j, j < n → w.cell? ⟨b, off + j, none⟩ = some (.string (ss.getD j emp))

/-- A slice of bytes that came in. -/
structure ByteRow (w : World) (a : Option Addr) (n : Nat) (zs : List Int) : Prop where
  size : ∀ j, 0 ≤ zs.getD j 0 ∧ zs.getD j 0 ≤ 255
  cells : 0 < n → ∃ b off, a = some ⟨b, off, none⟩ ∧ b < w.heap.size ∧ ∀ j, j < n → w.cell? ⟨b, off + j, none⟩ = some (.int .u8 (zs.getD j 0))

theorem StrRow.below {w w' : World} {a : Option Addr} {n : Nat} {ss : List ByteArray} (h : StrRow w a n ss) (hb : Below w.heap.size w w') : StrRow w' a n ss := by
  refine ⟨h.size, fun hn => ?_⟩
  obtain ⟨b, off, e, hlt, hc⟩ := h.cells hn
  exact ⟨b, off, e, Nat.lt_of_lt_of_le hlt hb.size, fun j hj => (hb.cell (p := ⟨b, off + j, none⟩) hlt).trans (hc j hj)⟩

theorem ByteRow.below {w w' : World} {a : Option Addr} {n : Nat} {ss : List Int} (h : ByteRow w a n ss) (hb : Below w.heap.size w w') : ByteRow w' a n ss := by
  refine ⟨h.size, fun hn => ?_⟩
  obtain ⟨b, off, e, hlt, hc⟩ := h.cells hn
  exact ⟨b, off, e, Nat.lt_of_lt_of_le hlt hb.size, fun j hj => (hb.cell (p := ⟨b, off + j, none⟩) hlt).trans (hc j hj)⟩

/-- A row of the call's own, in block g. -/
abbrev Own (w : World) (e : TypeId) (g n cap : Nat) (xs : List Value) : Prop := w.ownsRow 0 e 1 (.slice (some ⟨g, 0, none⟩) n cap) n xs

theorem Own.lt {w : World} {e : TypeId} {g n cap : Nat} {xs : List Value} (h : Own w e g n cap xs) : g < w.heap.size := (World.ownsRow.lt h g rfl).2

theorem Own.keep {w w' : World} {e : TypeId} {g n cap : Nat} {xs : List Value} (h : Own w e g n cap xs) (hb : w'.heap[g]? = w.heap[g]?) : Own w' e g n cap xs := by
  obtain ⟨h1, h2 | ⟨g', cp, cur, hv, hg, hh, r⟩⟩ := h
  · exact ⟨h1, .inl h2⟩
  · have e1 : g' = g := by injection hv with a b c; injection a with a; injection a with a; exact a.symm
    subst e1
    exact ⟨h1, .inr ⟨g', cp, cur, hv, hg, hb.trans hh, r⟩⟩

theorem Own.get {w : World} {e : TypeId} {g n cap : Nat} {xs : List Value} (h : Own w e g n cap xs) (j : Nat) (v : Value) (hv : xs[j]? = some v) : w.cell? ⟨g, j, none⟩ = some v := by
  obtain ⟨h1, ⟨h2, _⟩ | ⟨g', cp, cur, hs, hg, hh, h3, h4, h5, h6⟩⟩ := h
  · cases h2
  · have e1 : g' = g := by injection hs with a b c; injection a with a; injection a with a; exact a.symm
    subst e1
    have hj : j < n := by have := (List.getElem?_eq_some_iff.1 hv).1; omega
    rw [← h6, List.getElem?_take, if_pos (by omega)] at hv
    simpa [World.cell?, hh] using hv

theorem Own.alloc {w : World} {e : TypeId} {g n cap : Nat} {xs : List Value} (h : Own w e g n cap xs) (o : Obj) : Own (w.alloc o) e g n cap xs :=
  Own.keep h (Below.heap_alloc _ _ _ (Own.lt h))

theorem Own.grown {w w' : World} {e : TypeId} {g g' n cap : Nat} {xs : List Value} (h : Own w e g n cap xs) (hg : w.grownBy w' (some g')) (hne : g ≠ g') : Own w' e g n cap xs :=
  Own.keep h (hg.block g (Own.lt h) (fun e => hne (by injection e)))

theorem Own.below {w w' : World} {e : TypeId} {g n cap : Nat} {xs : List Value} (h : Own w e g n cap xs) {B : Nat} (hb : Below B w w') (hg : g < B) : Own w' e g n cap xs :=
  Own.keep h (hb.block g hg)

theorem Own.made (w : World) (e : TypeId) (z : Value) (cap : Nat) (hm : cap ≤ maxLen) : Own (w.alloc (.cells (madeCells #[z] cap) e)) e w.heap.size 0 cap [] :=
  World.ownsRow_made w _ cap (Nat.zero_le _) hm (by rw [size_madeCells]; omega)

theorem make_of (t e : TypeId) (z : Value) (by_ : Nat) (ht : Yba.prog.underlying t = some (.slice e)) (hinfo : (Yba.prog.info? e).map (fun i => (i.zero, i.size, i.bytes)) = some (some z, 1, by_)) (hz1 : z.cells = #[z]) (hby : by_ ≤ 100)
    (c : Nat) (hc : c ≤ 100000) (w : World) :
    (Instr.makeSlice t (.int .i64 0) (.int .i64 (c : Int))).run Yba.prog w = .ok (.slice (some ⟨w.heap.size, 0, none⟩) 0 c) (w.alloc (.cells (madeCells #[z] c) e)) := by
  obtain ⟨i0, hi, hz0, hsz, hb⟩ := info_parts hinfo
  have h := run_make (P := Yba.prog) (w := w) t e i0 _ ht hi hz0 .i64 .i64 0 (c : Int) (by omega) (by omega) (by rw [hb]; have : (by_ : Int) * (c : Int) ≤ 100 * 100000 := Int.mul_le_mul (by omega) (by omega) (by omega) (by omega); omega) (by omega)
  rw [h, hsz, hz1]
  simp only [Nat.mul_one, Int.toNat_natCast]
  rfl

theorem one_str (s : ByteArray) : ∀ u ∈ [Value.string s], u.oneCell' = true := by
  intro u hu; simp at hu; subst hu; rfl
theorem one_int (k : IntKind) (x : Int) : ∀ u ∈ [Value.int k x], u.oneCell' = true := by
  intro u hu; simp at hu; subst hu; rfl

/-- The lengths of the first k. -/
def tot (ss : List ByteArray) : Nat → Nat
  | 0 => 0
  | k + 1 => tot ss k + (ss.getD k emp).size

theorem esc_any (v : Int) (h0 : 0 ≤ v) (h1 : v ≤ 255) : ∃ s : ByteArray, s.size ≤ 10 ∧ ∀ w : World, Calls Yba.prog 11 #[.int .u8 v] w fun e w' => e = .returned (.string s) ∧ w' = w := by
  have hm : v % 4 = 0 ∨ v % 4 = 1 ∨ v % 4 = 2 ∨ v % 4 = 3 := by omega
  rcases hm with hm | hm | hm | hm
  · refine ⟨{ data := #[116, 97, 98, 108, 101] }, by decide, fun w => ?_⟩
    go_enter Yba.func11, Yba.ntmps11
    go_wp2
    go_ret
    exact ⟨rfl, rfl⟩
  · refine ⟨{ data := #[97, 117, 116, 111] }, by decide, fun w => ?_⟩
    go_enter Yba.func11, Yba.ntmps11
    go_wp2
    go_ret
    exact ⟨rfl, rfl⟩
  · refine ⟨{ data := #[100, 105, 115, 97, 98, 108, 101] }, by decide, fun w => ?_⟩
    go_enter Yba.func11, Yba.ntmps11
    go_wp2
    go_ret
    exact ⟨rfl, rfl⟩
  · refine ⟨{ data := #[] }, by decide, fun w => ?_⟩
    go_enter Yba.func11, Yba.ntmps11
    go_wp2
    go_ret
    exact ⟨rfl, rfl⟩

end Go.Proofs.Ybulkbgqi
