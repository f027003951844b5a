import Derived.Test.YbulkbgrkStart
import Derived.Deep.QuietTactic
import Derived.BigQuiet
import Derived.WalkSmall
namespace Go.Proofs.Ybulkbgrk
open Go.RowKit
set_option linter.unusedVariables false

/-- The first k of n spans are laid: start, end, line. -/
structure Filled (zs : List Int) (M n k : Nat) (w : World) : Prop where
  at0 : ∀ j, j < k → w.cell? ⟨M, j * 4, none⟩ = some (.int .i64 (j : Int))
  at1 : ∀ j, j < k → w.cell? ⟨M, j * 4 + 1, none⟩ = some (.int .i64 (zs.getD j 0))
  at2 : ∀ j, j < k → w.cell? ⟨M, j * 4 + 2, none⟩ = some (.int .i64 ((j : Int) + 1))
  here : ∀ o, o < n * 4 → ∃ v, w.cell? ⟨M, o, none⟩ = some v
  free : ∀ o, w.frozen? ⟨M, o, none⟩ = false

theorem Filled.below {zs : List Int} {M n k : Nat} {w w' : World} (h : Filled zs M n k w) {B : Nat} (hM : M < B) (hb : Below B w w') : Filled zs M n k w' := by
  have c := fun o => hb.cell (p := ⟨M, o, none⟩) hM
  have f := fun o => hb.frozen (p := ⟨M, o, none⟩) hM
  exact ⟨fun j hj => (c _).trans (h.at0 j hj), fun j hj => (c _).trans (h.at1 j hj), fun j hj => (c _).trans (h.at2 j hj), fun o ho => by rw [c]; exact h.here o ho, fun o => (f o).trans (h.free o)⟩

theorem Filled.start (zs : List Int) (n : Nat) (w : World) : Filled zs w.heap.size n 0 (w.alloc (.cells (madeCells spanZero (n * 4)) 27)) := by
  refine ⟨fun j hj => by omega, fun j hj => by omega, fun j hj => by omega, fun o ho => ?_, fun o => World.frozen?_alloc_at _ _ _ _ rfl⟩
  rw [World.cell?_alloc_at _ _ _ _ rfl]
  exact ⟨(madeCells spanZero (n * 4))[o]'(by rw [size_madeCells]; exact ho), Array.getElem?_eq_getElem _⟩

theorem addr_ne {M a b : Nat} (h : a ≠ b) : (⟨M, a, none⟩ : Addr) ≠ ⟨M, b, none⟩ := fun e => h (congrArg Addr.off e)

theorem set_other {w : World} {M a b : Nat} {v u : Value} (h : a ≠ b) (hc : w.cell? ⟨M, b, none⟩ = some u) : (w.setCell ⟨M, a, none⟩ v).cell? ⟨M, b, none⟩ = some u :=
  (World.cell?_setCell_other w _ _ v (addr_ne h)).trans hc

theorem set_same {w : World} {M a : Nat} {v u : Value} (hc : w.cell? ⟨M, a, none⟩ = some u) : (w.setCell ⟨M, a, none⟩ v).cell? ⟨M, a, none⟩ = some v :=
  World.cell?_setCell_same w _ v hc

theorem set_here {w : World} {M a o : Nat} {v : Value} (h : ∃ u, w.cell? ⟨M, o, none⟩ = some u) : ∃ u, (w.setCell ⟨M, a, none⟩ v).cell? ⟨M, o, none⟩ = some u := by
  obtain ⟨u, hu⟩ := h
  by_cases e : a = o
  · subst e; exact ⟨v, set_same hu⟩
  · exact ⟨u, set_other e hu⟩

/-- One round: the k-th span is stored. -/
theorem Filled.step {zs : List Int} {M n k : Nat} {w : World} (h : Filled zs M n k w) (hk : k < n) :
    Filled zs M n (k + 1) ((((w.setCell ⟨M, k * 4, none⟩ (.int .i64 (k : Int))).setCell ⟨M, k * 4 + 1, none⟩ (.int .i64 (zs.getD k 0))).setCell ⟨M, k * 4 + 2, none⟩ (.int .i64 ((k : Int) + 1))).setCell ⟨M, k * 4 + 3, none⟩ (.int .u8 0)) := by
  refine ⟨fun j hj => ?_, fun j hj => ?_, fun j hj => ?_, fun o ho => ?_, fun o => ?_⟩
  · refine set_other (by omega) (set_other (by omega) (set_other (by omega) ?_))
    by_cases e : j = k
    · subst e; obtain ⟨u, hu⟩ := h.here (j * 4) (by omega); exact set_same hu
    · exact set_other (by omega) (h.at0 j (by omega))
  · refine set_other (by omega) (set_other (by omega) ?_)
    by_cases e : j = k
    · subst e; obtain ⟨u, hu⟩ := h.here (j * 4 + 1) (by omega); exact set_same (set_other (by omega) hu)
    · exact set_other (by omega) (set_other (by omega) (h.at1 j (by omega)))
  · refine set_other (by omega) ?_
    by_cases e : j = k
    · subst e; obtain ⟨u, hu⟩ := h.here (j * 4 + 2) (by omega); exact set_same (set_other (by omega) (set_other (by omega) hu))
    · exact set_other (by omega) (set_other (by omega) (set_other (by omega) (h.at2 j (by omega))))
  · exact set_here (set_here (set_here (set_here (h.here o ho))))
  · simp [World.frozen?_setCell, h.free o]

/-- The reader's block. -/
def boxOf (M n : Nat) : Obj :=
  .cells #[.string { data := #[] }, .nilIface, .slice none 0 0, .pointer none, .int .u8 0, .int .u8 0, .slice none 0 0, .slice none 0 0, .nilFunc, .nilFunc, .slice none 0 0, .int .i64 0, .int .i64 0, .bool false, .nilIface, .int .i64 1, .slice none 0 0, .slice none 0 0, .slice (some ⟨M, 0, none⟩) n n, .int .i64 (-1), .int .i64 0, .nilIface] 41

set_option maxHeartbeats 1000000 in
theorem model_zero (b off n cap : Nat) (zs : List Int) (idx : Int) (w : World) (hn0 : 0 < n) (hn : n ≤ 1024) (hb : b < w.heap.size) (hc : ∀ j, j < n → w.cell? ⟨b, off + j, none⟩ = some (.int .i64 (zs.getD j 0))) (h0 : 0 ≤ idx) (h1 : idx ≤ 18446744073709551615)
    (hm : idx % ((n : Int) + 1) = 0) :
    Calls Yba.prog 3 #[.slice (some ⟨b, off, none⟩) n cap, .int .u64 idx] w fun e w' => e = .returned (.bool true) ∧ Below w.heap.size w w' := by
  have hmk := make_spans n n (Nat.le_refl _) hn
  have hst := Filled.start zs n w
  go_enter Yba.func3, Yba.ntmps3
  go_wp2
  go_loopw [6] (fun i wr => ∃ k : Nat, k ≤ n ∧ i = .int .i64 k ∧ Filled zs w.heap.size n k wr ∧ Below w.heap.size w wr ∧ wr.heap.size = w.heap.size + 1) (fun i _ => n - (intOf i).toNat)
  case atStart => exact ⟨0, by omega, rfl, hst, (Below.refl _ _).alloc (Nat.le_refl _) _, by simp⟩
  case round =>
    clear hst
    obtain ⟨k, hk, rfl, hfil, hbl, hsz⟩ := hrel
    by_cases hlt : k < n
    · have hck : wr.cell? ⟨b, off + k, none⟩ = some (.int .i64 (zs.getD k 0)) := (hbl.cell (p := ⟨b, off + k, none⟩) hb).trans (hc k hlt)
      obtain ⟨u0, e0⟩ := hfil.here (k * 4) (by omega)
      obtain ⟨u1, e1⟩ := hfil.here (k * 4 + 1) (by omega)
      obtain ⟨u2, e2⟩ := hfil.here (k * 4 + 2) (by omega)
      obtain ⟨u3, e3⟩ := hfil.here (k * 4 + 3) (by omega)
      have fr := hfil.free
      go_wp2
      go_roundw
      case rel =>
        refine ⟨k + 1, by omega, by go_num, hfil.step hlt, ?_, by simp [hsz]⟩
        exact (((hbl.setCell (Nat.le_refl _) _).setCell (Nat.le_refl _) _).setCell (Nat.le_refl _) _).setCell (Nat.le_refl _) _
      case measure => simp [intOf]; omega
    · obtain rfl : k = n := by omega
      have HF := hideIt hfil
      have HBL := hideIt hbl
      clear hfil hbl hmk
      go_wp2_with fail
      refine (start_zero _ _).mono ?_
      rintro e w1 ⟨rfl, rfl⟩

      have hS := HF.out.below (B := wr.heap.size) (by omega) ((Below.refl _ _).alloc (Nat.le_refl _) (boxOf w.heap.size k))
      have hB := HBL.out.alloc (by omega) (boxOf w.heap.size k)
      have h18 : (wr.alloc (boxOf w.heap.size k)).cell? ⟨w.heap.size + 1, 18, none⟩ = some (.slice (some ⟨w.heap.size, 0, none⟩) k k) := by rw [boxOf, World.cell?_alloc_at _ _ _ _ hsz.symm]; rfl
      have HS := hideIt hS
      have HB := hideIt hB
      have H18 := hideIt h18
      clear hS hB h18 HF HBL
      go_wp2
      go_loopw [11] (fun i wx => ∃ j : Nat, j ≤ k ∧ i = .int .i64 j ∧ Filled zs w.heap.size k k wx ∧ Below w.heap.size w wx ∧ wx.cell? ⟨w.heap.size + 1, 18, none⟩ = some (.slice (some ⟨w.heap.size, 0, none⟩) k k)) (fun i _ => k - (intOf i).toNat)
      case atStart => exact ⟨0, by omega, rfl, HS.out, HB.out, H18.out⟩
      case round =>
        clear HS HB H18
        obtain ⟨j, hj, rfl, hfil, hbl, h18⟩ := hrel
        by_cases hlt : j < k
        · have g0 := hfil.at0 j hlt
          have g1 := hfil.at1 j hlt
          have g2 := hfil.at2 j hlt
          have gb : wr.cell? ⟨b, off + j, none⟩ = some (.int .i64 (zs.getD j 0)) := (hbl.cell (p := ⟨b, off + j, none⟩) hb).trans (hc j hlt)
          have hlt' : (j : Int) < (k : Int) := by omega
          go_wp2
          go_quiet (fail)
          go_wp2
          go_roundw
          case rel => exact ⟨j + 1, by omega, by go_num, hfil.below (B := w.heap.size + 1) (by omega) (below_drewN (Below.refl _ _) _), below_drewN hbl _, h18⟩
          case measure => simp [intOf]; omega
        · go_wp2
          go_ret
          exact ⟨rfl, hbl⟩

set_option maxHeartbeats 1000000 in
theorem model_pos (b off n cap p : Nat) (zs : List Int) (idx : Int) (w : World) (hn0 : 0 < n) (hn : n ≤ 1024) (hb : b < w.heap.size) (hc : ∀ j, j < n → w.cell? ⟨b, off + j, none⟩ = some (.int .i64 (zs.getD j 0))) (h0 : 0 ≤ idx) (h1 : idx ≤ 18446744073709551615)
    (hm : idx % ((n : Int) + 1) = (p : Int) + 1) (hpn : p < n) :
    Calls Yba.prog 3 #[.slice (some ⟨b, off, none⟩) n cap, .int .u64 idx] w fun e w' => e = .returned (.bool true) ∧ Below w.heap.size w w' := by
  have hmk := make_spans n n (Nat.le_refl _) hn
  have hst := Filled.start zs n w
  go_enter Yba.func3, Yba.ntmps3
  go_wp2
  go_loopw [6] (fun i wr => ∃ k : Nat, k ≤ n ∧ i = .int .i64 k ∧ Filled zs w.heap.size n k wr ∧ Below w.heap.size w wr ∧ wr.heap.size = w.heap.size + 1) (fun i _ => n - (intOf i).toNat)
  case atStart => exact ⟨0, by omega, rfl, hst, (Below.refl _ _).alloc (Nat.le_refl _) _, by simp⟩
  case round =>
    clear hst
    obtain ⟨k, hk, rfl, hfil, hbl, hsz⟩ := hrel
    by_cases hlt : k < n
    · have hck : wr.cell? ⟨b, off + k, none⟩ = some (.int .i64 (zs.getD k 0)) := (hbl.cell (p := ⟨b, off + k, none⟩) hb).trans (hc k hlt)
      obtain ⟨u0, e0⟩ := hfil.here (k * 4) (by omega)
      obtain ⟨u1, e1⟩ := hfil.here (k * 4 + 1) (by omega)
      obtain ⟨u2, e2⟩ := hfil.here (k * 4 + 2) (by omega)
      obtain ⟨u3, e3⟩ := hfil.here (k * 4 + 3) (by omega)
      have fr := hfil.free
      go_wp2
      go_roundw
      case rel =>
        refine ⟨k + 1, by omega, by go_num, hfil.step hlt, ?_, by simp [hsz]⟩
        exact (((hbl.setCell (Nat.le_refl _) _).setCell (Nat.le_refl _) _).setCell (Nat.le_refl _) _).setCell (Nat.le_refl _) _
      case measure => simp [intOf]; omega
    · obtain rfl : k = n := by omega
      have HF := hideIt hfil
      have HBL := hideIt hbl
      clear hfil hbl hmk
      go_wp2_with fail
      have hcp : wr.cell? ⟨w.heap.size, p * 4 + 1, none⟩ = some (.int .i64 (zs.getD p 0)) := HF.out.at1 p hpn
      have hbp : wr.cell? ⟨b, off + p, none⟩ = some (.int .i64 (zs.getD p 0)) := (HBL.out.cell (p := ⟨b, off + p, none⟩) hb).trans (hc p hpn)
      have hbs : b < wr.heap.size := by omega
      refine (start_pos (w.heap.size + 1) w.heap.size k k p (zs.getD p 0) _ hpn hn (by rw [World.cell?_alloc_at _ _ _ _ hsz.symm]; rfl) (by rw [World.cell?_alloc_past _ _ _ (by show w.heap.size < _; omega)]; exact hcp)).mono ?_
      rintro e w1 ⟨rfl, rfl⟩

      have hS := HF.out.below (B := wr.heap.size) (by omega) ((Below.refl _ _).alloc (Nat.le_refl _) (boxOf w.heap.size k))
      have hB := HBL.out.alloc (by omega) (boxOf w.heap.size k)
      have h18 : (wr.alloc (boxOf w.heap.size k)).cell? ⟨w.heap.size + 1, 18, none⟩ = some (.slice (some ⟨w.heap.size, 0, none⟩) k k) := by rw [boxOf, World.cell?_alloc_at _ _ _ _ hsz.symm]; rfl
      have HS := hideIt hS
      have HB := hideIt hB
      have H18 := hideIt h18
      clear hS hB h18 HF HBL
      go_wp2
      go_loopw [11] (fun i wx => ∃ j : Nat, j ≤ k ∧ i = .int .i64 j ∧ Filled zs w.heap.size k k wx ∧ Below w.heap.size w wx ∧ wx.cell? ⟨w.heap.size + 1, 18, none⟩ = some (.slice (some ⟨w.heap.size, 0, none⟩) k k)) (fun i _ => k - (intOf i).toNat)
      case atStart => exact ⟨0, by omega, rfl, HS.out, HB.out, H18.out⟩
      case round =>
        clear HS HB H18
        obtain ⟨j, hj, rfl, hfil, hbl, h18⟩ := hrel
        by_cases hlt : j < k
        · have g0 := hfil.at0 j hlt
          have g1 := hfil.at1 j hlt
          have g2 := hfil.at2 j hlt
          have gb : wr.cell? ⟨b, off + j, none⟩ = some (.int .i64 (zs.getD j 0)) := (hbl.cell (p := ⟨b, off + j, none⟩) hb).trans (hc j hlt)
          have hlt' : (j : Int) < (k : Int) := by omega
          go_wp2
          go_quiet (fail)
          go_wp2
          go_roundw
          case rel => exact ⟨j + 1, by omega, by go_num, hfil.below (B := w.heap.size + 1) (by omega) (below_drewN (Below.refl _ _) _), below_drewN hbl _, h18⟩
          case measure => simp [intOf]; omega
        · go_wp2
          go_ret
          exact ⟨rfl, hbl⟩

theorem model_none (a : Option Addr) (cap : Nat) (idx : Int) (w : World) (h0 : 0 ≤ idx) (h1 : idx ≤ 18446744073709551615) :
    Calls Yba.prog 3 #[.slice a 0 cap, .int .u64 idx] w fun e w' => e = .returned (.bool true) ∧ Below w.heap.size w w' := by
  have hmk : ∀ w, (Instr.makeSlice 24 (.int .i64 0) (.int .i64 0)).run Yba.prog w = .ok (.slice (some ⟨w.heap.size, 0, none⟩) 0 0) (w.alloc (.cells (madeCells spanZero 0) 27)) := make_spans 0 0 (Nat.le_refl _) (by omega)
  go_enter Yba.func3, Yba.ntmps3
  go_wp2
  refine wp_loop_rounds 1 ?_
  rw [rounds_succ]
  go_wp2_with fail
  refine (start_zero _ _).mono ?_
  rintro e w1 ⟨rfl, rfl⟩
  go_wp2
  refine wp_loop_rounds 1 ?_
  rw [rounds_succ]
  go_wp2
  go_ret
  exact ⟨rfl, ((Below.refl _ _).alloc (Nat.le_refl _) _).alloc (by simp) _⟩

theorem model_long (a : Option Addr) (n cap : Nat) (idx : Int) (w : World) (hn : 1024 < n) (hm : n ≤ maxLen) :
    Calls Yba.prog 3 #[.slice a n cap, .int .u64 idx] w fun e w' => e = .returned (.bool true) ∧ Below w.heap.size w w' := by
  unfold maxLen at hm
  go_enter Yba.func3, Yba.ntmps3
  go_wp2
  go_ret
  exact ⟨rfl, Below.refl _ _⟩

end Go.Proofs.Ybulkbgrk
