import Derived.Test.YbulkbgqiRem
namespace Go.Proofs.Ybulkbgqi
open Go.RowKit
set_option linter.unusedVariables false

/-- What a call on the set at ⟨A, m⟩ leaves. -/
def Left (w w' : World) (A m : Nat) (F : List Nat) (P : Nat → Bool) : Prop :=
  ∃ v' ws' top' F', w'.cell? ⟨A, m, none⟩ = some v' ∧ PSet w' v' ws' top' F' ∧ Good ws' top' ∧ (∀ j, hasBit ws' j = P j) ∧ (∀ b ∈ F', b ∈ F ∨ w.heap.size ≤ b) ∧ Turn w w' A m F

theorem foot_mem (nl L g0 g1 : Nat) (h : nl = 1 ∨ nl = 2) : L ∈ foot nl L g0 g1 ∧ g0 ∈ foot nl L g0 g1 ∧ (nl = 2 → g1 ∈ foot nl L g0 g1) := by
  rcases h with rfl | rfl <;> simp [foot]

theorem good_set {ws : List Nat} {top q y : Nat} (hG : Good ws top) (hq : q < ws.length) (hx : ws.getD q 0 ≠ 0) (hy : y ≠ 0) : Good (ws.set q y) top := by
  intro h2 k
  rw [List.length_set] at h2
  rw [getD_set _ _ _ _ hq, hG h2 k]
  by_cases e : k = q
  · subst e
    have a1 : (ws.getD k 0 == 0) = false := by simpa using hx
    have a2 : (y == 0) = false := by simpa using hy
    rw [if_pos rfl, a1, a2]
  · rw [if_neg e]

theorem good_gone {ws : List Nat} {top q : Nat} (hG : Good ws top) (hq : q < ws.length) (hq64 : q < 64) (ht : top < 18446744073709551616) : Good (ws.set q 0) (clr top q) := by
  intro h2 k
  rw [List.length_set] at h2
  rw [getD_set _ _ _ _ hq, clr_testBit _ _ _ ht hq64, hG h2 k]
  by_cases e : k = q
  · subst e; simp
  · have a1 : (k == q) = false := by simpa using e
    rw [if_neg e, a1]; simp

theorem clr_zero_of (x r : Nat) (hx : x = 0) : clr x r = 0 := by
  subst hx
  apply Nat.eq_of_testBit_eq
  intro j
  have h := clr_lt 0 r
  unfold clr
  rw [BitVec.testBit_toNat, BitVec.getLsbD_and]
  simp

set_option maxHeartbeats 1000000 in
theorem rem_any (A m i : Nat) (v : Value) (ws : List Nat) (top : Nat) (F : List Nat) (w : World) (hi : i ≤ 1024) (hv : w.cell? ⟨A, m, none⟩ = some v) (hp : PSet w v ws top F) (hG : Good ws top) (hA : A ∉ F) :
    Calls Yba.prog 16 #[.pointer (some ⟨A, m, none⟩), .int .i64 (i : Int)] w fun e w' => e = .returned (.tuple #[]) ∧ Left w w' A m F (fun j => hasBit ws j && !(j == i)) := by
  have hp' := hp
  have same : (hasBit ws i = false) → Left w w A m F (fun j => hasBit ws j && !(j == i)) := fun hb => by
    refine ⟨v, ws, top, F, hv, hp', hG, fun j => ?_, fun b hb => .inl hb, Turn.refl _ _ _ _⟩
    by_cases e : j = i
    · subst e; simp [hb]
    · have : (j == i) = false := by simpa using e
      simp [this]
  rcases hp with ⟨rfl, rfl, rfl⟩ | ⟨L, nl, cL, g0, c0, g1, c1, rfl, hl, h1, h17, hiff, rfl⟩
  · exact (rem_nil A m i w hi hv).mono fun e w' ⟨he, hw⟩ => ⟨he, by rw [hw]; exact same (has_beyond [] i (Nat.zero_le _))⟩
  · have hnl : 0 < nl := by rcases hl.nlr with h | h <;> omega
    have hnl2 : nl ≤ 2 := by rcases hl.nlr with h | h <;> omega
    obtain ⟨fL, f0, f1⟩ := foot_mem nl L g0 g1 hl.nlr
    have hA0 : g0 ≠ A := fun e => hA (e ▸ f0)
    have hAL : L ≠ A := fun e => hA (e ▸ fL)
    by_cases hlt : i / 64 < ws.length
    · have hr64 : i % 64 < 64 := Nat.mod_lt _ (by omega)
      have hx := hl.word0 (i / 64) hlt
      have hxl := getD_lt ws hl.lt (i / 64)
      have hcl := bit_clr (ws.getD (i / 64) 0) (i % 64) hr64
      have hbits := fun j => has_clr ws i j hlt hxl
      have hyl := clr_lt (ws.getD (i / 64) 0) (i % 64)
      have S1 := (hl.set0 (i / 64) (clr (ws.getD (i / 64) 0) (i % 64)) hlt hyl)
      have T1 : Turn w (w.setCell ⟨g0, i / 64, none⟩ (.int .u64 ((clr (ws.getD (i / 64) 0) (i % 64) : Nat) : Int))) A m (foot nl L g0 g1) := (Turn.refl w A m _).store _ (.inl f0) hA0
      have hvS : ∀ u, (w.setCell ⟨g0, i / 64, none⟩ u).cell? ⟨A, m, none⟩ = some (.slice (some ⟨L, 0, none⟩) nl cL) := fun u => by
        rw [World.cell?_of_block (w := w) (Below.heap_setCell _ _ _ _ (fun e => hA0 e.symm))]; exact hv
      by_cases hz : clr (ws.getD (i / 64) 0) (i % 64) = 0
      · rw [hz] at hcl S1 T1 hbits
        rcases hl.nlr with rfl | rfl
        · refine (rem_gone A m i (i / 64) (i % 64) L cL g0 ws.length c0 (ws.getD (i / 64) 0) w hi hv hl.lev0 (by omega) h17 hlt (low6 i (by omega)) hr64 hx (hl.ow0.free _) hcl).mono fun e w' ⟨he, hw⟩ => ⟨he, ?_⟩
          rw [hw]
          refine ⟨_, ws.set (i / 64) 0, top, foot 1 L g0 g1, hvS _, .inr ⟨L, 1, cL, g0, c0, g1, c1, rfl, S1.drew, by simpa using h1, by simpa using h17, by simpa using hiff, rfl⟩, ?_, hbits, fun b hb => .inl hb, T1.drew⟩
          intro h2
          have := hiff.1 rfl
          simp at h2
          omega
        · have hq64 : i / 64 < 64 := by omega
          obtain ⟨hne1, hne2⟩ := hl.ne1 rfl
          have hA1 : g1 ≠ A := fun e => hA (e ▸ f1 rfl)
          have hl1 := S1.lev1
          have hw1 := S1.word1
          have hcl2 := bit_clr top (i / 64) hq64
          have S2 := S1.set1 (clr top (i / 64)) (clr_lt _ _)
          have T2 := T1.store (.int .u64 ((clr top (i / 64) : Nat) : Int)) (.inl (f1 rfl)) hA1 (g := g1) (o := 0)
          have hvS2 : ∀ u u2, ((w.setCell ⟨g0, i / 64, none⟩ u).setCell ⟨g1, 0, none⟩ u2).cell? ⟨A, m, none⟩ = some (.slice (some ⟨L, 0, none⟩) 2 cL) := fun u u2 => by
            rw [World.cell?_of_block (w := w.setCell ⟨g0, i / 64, none⟩ u) (Below.heap_setCell _ _ _ _ (fun e => hA1 e.symm))]; exact hvS u
          have hgood := good_gone hG hlt hq64 hl.tlt
          by_cases hz2 : clr top (i / 64) = 0
          · rw [hz2] at hcl2 S2 T2 hgood
            refine (rem_last A m i (i / 64) (i % 64) L cL g0 ws.length c0 (ws.getD (i / 64) 0) g1 c1 top w hi hv hl.lev0 (by omega) h17 hlt (low6 i (by omega)) hr64 hx (hl.ow0.free _) hcl hl1 hw1 ((hl.ow1 rfl).free _) (by omega) (by rw [low6 _ (by omega)]; omega) hcl2).mono fun e w' ⟨he, hw⟩ => ⟨he, ?_⟩
            rw [hw]
            exact ⟨_, ws.set (i / 64) 0, 0, foot 2 L g0 g1, hvS2 _ _, .inr ⟨L, 2, cL, g0, c0, g1, c1, rfl, S2.drew.drew, by simpa using h1, by simpa using h17, by simpa using hiff, rfl⟩, hgood, hbits, fun b hb => .inl hb, T2.drew.drew⟩
          · refine (rem_two A m i (i / 64) (i % 64) L cL g0 ws.length c0 (ws.getD (i / 64) 0) g1 c1 top (clr top (i / 64)) w hi hv hl.lev0 (by omega) h17 hlt (low6 i (by omega)) hr64 hx (hl.ow0.free _) hcl hl1 hw1 ((hl.ow1 rfl).free _) (by omega) (by rw [low6 _ (by omega)]; omega) hcl2 (by simpa using hz2)).mono fun e w' ⟨he, hw⟩ => ⟨he, ?_⟩
            rw [hw]
            exact ⟨_, ws.set (i / 64) 0, clr top (i / 64), foot 2 L g0 g1, hvS2 _ _, .inr ⟨L, 2, cL, g0, c0, g1, c1, rfl, S2.drew.drew, by simpa using h1, by simpa using h17, by simpa using hiff, rfl⟩, hgood, hbits, fun b hb => .inl hb, T2.drew.drew⟩
      · have hx0 : ws.getD (i / 64) 0 ≠ 0 := fun e => hz (clr_zero_of _ _ e)
        refine (rem_stays A m i (i / 64) (i % 64) L nl cL g0 ws.length c0 (ws.getD (i / 64) 0) (clr (ws.getD (i / 64) 0) (i % 64)) w hi hnl hnl2 hv hl.lev0 (by omega) h17 hlt (low6 i (by omega)) hr64 hx (hl.ow0.free _) hcl (by simpa using hz)).mono fun e w' ⟨he, hw⟩ => ⟨he, ?_⟩
        rw [hw]
        exact ⟨_, ws.set (i / 64) (clr (ws.getD (i / 64) 0) (i % 64)), top, foot nl L g0 g1, hvS _, .inr ⟨L, nl, cL, g0, c0, g1, c1, rfl, S1.drew, by simpa using h1, by simpa using h17, by simpa using hiff, rfl⟩, good_set hG hlt hx0 hz, hbits, fun b hb => .inl hb, T1.drew⟩
    · exact (rem_far A m i (i / 64) L nl cL g0 ws.length c0 w hi hnl hnl2 hv hl.lev0 (by omega) h17 (by omega)).mono fun e w' ⟨he, hw⟩ => ⟨he, by rw [hw]; exact same (has_beyond ws i (by omega))⟩

end Go.Proofs.Ybulkbgqi
