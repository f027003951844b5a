import Derived.Test.YbulkbgqiGAdd
namespace Go.Proofs.Ybulkbgqi
open Go.RowKit
set_option linter.unusedVariables false

theorem LvS.lts {w : World} {L nl cL g0 c0 g1 c1 top : Nat} {ws : List Nat} (h : LvS w L nl cL g0 c0 g1 c1 ws top) : ∀ b ∈ foot nl L g0 g1, b < w.heap.size := by
  intro b hb
  rcases h.nlr with rfl | rfl
  · simp [foot] at hb
    rcases hb with rfl | rfl
    · exact Own.lt h.own
    · exact Own.lt h.ow0
  · simp [foot] at hb
    rcases hb with rfl | rfl | rfl
    · exact Own.lt h.own
    · exact Own.lt h.ow0
    · exact Own.lt (h.ow1 rfl)

theorem PSet.lts {w : World} {v : Value} {ws : List Nat} {top : Nat} {F : List Nat} (h : PSet w v ws top F) : ∀ b ∈ F, b < w.heap.size := by
  rcases h with ⟨rfl, rfl, rfl⟩ | ⟨L, nl, cL, g0, c0, g1, c1, rfl, hl, h1, h17, hiff, rfl⟩
  · intro b hb; cases hb
  · exact hl.lts

theorem PSet.keep {w w' : World} {v : Value} {ws : List Nat} {top : Nat} {F : List Nat} (h : PSet w v ws top F) (hk : ∀ b ∈ F, w'.heap[b]? = w.heap[b]?) : PSet w' v ws top F := by
  rcases h with ⟨rfl, rfl, rfl⟩ | ⟨L, nl, cL, g0, c0, g1, c1, rfl, hl, h1, h17, hiff, rfl⟩
  · exact .inl ⟨rfl, rfl, rfl⟩
  · exact .inr ⟨L, nl, cL, g0, c0, g1, c1, rfl, hl.keep hk, h1, h17, hiff, rfl⟩

theorem PSet.bound {w : World} {v : Value} {ws : List Nat} {top : Nat} {F : List Nat} (h : PSet w v ws top F) (hG : Good ws top) : ∃ t, t < 18446744073709551616 ∧ PSet w v ws t F ∧ Good ws t := by
  rcases h with ⟨rfl, rfl, rfl⟩ | ⟨L, nl, cL, g0, c0, g1, c1, rfl, hl, h1, h17, hiff, rfl⟩
  · exact ⟨0, by omega, .inl ⟨rfl, rfl, rfl⟩, fun h => by simp at h⟩
  · exact ⟨top, hl.tlt, .inr ⟨L, nl, cL, g0, c0, g1, c1, rfl, hl, h1, h17, hiff, rfl⟩, hG⟩

/-- The array of the marks. -/
structure MA (w0 w : World) (A : Nat) (av : List Nat) (V : Nat → Value) (WS : Nat → List Nat) (TP : Nat → Nat) (FF : Nat → List Nat) (mk : Nat → Nat → Bool) : Prop where
  a0 : w0.heap.size ≤ A
  a1 : A < w.heap.size
  aav : A ∉ av
  fr : ∀ o, w.frozen? ⟨A, o, none⟩ = false
  cell : ∀ m, m < 7 → w.cell? ⟨A, m, none⟩ = some (V m)
  ps : ∀ m, m < 7 → PSet w (V m) (WS m) (TP m) (FF m)
  good : ∀ m, m < 7 → Good (WS m) (TP m)
  top : ∀ m, m < 7 → TP m < 18446744073709551616
  bits : ∀ m, m < 7 → ∀ j, hasBit (WS m) j = mk m j
  ff : ∀ m, m < 7 → ∀ b ∈ FF m, w0.heap.size ≤ b ∧ b ∉ av ∧ b ≠ A
  dis : ∀ m m', m < 7 → m' < 7 → m ≠ m' → ∀ b ∈ FF m, b ∉ FF m'

theorem MA.keep {w0 w w' : World} {A : Nat} {av : List Nat} {V : Nat → Value} {WS : Nat → List Nat} {TP : Nat → Nat} {FF : Nat → List Nat} {mk : Nat → Nat → Bool} (h : MA w0 w A av V WS TP FF mk) (hs : w.heap.size ≤ w'.heap.size) (hk : ∀ b, b < w.heap.size → b ∉ av → w'.heap[b]? = w.heap[b]?) : MA w0 w' A av V WS TP FF mk := by
  have hA := hk A h.a1 h.aav
  refine ⟨h.a0, Nat.lt_of_lt_of_le h.a1 hs, h.aav, fun o => (World.frozen?_of_block (w := w) hA).trans (h.fr o), fun m hm => (World.cell?_of_block (w := w) hA).trans (h.cell m hm), fun m hm => (h.ps m hm).keep (fun b hb => hk b ((h.ps m hm).lts b hb) (h.ff m hm b hb).2.1), h.good, h.top, h.bits, h.ff, h.dis⟩

/-- One set of the array turns. -/
theorem MA.step {w0 w w' : World} {A i : Nat} {av : List Nat} {V : Nat → Value} {WS : Nat → List Nat} {TP : Nat → Nat} {FF : Nat → List Nat} {mo : Nat → Bool} {md : Nat → Nat} {bb : Bool} {P : Nat → Bool}
    (h : MA w0 w A av V WS TP FF (fun m j => mo j && (md j == m))) (hm : md i < 7) (hL : Left w w' A (md i) (FF (md i)) P) (hP : ∀ j, P j = ((if j = i then bb else mo j) && (md j == md i))) (h0 : w0.heap.size ≤ w.heap.size) (hav : ∀ b ∈ av, b < w.heap.size) :
    (∃ V WS TP FF, MA w0 w' A av V WS TP FF (fun m j => (if j = i then bb else mo j) && (md j == m))) ∧ w.heap.size ≤ w'.heap.size ∧ (∀ b ∈ av, w'.heap[b]? = w.heap[b]?) ∧ Below w0.heap.size w w' := by
  obtain ⟨v', ws', top', F', hv, hp, hg, hb, hF, T⟩ := hL
  obtain ⟨t, ht, hp', hg'⟩ := hp.bound hg
  have hff := h.ff (md i) hm
  have hkeep : ∀ b, b < w.heap.size → b ≠ A → b ∉ FF (md i) → w'.heap[b]? = w.heap[b]? := T.block
  refine ⟨⟨fun m => if m = md i then v' else V m, fun m => if m = md i then ws' else WS m, fun m => if m = md i then t else TP m, fun m => if m = md i then F' else FF m, ?_⟩, T.size, fun b hb => hkeep b (hav b hb) (fun e => h.aav (e ▸ hb)) (fun e => (hff b e).2.1 hb), T.below h0 h.a0 (fun f hf => (hff f hf).1)⟩
  have hF' : ∀ b ∈ F', w0.heap.size ≤ b ∧ b ∉ av ∧ b ≠ A := fun b hb => by
    rcases hF b hb with h1 | h1
    · exact hff b h1
    · exact ⟨by omega, fun e => by have := hav b e; omega, by have := h.a1; omega⟩
  refine ⟨h.a0, Nat.lt_of_lt_of_le h.a1 T.size, h.aav, fun o => (T.free o).trans (h.fr o), fun m hm' => ?_, fun m hm' => ?_, fun m hm' => ?_, fun m hm' => ?_, fun m hm' j => ?_, fun m hm' b hb => ?_, fun m m' hm1 hm2 hne b hb => ?_⟩
  · show w'.cell? _ = some (if m = md i then v' else V m)
    by_cases e : m = md i
    · rw [if_pos e, e]; exact hv
    · rw [if_neg e]; exact (T.cells m e).trans (h.cell m hm')
  · show PSet w' (if m = md i then v' else V m) (if m = md i then ws' else WS m) (if m = md i then t else TP m) (if m = md i then F' else FF m)
    by_cases e : m = md i
    · rw [if_pos e, if_pos e, if_pos e, if_pos e]; exact hp'
    · rw [if_neg e, if_neg e, if_neg e, if_neg e]
      exact (h.ps m hm').keep (fun b hb => hkeep b ((h.ps m hm').lts b hb) (h.ff m hm' b hb).2.2 (h.dis m (md i) hm' hm e b hb))
  · show Good (if m = md i then ws' else WS m) (if m = md i then t else TP m)
    by_cases e : m = md i
    · rw [if_pos e, if_pos e]; exact hg'
    · rw [if_neg e, if_neg e]; exact h.good m hm'
  · show (if m = md i then t else TP m) < _
    by_cases e : m = md i
    · rw [if_pos e]; exact ht
    · rw [if_neg e]; exact h.top m hm'
  · show hasBit (if m = md i then ws' else WS m) j = _
    by_cases e : m = md i
    · rw [if_pos e, hb j, hP j, e]
    · rw [if_neg e, h.bits m hm' j]
      by_cases ej : j = i
      · subst ej
        have : (md j == m) = false := by simpa using fun x => e x.symm
        simp [this]
      · rw [if_neg ej]
  · have hb' : b ∈ (if m = md i then F' else FF m) := hb
    by_cases e : m = md i
    · rw [if_pos e] at hb'; exact hF' b hb'
    · rw [if_neg e] at hb'; exact h.ff m hm' b hb'
  · have hb' : b ∈ (if m = md i then F' else FF m) := hb
    show b ∉ (if m' = md i then F' else FF m')
    by_cases e : m = md i
    · rw [if_pos e] at hb'
      have e' : m' ≠ md i := fun x => hne (e.trans x.symm)
      rw [if_neg e']
      intro hx
      rcases hF b hb' with h1 | h1
      · exact h.dis (md i) m' hm hm2 (fun x => e' x.symm) b h1 hx
      · have := (h.ps m' hm2).lts b hx; omega
    · rw [if_neg e] at hb'
      by_cases e' : m' = md i
      · rw [if_pos e']
        intro hx
        rcases hF b hx with h1 | h1
        · exact h.dis m (md i) hm1 hm e b hb' h1
        · have := (h.ps m hm1).lts b hb'; omega
      · rw [if_neg e']; exact h.dis m m' hm1 hm2 hne b hb'

/-- The marks: none yet, or an array of them. -/
def MKs (w0 w : World) (G : Nat) (av : List Nat) (any : Bool) (mk : Nat → Nat → Bool) : Prop :=
  (any = false ∧ w.cell? ⟨G, 11, none⟩ = some (.pointer none) ∧ ∀ m j, mk m j = false) ∨ (any = true ∧ ∃ A V WS TP FF, w.cell? ⟨G, 11, none⟩ = some (.pointer (some ⟨A, 0, none⟩)) ∧ MA w0 w A av V WS TP FF mk)

/-- What stays of the grants while marks are set. -/
structure GP (w0 w : World) (G gl k cap : Nat) (md : Nat → Nat) : Prop where
  bel : Below w0.heap.size w0 w
  hG0 : w0.heap.size ≤ G
  hG1 : G < w.heap.size
  hgl : gl < w.heap.size
  ne : gl ≠ G
  c0 : w.cell? ⟨G, 0, none⟩ = some (.slice (some ⟨gl, 0, none⟩) k cap)
  c1 : w.cell? ⟨G, 1, none⟩ = some (.int .i64 0)
  cells : ∀ j, j < k → w.cell? ⟨gl, j * 3, none⟩ = some (.int .u64 (j : Int)) ∧ w.cell? ⟨gl, j * 3 + 1, none⟩ = some (.int .u8 ((md j : Nat) : Int))
  free : ∀ o, w.frozen? ⟨G, o, none⟩ = false

theorem GP.keep {w0 w w' : World} {G gl k cap : Nat} {md : Nat → Nat} (h : GP w0 w G gl k cap md) (hb : Below w0.heap.size w w') (hG : ∀ o, o ≠ 11 → w'.cell? ⟨G, o, none⟩ = w.cell? ⟨G, o, none⟩) (hf : ∀ o, w'.frozen? ⟨G, o, none⟩ = w.frozen? ⟨G, o, none⟩) (hl : w'.heap[gl]? = w.heap[gl]?) : GP w0 w' G gl k cap md :=
  ⟨h.bel.trans hb, h.hG0, Nat.lt_of_lt_of_le h.hG1 hb.size, Nat.lt_of_lt_of_le h.hgl hb.size, h.ne, (hG 0 (by omega)).trans h.c0, (hG 1 (by omega)).trans h.c1, fun j hj => ⟨(World.cell?_of_block (w := w) hl).trans (h.cells j hj).1, (World.cell?_of_block (w := w) hl).trans (h.cells j hj).2⟩, fun o => (hf o).trans (h.free o)⟩

end Go.Proofs.Ybulkbgqi
