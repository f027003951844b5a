import Derived.Test.YbulkbgqiMarks
namespace Go.Proofs.Ybulkbgqi
open Go.RowKit
set_option linter.unusedVariables false

theorem MA.more {w0 w : World} {A T : Nat} {av : List Nat} {V : Nat → Value} {WS : Nat → List Nat} {TP : Nat → Nat} {FF : Nat → List Nat} {mk : Nat → Nat → Bool} (h : MA w0 w A av V WS TP FF mk) (hT : w.heap.size ≤ T) : MA w0 w A (T :: av) V WS TP FF mk := by
  refine ⟨h.a0, h.a1, ?_, h.fr, h.cell, h.ps, h.good, h.top, h.bits, fun m hm b hb => ⟨(h.ff m hm b hb).1, ?_, (h.ff m hm b hb).2.2⟩, h.dis⟩
  · intro e
    rcases List.mem_cons.1 e with e | e
    · have := h.a1; omega
    · exact h.aav e
  · intro e
    rcases List.mem_cons.1 e with e | e
    · have := (h.ps m hm).lts b hb; omega
    · exact (h.ff m hm b hb).2.1 e

theorem MA.less {w0 w : World} {A T : Nat} {av : List Nat} {V : Nat → Value} {WS : Nat → List Nat} {TP : Nat → Nat} {FF : Nat → List Nat} {mk : Nat → Nat → Bool} (h : MA w0 w A (T :: av) V WS TP FF mk) : MA w0 w A av V WS TP FF mk :=
  ⟨h.a0, h.a1, fun e => h.aav (List.mem_cons_of_mem _ e), h.fr, h.cell, h.ps, h.good, h.top, h.bits, fun m hm b hb => ⟨(h.ff m hm b hb).1, fun e => (h.ff m hm b hb).2.1 (List.mem_cons_of_mem _ e), (h.ff m hm b hb).2.2⟩, h.dis⟩

/-- A fresh array. -/
theorem MA.fresh {w0 w : World} {A : Nat} {av : List Nat} {mk : Nat → Nat → Bool} (a0 : w0.heap.size ≤ A) (a1 : A < w.heap.size) (aav : A ∉ av) (fr : ∀ o, w.frozen? ⟨A, o, none⟩ = false) (cell : ∀ m, m < 7 → w.cell? ⟨A, m, none⟩ = some (.slice none 0 0)) (hmk : ∀ m j, mk m j = false) :
    MA w0 w A av (fun _ => .slice none 0 0) (fun _ => []) (fun _ => 0) (fun _ => []) mk :=
  ⟨a0, a1, aav, fr, cell, fun _ _ => .inl ⟨rfl, rfl, rfl⟩, fun _ _ => fun h => absurd h (by decide), fun _ _ => by omega, fun m _ j => by rw [hmk]; exact has_beyond [] j (Nat.zero_le _), fun _ _ b hb => absurd hb (List.not_mem_nil), fun _ _ _ _ _ b hb => absurd hb (List.not_mem_nil)⟩

theorem seven (m : Nat) (hm : m < 7) (x : Value) : (#[x, x, x, x, x, x, x] : Array Value)[m]? = some x := by
  match m, hm with
  | 0, _ => rfl
  | 1, _ => rfl
  | 2, _ => rfl
  | 3, _ => rfl
  | 4, _ => rfl
  | 5, _ => rfl
  | 6, _ => rfl
  | m + 7, h => omega

def markPost (w0 w : World) (G gl k cap i : Nat) (md : Nat → Nat) (av : List Nat) (any : Bool) (mo : Nat → Bool) (bb : Bool) (w' : World) : Prop :=
  GP w0 w' G gl k cap md ∧ MKs w0 w' G av any (fun m j => (if j = i then bb else mo j) && (md j == m)) ∧ (∀ b ∈ av, b ≠ G → w'.heap[b]? = w.heap[b]?) ∧ w.heap.size ≤ w'.heap.size

theorem markPost_of {w0 w w1 w' : World} {G gl k cap i A : Nat} {md : Nat → Nat} {av : List Nat} {mo : Nat → Bool} {bb : Bool} {V : Nat → Value} {WS : Nat → List Nat} {TP : Nat → Nat} {FF : Nat → List Nat} {P : Nat → Bool} (hG : G ∈ av) (hgl : gl ∈ av)
    (h : GP w0 w1 G gl k cap md) (hA : w1.cell? ⟨G, 11, none⟩ = some (.pointer (some ⟨A, 0, none⟩))) (hM : MA w0 w1 A av V WS TP FF (fun m j => mo j && (md j == m))) (hm : md i < 7) (hL : Left w1 w' A (md i) (FF (md i)) P) (hP : ∀ j, P j = ((if j = i then bb else mo j) && (md j == md i)))
    (hav : ∀ b ∈ av, b < w1.heap.size) (hk : ∀ b ∈ av, b ≠ G → w1.heap[b]? = w.heap[b]?) (hs : w.heap.size ≤ w1.heap.size) : markPost w0 w G gl k cap i md av true mo bb w' := by
  obtain ⟨⟨V', WS', TP', FF', hM'⟩, hs', hk', hb'⟩ := hM.step hm hL hP h.bel.size hav
  have eG := hk' G hG
  have cG : ∀ o, w'.cell? ⟨G, o, none⟩ = w1.cell? ⟨G, o, none⟩ := fun o => World.cell?_of_block (w := w1) eG
  exact ⟨h.keep hb' (fun o _ => cG o) (fun o => World.frozen?_of_block (w := w1) eG) (hk' gl hgl), .inr ⟨rfl, A, V', WS', TP', FF', (cG 11).trans hA, hM'⟩, fun b hb hne => (hk' b hb).trans (hk b hb hne), Nat.le_trans hs hs'⟩

set_option maxHeartbeats 1000000 in
theorem mark_any (w0 w : World) (G gl k cap i : Nat) (md : Nat → Nat) (av : List Nat) (any : Bool) (mo : Nat → Bool) (bb : Bool) (hi : i < k) (hk : k ≤ 1025) (hmd : ∀ j, 1 ≤ md j ∧ md j ≤ 6) (hG : G ∈ av) (hgl : gl ∈ av) (hav : ∀ b ∈ av, b < w.heap.size) (h : GP w0 w G gl k cap md) (hK : MKs w0 w G av any (fun m j => mo j && (md j == m))) :
    Calls Yba.prog 7 #[.pointer (some ⟨G, 0, none⟩), .int .i64 (i : Int), .bool bb] w fun e w' => e = .returned (.tuple #[]) ∧ markPost w0 w G gl k cap i md av (any || bb) mo bb w' := by
  have c0 := h.c0
  have cm := (h.cells i hi).2
  have hmi := hmd i
  obtain ⟨m, hm⟩ : ∃ m, m = md i := ⟨_, rfl⟩
  rw [← hm] at cm hmi
  have f11 := h.free 11
  have hii : (i : Int) < (k : Int) := by omega
  have H := hideIt h
  have HM := hideIt hm
  have HAV := hideIt hav
  have hG1 := h.hG1
  clear h hmd hav
  cases bb with
  | true =>
    have hP : ∀ (WS : List Nat) (_ : ∀ j, hasBit WS j = (mo j && (md j == md i))), ∀ j, (hasBit WS j || j == i) = ((if j = i then true else mo j) && (md j == md i)) := fun WS hb j => by
      rw [hb j]
      by_cases e : j = i
      · subst e; simp
      · have : (j == i) = false := by simpa using e
        rw [if_neg e, this, Bool.or_false]
    have HP := hideIt hP
    clear hP
    rcases hK with ⟨rfl, h11, hz⟩ | ⟨rfl, A, V, WS, TP, FF, h11, hM⟩
    · have HZ := hideIt hz
      clear hz hm
      obtain ⟨W1, hW1⟩ : ∃ W1, W1 = (w.setCell ⟨G, 11, none⟩ (.pointer (some ⟨w.heap.size, 0, none⟩))).alloc (.cells #[.slice none 0 0, .slice none 0 0, .slice none 0 0, .slice none 0 0, .slice none 0 0, .slice none 0 0, .slice none 0 0] 65) := ⟨_, rfl⟩
      have hsz : (w.setCell ⟨G, 11, none⟩ (.pointer (some ⟨w.heap.size, 0, none⟩))).heap.size = w.heap.size := by simp [World.setCell]
      have hsz1 : W1.heap.size = w.heap.size + 1 := by rw [hW1, World.size_alloc, hsz]
      have T1 : Turn w W1 G 11 [] := by rw [hW1]; exact ((Turn.refl w G 11 []).setA _).alloc _ hG1
      have hbA : W1.heap[w.heap.size]? = some (.cells #[.slice none 0 0, .slice none 0 0, .slice none 0 0, .slice none 0 0, .slice none 0 0, .slice none 0 0, .slice none 0 0] 65) := by
        have := heap_alloc_new (w.setCell ⟨G, 11, none⟩ (.pointer (some ⟨w.heap.size, 0, none⟩))) (.cells #[.slice none 0 0, .slice none 0 0, .slice none 0 0, .slice none 0 0, .slice none 0 0, .slice none 0 0, .slice none 0 0] 65)
        rw [hsz, ← hW1] at this
        exact this
      have k11 : W1.cell? ⟨G, 11, none⟩ = some (.pointer (some ⟨w.heap.size, 0, none⟩)) := by
        rw [hW1, World.cell?_of_block (Below.heap_alloc _ _ _ (by rw [hsz]; exact hG1))]
        exact World.cell?_setCell_same w _ _ h11
      have hGP : GP w0 W1 G gl k cap md := H.out.keep (T1.below H.out.bel.size H.out.hG0 (fun _ e => by cases e)) (fun o ho => T1.cells o ho) T1.free (T1.block gl H.out.hgl H.out.ne (fun e => by cases e))
      have hM : MA w0 W1 w.heap.size av (fun _ => .slice none 0 0) (fun _ => []) (fun _ => 0) (fun _ => []) (fun m j => mo j && (md j == m)) :=
        MA.fresh H.out.bel.size (by omega) (fun e => by have := HAV.out _ e; omega) (fun o => by simp [World.frozen?, hbA]) (fun m' hm' => by have := seven m' hm' (.slice none 0 0); simp [World.cell?, hbA]; simpa using this) HZ.out
      have hadd := add_any w.heap.size (md i) i (.slice none 0 0) [] 0 [] W1 (by omega) hM.a1 (hM.cell _ (by have := HM.out; omega)) (hM.fr _) (hM.ps (md i) (by have := HM.out; omega)) (by omega) (hM.good (md i) (by have := HM.out; omega)) (fun e => by cases e)
      rw [← HM.out] at hadd
      have HADD := hideIt hadd
      have HMA := hideIt hM
      have HGP := hideIt hGP
      have HAV1 : Hid (∀ b ∈ av, b < W1.heap.size) := hideIt fun b hb => by have := HAV.out b hb; omega
      have HK1 : Hid (∀ b ∈ av, b ≠ G → W1.heap[b]? = w.heap[b]?) := hideIt fun b hb hne => T1.block b (HAV.out b hb) hne (fun e => by cases e)
      have HS1 : Hid (w.heap.size ≤ W1.heap.size) := hideIt (by omega)
      clear hM hadd hGP hsz hsz1 T1 hbA
      go_enter Yba.func7, Yba.ntmps7
      go_wp2_with fail
      rw [← hW1]
      refine HADD.out.mono ?_
      rintro e w' ⟨rfl, hL⟩
      clear hW1
      go_wp2
      go_end0
      rw [HM.out] at hL
      exact ⟨rfl, markPost_of hG hgl HGP.out k11 HMA.out (by have := HM.out; omega) hL (HP.out _ (HMA.out.bits (md i) (by have := HM.out; omega))) HAV1.out HK1.out HS1.out⟩
    · have hx := hM.ps (md i) (by have := HM.out; omega)
      have hadd := add_any A (md i) i (V (md i)) (WS (md i)) (TP (md i)) (FF (md i)) w (by omega) hM.a1 (hM.cell _ (by have := HM.out; omega)) (hM.fr _) hx (hM.top _ (by have := HM.out; omega)) (hM.good _ (by have := HM.out; omega)) (fun e => (hM.ff _ (by have := HM.out; omega) _ e).2.2 rfl)
      rw [← HM.out] at hadd
      have HADD := hideIt hadd
      have HMA := hideIt hM
      clear hM hx hadd hm
      go_enter Yba.func7, Yba.ntmps7
      go_wp2_with fail
      refine HADD.out.mono ?_
      rintro e w' ⟨rfl, hL⟩
      go_wp2
      go_end0
      rw [HM.out] at hL
      exact ⟨rfl, markPost_of hG hgl H.out h11 HMA.out (by have := HM.out; omega) hL (HP.out _ (HMA.out.bits (md i) (by have := HM.out; omega))) HAV.out (fun _ _ _ => rfl) (Nat.le_refl _)⟩
  | false =>
    rcases hK with ⟨rfl, h11, hz⟩ | ⟨rfl, A, V, WS, TP, FF, h11, hM⟩
    · have HZ := hideIt hz
      clear hz hm
      go_enter Yba.func7, Yba.ntmps7
      go_wp2
      go_end0
      refine ⟨rfl, H.out, .inl ⟨rfl, h11, fun m j => ?_⟩, fun _ _ _ => rfl, Nat.le_refl _⟩
      show ((if j = i then false else mo j) && (md j == m)) = false
      by_cases e : j = i
      · rw [if_pos e]; rfl
      · rw [if_neg e]; exact HZ.out m j
    · have hx := hM.ps (md i) (by have := HM.out; omega)
      have hadd := rem_any A (md i) i (V (md i)) (WS (md i)) (TP (md i)) (FF (md i)) w (by omega) (hM.cell _ (by have := HM.out; omega)) hx (hM.good _ (by have := HM.out; omega)) (fun e => (hM.ff _ (by have := HM.out; omega) _ e).2.2 rfl)
      rw [← HM.out] at hadd
      have hP : ∀ j, (hasBit (WS (md i)) j && !(j == i)) = ((if j = i then false else mo j) && (md j == md i)) := fun j => by
        rw [hM.bits (md i) (by have := HM.out; omega) j]
        by_cases e : j = i
        · subst e; simp
        · have : (j == i) = false := by simpa using e
          rw [if_neg e, this, Bool.not_false, Bool.and_true]
      have HP := hideIt hP
      have HADD := hideIt hadd
      have HMA := hideIt hM
      clear hM hx hadd hm hP
      go_enter Yba.func7, Yba.ntmps7
      go_wp2_with fail
      refine HADD.out.mono ?_
      rintro e w' ⟨rfl, hL⟩
      go_wp2
      go_end0
      rw [HM.out] at hL
      exact ⟨rfl, markPost_of hG hgl H.out h11 HMA.out (by have := HM.out; omega) hL HP.out HAV.out (fun _ _ _ => rfl) (Nat.le_refl _)⟩

end Go.Proofs.Ybulkbgqi
