import Derived.Test.YbulkbgqiGrow
namespace Go.Proofs.Ybulkbgqi
open Go.RowKit
set_option linter.unusedVariables false

theorem Turn.alloc {w w' : World} {A m : Nat} {F : List Nat} (h : Turn w w' A m F) (o : Obj) (hA : A < w.heap.size) : Turn w (w'.alloc o) A m F := by
  have hs := h.size
  have hb : (w'.alloc o).heap[A]? = w'.heap[A]? := Below.heap_alloc _ _ _ (by omega)
  refine ⟨h.os, h.tape, h.output, by simp; omega, fun k hk hkA hkF => ?_, fun o' ho => ?_, fun o' => ?_⟩
  · rw [Below.heap_alloc _ _ _ (by omega)]; exact h.block k hk hkA hkF
  · rw [World.cell?_of_block (w := w') hb]; exact h.cells o' ho
  · rw [World.frozen?_of_block (w := w') hb]; exact h.free o'

/-- Behind an append on a row of the set, or on nil. -/
theorem Turn.grown {w w1 w2 : World} {A m : Nat} {F : List Nat} (h : Turn w w1 A m F) {row : Option Nat} (hg : w1.grownBy w2 row) (hA : A < w.heap.size) (hr : ∀ g, row = some g → g ≠ A ∧ (g ∈ F ∨ w.heap.size ≤ g)) : Turn w w2 A m F := by
  have hs := h.size
  have hb : w2.heap[A]? = w1.heap[A]? := hg.block A (by omega) (fun e => (hr A e.symm).1 rfl)
  refine ⟨hg.os.trans h.os, hg.tape.trans h.tape, hg.output.trans h.output, Nat.le_trans h.size hg.size, fun k hk hkA hkF => ?_, fun o' ho => ?_, fun o' => ?_⟩
  · rw [hg.block k (by omega) (fun e => ?_)]
    · exact h.block k hk hkA hkF
    · rcases (hr k e.symm).2 with h1 | h1
      · exact hkF h1
      · omega
  · rw [World.cell?_of_block (w := w1) hb]; exact h.cells o' ho
  · rw [World.frozen?_of_block (w := w1) hb]; exact h.free o'

/-- A store into the set's own cell. -/
theorem Turn.setA {w w' : World} {A m : Nat} {F : List Nat} (h : Turn w w' A m F) (u : Value) : Turn w (w'.setCell ⟨A, m, none⟩ u) A m F := by
  refine ⟨h.os, h.tape, h.output, by simpa [World.setCell] using h.size, fun k hk hkA hkF => ?_, fun o' ho => ?_, fun o' => ?_⟩
  · rw [Below.heap_setCell _ _ _ _ hkA]; exact h.block k hk hkA hkF
  · rw [World.cell?_setCell_other w' ⟨A, m, none⟩ ⟨A, o', none⟩ u (fun e => ho (congrArg Addr.off e).symm)]; exact h.cells o' ho
  · rw [World.frozen?_setCell]; exact h.free o'

/-- A set while it grows. -/
structure S0 (w wr : World) (A m : Nat) (F : List Nat) (ws ws1 : List Nat) (top L nl cL g0 c0 g1 c1 : Nat) : Prop where
  cell : wr.cell? ⟨A, m, none⟩ = some (.slice (some ⟨L, 0, none⟩) nl cL)
  lv : LvS wr L nl cL g0 c0 g1 c1 ws1 top
  pos : 1 ≤ ws1.length
  le : ws1.length ≤ 17
  bits : ∀ j, hasBit ws1 j = hasBit ws j
  one : nl = 1 → ∀ k, 1 ≤ k → ws1.getD k 0 = 0
  two : nl = 2 → 2 ≤ ws1.length ∧ Good ws1 top
  fr : ∀ b ∈ foot nl L g0 g1, b ∈ F ∨ w.heap.size ≤ b
  ne : A ∉ foot nl L g0 g1
  turn : Turn w wr A m F
  free : wr.frozen? ⟨A, m, none⟩ = false

theorem S0.start {w : World} {A m L nl cL g0 c0 g1 c1 top : Nat} {ws : List Nat} (hv : w.cell? ⟨A, m, none⟩ = some (.slice (some ⟨L, 0, none⟩) nl cL)) (hf : w.frozen? ⟨A, m, none⟩ = false) (hl : LvS w L nl cL g0 c0 g1 c1 ws top) (h1 : 1 ≤ ws.length) (h17 : ws.length ≤ 17)
    (hiff : nl = 1 ↔ ws.length = 1) (hG : Good ws top) (hA : A ∉ foot nl L g0 g1) : S0 w w A m (foot nl L g0 g1) ws ws top L nl cL g0 c0 g1 c1 := by
  refine ⟨hv, hl, h1, h17, fun _ => rfl, fun e k hk => ?_, fun e => ⟨?_, hG⟩, fun b hb => .inl hb, hA, Turn.refl _ _ _ _, hf⟩
  · rw [List.getD_eq_getElem?_getD, List.getElem?_eq_none (by have := hiff.1 e; omega)]; rfl
  · rcases Nat.lt_or_ge ws.length 2 with h | h
    · have := hiff.2 (by omega); omega
    · exact h

theorem Own.one {w : World} (e : TypeId) (x : Value) : Own (w.alloc (.cells #[x] e)) e w.heap.size 1 1 [x] :=
  ⟨rfl, .inr ⟨w.heap.size, 1, #[x], rfl, Nat.zero_le _, heap_alloc_new w _, by omega, by unfold maxLen; omega, rfl, rfl⟩⟩

/-- Out of nothing: the first level. -/
theorem S0.nil {w w1 : World} {A m L cL top : Nat} {F : List Nat} (hA : A < w.heap.size) (hv : w.cell? ⟨A, m, none⟩ = some (.slice none 0 0)) (hf : w.frozen? ⟨A, m, none⟩ = false) (ht : top < 18446744073709551616)
    (hown : Own w1 67 L 1 cL [.slice (some ⟨w.heap.size, 0, none⟩) 1 1])
    (hg : ((w.alloc (.cells #[.int .u64 0] 33)).alloc (.cells #[.slice (some ⟨w.heap.size, 0, none⟩) 1 1] 67)).grownBy w1 none) (hL : L = w.heap.size + 2) :
    (w1.cell? ⟨A, m, none⟩ = some (.slice none 0 0) ∧ w1.frozen? ⟨A, m, none⟩ = false) ∧ S0 w (w1.setCell ⟨A, m, none⟩ (.slice (some ⟨L, 0, none⟩) 1 cL)) A m F [] [0] top L 1 cL w.heap.size 1 0 0 := by
  have T0 : Turn w ((w.alloc (.cells #[.int .u64 0] 33)).alloc (.cells #[.slice (some ⟨w.heap.size, 0, none⟩) 1 1] 67)) A m F := ((Turn.refl w A m F).alloc _ hA).alloc _ hA
  have T1 := T0.grown hg hA (fun g e => by cases e)
  have hbA : w1.heap[A]? = w.heap[A]? := by
    rw [hg.block A (by simp; omega) (fun e => by cases e), Below.heap_alloc _ _ _ (by simp; omega), Below.heap_alloc _ _ _ hA]
  have hv1 : w1.cell? ⟨A, m, none⟩ = some (.slice none 0 0) := (World.cell?_of_block (w := w) hbA).trans hv
  have hf1 : w1.frozen? ⟨A, m, none⟩ = false := (World.frozen?_of_block (w := w) hbA).trans hf
  have h0 : Own w1 33 w.heap.size 1 1 [.int .u64 0] := by
    refine Own.keep (Own.one (w := w) 33 (.int .u64 0)) ?_
    rw [hg.block _ (by simp; omega) (fun e => by cases e), Below.heap_alloc _ _ _ (by simp)]
  refine ⟨⟨hv1, hf1⟩, ?_⟩
  refine ⟨World.cell?_setCell_same w1 _ _ hv1, ⟨.inl rfl, ?_, ?_, fun e => by omega, fun x hx => by simp at hx; omega, ht, by omega, fun e => by omega⟩, by simp, by simp, fun j => ?_, fun _ k hk => ?_, fun e => by omega, fun b hb => ?_, ?_, T1.setA _, ?_⟩
  · exact hown.other _ (by omega)
  · exact h0.other _ (by omega)
  · unfold hasBit
    have : ([0] : List Nat).getD (j / 64) 0 = 0 := by
      rcases Nat.eq_zero_or_pos (j / 64) with h | h
      · rw [h]; rfl
      · rw [List.getD_eq_getElem?_getD, List.getElem?_eq_none (by simp; omega)]; rfl
    rw [this]
    rfl
  · rw [List.getD_eq_getElem?_getD, List.getElem?_eq_none (by simp; omega)]; rfl
  · simp [foot] at hb; omega
  · simp [foot]; omega
  · rw [World.frozen?_setCell]; exact hf1

/-- The words below are made more. -/
theorem S0.ext {w wr w1 : World} {A m L nl cL g0 c0 g1 c1 top q g' c' : Nat} {F ws ws1 : List Nat} (h : S0 w wr A m F ws ws1 top L nl cL g0 c0 g1 c1) (hA : A < w.heap.size) (hge : ws1.length ≤ q) (hq : q ≤ 16)
    (hown : Own w1 33 g' (ws1.length + (q + 1 - ws1.length)) c' (ws1.map word ++ List.replicate (q + 1 - ws1.length) (.int .u64 0))) (hg : wr.drew.grownBy w1 (some g0)) (hloc : g' = g0 ∨ g' = wr.drew.heap.size) :
    (w1.cell? ⟨A, m, none⟩ = some (.slice (some ⟨L, 0, none⟩) nl cL) ∧ w1.cell? ⟨L, 0, none⟩ = some (.slice (some ⟨g0, 0, none⟩) ws1.length c0) ∧ w1.frozen? ⟨L, 0, none⟩ = false) ∧
    S0 w (w1.setCell ⟨L, 0, none⟩ (.slice (some ⟨g', 0, none⟩) (q + 1) c')) A m F ws (ws1 ++ List.replicate (q + 1 - ws1.length) 0) top L nl cL g' c' g1 c1 := by
  obtain ⟨fL, f0, f1⟩ := foot_mem nl L g0 g1 h.lv.nlr
  have hA0 : g0 ≠ A := fun e => h.ne (e ▸ f0)
  have hAL : L ≠ A := fun e => h.ne (e ▸ fL)
  have hsz := h.turn.size
  have hLlt := Own.lt h.lv.own
  have hwr : wr.drew.heap.size = wr.heap.size := rfl
  have hL' : L ≠ g' := by
    rcases hloc with e | e
    · rw [e]; exact h.lv.ne0
    · rw [e, hwr]; omega
  have hA' : g' ≠ A := by
    rcases hloc with e | e
    · rw [e]; exact hA0
    · rw [e, hwr]; omega
  have T1 := h.turn.drew.grown hg hA (fun g e => by cases e; exact ⟨hA0, h.fr g0 f0⟩)
  have hbA : w1.heap[A]? = wr.heap[A]? := hg.block A (by rw [hwr]; omega) (fun e => hA0 (by injection e with e; exact e.symm))
  have hbL : w1.heap[L]? = wr.heap[L]? := hg.block L (by rw [hwr]; exact hLlt) (fun e => h.lv.ne0 (by injection e))
  have hl0 : w1.cell? ⟨L, 0, none⟩ = some (.slice (some ⟨g0, 0, none⟩) ws1.length c0) := (World.cell?_of_block (w := wr) hbL).trans h.lv.lev0
  have hv1 : w1.cell? ⟨A, m, none⟩ = some (.slice (some ⟨L, 0, none⟩) nl cL) := (World.cell?_of_block (w := wr) hbA).trans h.cell
  have hlen : ws1.length + (q + 1 - ws1.length) = q + 1 := by omega
  have hll : (ws1 ++ List.replicate (q + 1 - ws1.length) 0).length = q + 1 := by simp; omega
  refine ⟨⟨hv1, hl0, (h.lv.own.keep hbL).free 0⟩, ?_⟩
  refine ⟨?_, ⟨h.lv.nlr, ?_, ?_, fun e => ?_, fun x hx => ?_, h.lv.tlt, hL', fun e => ⟨(h.lv.ne1 e).1, ?_⟩⟩, by omega, by omega, fun j => ?_, fun e k hk => ?_, fun e => ⟨by have := (h.two e).1; omega, ?_⟩, fun b hb => ?_, ?_, T1.store _ (h.fr L fL) hAL, ?_⟩
  · rw [World.cell?_of_block (w := w1) (Below.heap_setCell _ _ _ _ (fun e => hAL e.symm))]; exact hv1
  · have := (h.lv.own.keep hbL).setCell 0 (.slice (some ⟨g', 0, none⟩) (q + 1) c') (by rcases h.lv.nlr with e | e <;> omega)
    rw [hll]
    have e2 : (lvls nl g0 ws1.length c0 g1 c1).set 0 (.slice (some ⟨g', 0, none⟩) (q + 1) c') = lvls nl g' (q + 1) c' g1 c1 := by
      unfold lvls; split <;> rfl
    rw [e2] at this
    exact this
  · rw [hll]
    rw [hlen] at hown
    have e2 : (ws1 ++ List.replicate (q + 1 - ws1.length) 0).map word = ws1.map word ++ List.replicate (q + 1 - ws1.length) (.int .u64 0) := by
      simp [word]
    rw [e2]
    exact hown.other _ (fun e => hL' e.symm)
  · have hg1 := h.lv.ow1 e
    exact (hg1.keep (hg.block g1 (by rw [hwr]; exact Own.lt hg1) (fun x => (h.lv.ne1 e).2 (by injection x with x; exact x.symm)))).other _ (fun x => (h.lv.ne1 e).1 x.symm)
  · rcases List.mem_append.1 hx with hx | hx
    · exact h.lv.lt x hx
    · rw [List.eq_of_mem_replicate hx]; omega
  · rcases hloc with x | x
    · rw [x]; exact (h.lv.ne1 e).2
    · have := Own.lt (h.lv.ow1 e); rw [x, hwr]; omega
  · rw [has_zeros]; exact h.bits j
  · rw [List.getD_eq_getElem?_getD]
    have hz := h.one e k hk
    rw [List.getD_eq_getElem?_getD] at hz
    rcases Nat.lt_or_ge k ws1.length with hlt | hlt
    · rw [List.getElem?_append_left hlt]; exact hz
    · rw [List.getElem?_append_right hlt, List.getElem?_replicate]; split <;> rfl
  · intro _ k
    have hG := (h.two e).2 (h.two e).1 k
    rw [hG]
    congr 2
    simp only [List.getD_eq_getElem?_getD]
    rcases Nat.lt_or_ge k ws1.length with hlt | hlt
    · rw [List.getElem?_append_left hlt]
    · rw [List.getElem?_append_right hlt, List.getElem?_replicate, List.getElem?_eq_none hlt]; split <;> rfl
  · have hb' : b = g' ∨ b ∈ foot nl L g0 g1 := by
      rcases h.lv.nlr with e | e <;> subst e <;> simp [foot] at hb ⊢ <;> omega
    rcases hb' with hb' | hb'
    · rcases hloc with x | x
      · rw [hb', x]; exact h.fr g0 f0
      · right; rw [hb', x, hwr]; exact hsz
    · exact h.fr b hb'
  · intro hb
    have hb' : A = g' ∨ A ∈ foot nl L g0 g1 := by
      rcases h.lv.nlr with e | e <;> subst e <;> simp [foot] at hb ⊢ <;> omega
    rcases hb' with hb' | hb'
    · exact hA' hb'.symm
    · exact h.ne hb'
  · rw [World.frozen?_setCell, World.frozen?_of_block (w := wr) hbA]; exact h.free

theorem top_good (ws : List Nat) (hz : ∀ k, 1 ≤ k → ws.getD k 0 = 0) (t : Nat) (ht : t = if ws.getD 0 0 = 0 then 0 else 1) : Good ws t := by
  intro _ k
  subst ht
  rcases Nat.eq_zero_or_pos k with rfl | hk
  · by_cases e : ws.getD 0 0 = 0
    · rw [if_pos e, e]; rfl
    · have : (ws.getD 0 0 == 0) = false := by simpa using e
      rw [if_neg e, this]; rfl
  · rw [hz k hk]
    split
    · simp
    · have : ¬ k = 0 := by omega
      rw [show (1 : Nat) = 2 ^ 0 from rfl, Nat.testBit_two_pow]
      simp; omega

/-- The level above is made. -/
theorem S0.up {w wr w1 : World} {A m L cL g0 c0 g1 c1 top t L' cL' : Nat} {F ws ws1 : List Nat} (h : S0 w wr A m F ws ws1 top L 1 cL g0 c0 g1 c1) (hA : A < w.heap.size) (h2 : 2 ≤ ws1.length) (ht : t = if ws1.getD 0 0 = 0 then 0 else 1)
    (hown : Own w1 67 L' 2 cL' [.slice (some ⟨g0, 0, none⟩) ws1.length c0, .slice (some ⟨wr.heap.size, 0, none⟩) 1 1])
    (hg : ((wr.alloc (.cells #[.int .u64 (t : Int)] 33)).alloc (.cells #[.slice (some ⟨wr.heap.size, 0, none⟩) 1 1] 67)).grownBy w1 (some L)) (hloc : L' = L ∨ L' = wr.heap.size + 2) :
    (w1.cell? ⟨A, m, none⟩ = some (.slice (some ⟨L, 0, none⟩) 1 cL) ∧ w1.frozen? ⟨A, m, none⟩ = false ∧ L' ≠ A) ∧
    S0 w (w1.setCell ⟨A, m, none⟩ (.slice (some ⟨L', 0, none⟩) 2 cL')) A m F ws ws1 t L' 2 cL' g0 c0 wr.heap.size 1 := by
  obtain ⟨fL, f0, f1⟩ := foot_mem 1 L g0 g1 h.lv.nlr
  have hA0 : g0 ≠ A := fun e => h.ne (e ▸ f0)
  have hAL : L ≠ A := fun e => h.ne (e ▸ fL)
  have hsz := h.turn.size
  have hLlt := Own.lt h.lv.own
  have h0lt := Own.lt h.lv.ow0
  have hA' : L' ≠ A := by
    rcases hloc with e | e
    · rw [e]; exact hAL
    · omega
  have h0' : L' ≠ g0 := by
    rcases hloc with e | e
    · rw [e]; exact h.lv.ne0
    · omega
  have hT' : L' ≠ wr.heap.size := by
    rcases hloc with e | e <;> omega
  have T0 : Turn w ((wr.alloc (.cells #[.int .u64 (t : Int)] 33)).alloc (.cells #[.slice (some ⟨wr.heap.size, 0, none⟩) 1 1] 67)) A m F := (h.turn.alloc _ hA).alloc _ hA
  have T1 := T0.grown hg hA (fun g e => by cases e; exact ⟨hAL, h.fr L fL⟩)
  have old : ∀ k, k < wr.heap.size → k ≠ L → w1.heap[k]? = wr.heap[k]? := fun k hk hne => by
    rw [hg.block k (by simp; omega) (fun e => hne (by injection e)), Below.heap_alloc _ _ _ (by simp; omega), Below.heap_alloc _ _ _ hk]
  have hbA := old A (by omega) (fun e => hAL e.symm)
  have hv1 : w1.cell? ⟨A, m, none⟩ = some (.slice (some ⟨L, 0, none⟩) 1 cL) := (World.cell?_of_block (w := wr) hbA).trans h.cell
  have hf1 : w1.frozen? ⟨A, m, none⟩ = false := (World.frozen?_of_block (w := wr) hbA).trans h.free
  have hone : Own w1 33 wr.heap.size 1 1 [word t] := by
    refine Own.keep (Own.one (w := wr) 33 (.int .u64 (t : Int))) ?_
    rw [hg.block _ (by simp; omega) (fun e => by injection e with e; omega), Below.heap_alloc _ _ _ (by simp)]
  refine ⟨⟨hv1, hf1, hA'⟩, ?_⟩
  refine ⟨World.cell?_setCell_same w1 _ _ hv1, ⟨.inr rfl, hown.other _ hA', ?_, fun _ => hone.other _ (by omega), h.lv.lt, ?_, h0', fun _ => ⟨hT', by omega⟩⟩, h.pos, h.le, h.bits, fun e => by omega, fun _ => ⟨h2, top_good ws1 (h.one rfl) t ht⟩, fun b hb => ?_, ?_, T1.setA _, ?_⟩
  · exact (h.lv.ow0.keep (old g0 h0lt (fun e => h.lv.ne0 e.symm))).other _ hA0
  · rw [ht]; split <;> omega
  · simp [foot] at hb
    rcases hb with hb | hb | hb
    · rcases hloc with e | e
      · rw [hb, e]; exact h.fr L fL
      · right; omega
    · rw [hb]; exact h.fr g0 f0
    · right; omega
  · simp [foot]
    exact ⟨fun e => hA' e.symm, fun e => hA0 e.symm, by omega⟩
  · rw [World.frozen?_setCell]; exact hf1

end Go.Proofs.Ybulkbgqi
