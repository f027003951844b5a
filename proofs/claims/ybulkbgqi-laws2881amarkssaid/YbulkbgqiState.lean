import Derived.Test.YbulkbgqiMarked
namespace Go.Proofs.Ybulkbgqi
open Go.RowKit
set_option linter.unusedVariables false

theorem info4 : (Yba.prog.info? 4).map (fun i => (i.zero, i.size, i.bytes)) = some (some (.bool false), 1, 1) := by kernel_rfl

theorem make_model (k : Nat) (hk : k ≤ 1025) (w : World) : (Instr.makeSlice 37 (.int .i64 (k : Int)) (.int .i64 (k : Int))).run Yba.prog w = .ok (.slice (some ⟨w.heap.size, 0, none⟩) k k) (w.alloc (.cells (madeCells #[.bool false] k) 4)) := by
  obtain ⟨i0, hi, hz0, hsz, hb⟩ := info_parts info4
  have h := run_make (P := Yba.prog) (w := w) 37 4 i0 _ Yba.underlying37 hi hz0 .i64 .i64 (k : Int) (k : Int) (by omega) (by omega) (by rw [hb]; omega) (by omega)
  rw [h, hsz]
  simp only [Nat.mul_one, Int.toNat_natCast]
  rfl

/-- The model: a row of bools. -/
structure MO (w : World) (M k : Nat) (mo : Nat → Bool) : Prop where
  lt : M < w.heap.size
  cell : ∀ j, j < k → w.cell? ⟨M, j, none⟩ = some (.bool (mo j))
  fr : ∀ o, w.frozen? ⟨M, o, none⟩ = false

theorem MO.keep {w w' : World} {M k : Nat} {mo : Nat → Bool} (h : MO w M k mo) (hs : w.heap.size ≤ w'.heap.size) (hb : w'.heap[M]? = w.heap[M]?) : MO w' M k mo :=
  ⟨Nat.lt_of_lt_of_le h.lt hs, fun j hj => (World.cell?_of_block (w := w) hb).trans (h.cell j hj), fun o => (World.frozen?_of_block (w := w) hb).trans (h.fr o)⟩

theorem MO.set {w : World} {M k : Nat} {mo : Nat → Bool} (h : MO w M k mo) (x : Nat) (hx : x < k) (b : Bool) : MO (w.setCell ⟨M, x, none⟩ (.bool b)) M k (fun j => if j = x then b else mo j) := by
  refine ⟨by simpa [World.setCell] using h.lt, fun j hj => ?_, fun o => by rw [World.frozen?_setCell]; exact h.fr o⟩
  show _ = some (Value.bool (if j = x then b else mo j))
  by_cases e : j = x
  · rw [if_pos e, e]; exact World.cell?_setCell_same w _ _ (h.cell x hx)
  · rw [if_neg e, World.cell?_setCell_other w ⟨M, x, none⟩ ⟨M, j, none⟩ _ (fun e' => e (congrArg Addr.off e').symm)]; exact h.cell j hj

theorem MO.made (w : World) (k : Nat) : MO (w.alloc (.cells (madeCells #[.bool false] k) 4)) w.heap.size k (fun _ => false) := by
  have hb := heap_alloc_new w (.cells (madeCells #[.bool false] k) 4)
  generalize w.alloc (.cells (madeCells #[.bool false] k) 4) = W at hb ⊢
  refine ⟨(Array.getElem?_eq_some_iff.1 hb).1, fun j hj => ?_, fun o => by simp [World.frozen?, hb]⟩
  simp [World.cell?, hb, madeCells, hj, Nat.mod_one]

/-- All that lies while marks are set. -/
structure ST (w0 w : World) (G gl k cap M : Nat) (md : Nat → Nat) (any : Bool) (mo : Nat → Bool) : Prop where
  gp : GP w0 w G gl k cap md
  mks : MKs w0 w G [G, gl, M] any (fun m j => mo j && (md j == m))
  mo : MO w M k mo
  neG : M ≠ G
  neL : M ≠ gl
  m0 : w0.heap.size ≤ M

theorem MKs.keep {w0 w w' : World} {G : Nat} {av : List Nat} {any : Bool} {mk : Nat → Nat → Bool} (h : MKs w0 w G av any mk) (h11 : w'.cell? ⟨G, 11, none⟩ = w.cell? ⟨G, 11, none⟩) (hs : w.heap.size ≤ w'.heap.size) (hk : ∀ b, b < w.heap.size → b ∉ av → w'.heap[b]? = w.heap[b]?) : MKs w0 w' G av any mk := by
  rcases h with ⟨e, h1, h2⟩ | ⟨e, A, V, WS, TP, FF, h1, h2⟩
  · exact .inl ⟨e, h11.trans h1, h2⟩
  · exact .inr ⟨e, A, V, WS, TP, FF, h11.trans h1, h2.keep hs hk⟩

theorem MKs.more {w0 w : World} {G T : Nat} {av : List Nat} {any : Bool} {mk : Nat → Nat → Bool} (h : MKs w0 w G av any mk) (hT : w.heap.size ≤ T) : MKs w0 w G (T :: av) any mk := by
  rcases h with ⟨e, h1, h2⟩ | ⟨e, A, V, WS, TP, FF, h1, h2⟩
  · exact .inl ⟨e, h1, h2⟩
  · exact .inr ⟨e, A, V, WS, TP, FF, h1, h2.more hT⟩

theorem MKs.less {w0 w : World} {G T : Nat} {av : List Nat} {any : Bool} {mk : Nat → Nat → Bool} (h : MKs w0 w G (T :: av) any mk) : MKs w0 w G av any mk := by
  rcases h with ⟨e, h1, h2⟩ | ⟨e, A, V, WS, TP, FF, h1, h2⟩
  · exact .inl ⟨e, h1, h2⟩
  · exact .inr ⟨e, A, V, WS, TP, FF, h1, h2.less⟩

theorem ST.drewN {w0 w : World} {G gl k cap M : Nat} {md : Nat → Nat} {any : Bool} {mo : Nat → Bool} (h : ST w0 w G gl k cap M md any mo) (n : Nat) : ST w0 (w.drewN n) G gl k cap M md any mo :=
  ⟨h.gp.keep ⟨rfl, rfl, rfl, Nat.le_refl _, fun _ _ => rfl⟩ (fun _ _ => rfl) (fun _ => rfl) rfl, h.mks.keep rfl (Nat.le_refl _) (fun _ _ _ => rfl), h.mo.keep (Nat.le_refl _) rfl, h.neG, h.neL, h.m0⟩

/-- Ahead of a mark: the step's own variable is made. -/
theorem ST.ahead {w0 w : World} {G gl k cap M : Nat} {md : Nat → Nat} {any : Bool} {mo : Nat → Bool} (h : ST w0 w G gl k cap M md any mo) (ob : Obj) :
    GP w0 (w.alloc ob) G gl k cap md ∧ MKs w0 (w.alloc ob) G [w.heap.size, G, gl, M] any (fun m j => mo j && (md j == m)) ∧ (∀ b ∈ [w.heap.size, G, gl, M], b < (w.alloc ob).heap.size) := by
  have hk : ∀ b, b < w.heap.size → (w.alloc ob).heap[b]? = w.heap[b]? := fun b hb => Below.heap_alloc _ _ _ hb
  have hs : (w.alloc ob).heap.size = w.heap.size + 1 := by simp
  have h1 := h.gp.bel.size
  have h2 := h.gp.hG1
  have h3 := h.gp.hgl
  have h4 := h.mo.lt
  refine ⟨h.gp.keep ⟨rfl, rfl, rfl, by omega, fun b hb => hk b (by omega)⟩ (fun o _ => World.cell?_of_block (w := w) (hk G h2)) (fun o => World.frozen?_of_block (w := w) (hk G h2)) (hk gl h3), (h.mks.more (Nat.le_refl _)).keep (World.cell?_of_block (w := w) (hk G h2)) (by omega) (fun b hb _ => hk b hb), fun b hb => ?_⟩
  simp at hb
  omega

/-- Behind a mark, and the model is stored. -/
theorem ST.after {w0 w w3 : World} {G gl k cap M x : Nat} {md : Nat → Nat} {any any' : Bool} {mo : Nat → Bool} {b : Bool} {ob : Obj} (h : ST w0 w G gl k cap M md any mo) (hx : x < k) (hp : markPost w0 (w.alloc ob) G gl k cap x md [w.heap.size, G, gl, M] any' mo b w3) :
    (w3.cell? ⟨M, x, none⟩ = some (.bool (mo x)) ∧ w3.frozen? ⟨M, x, none⟩ = false ∧ (∀ o, w3.cell? ⟨w.heap.size, o, none⟩ = (w.alloc ob).cell? ⟨w.heap.size, o, none⟩) ∧ (∀ o u, (w3.setCell ⟨M, x, none⟩ u).cell? ⟨w.heap.size, o, none⟩ = (w.alloc ob).cell? ⟨w.heap.size, o, none⟩)) ∧
    ST w0 (w3.setCell ⟨M, x, none⟩ (.bool b)) G gl k cap M md any' (fun j => if j = x then b else mo j) := by
  obtain ⟨p1, p2, p3, p4⟩ := hp
  have hs : (w.alloc ob).heap.size = w.heap.size + 1 := by simp
  have h1 := h.gp.bel.size
  have h4 := h.mo.lt
  have hG1 := h.gp.hG1
  have hM3 : MO w3 M k mo := (h.mo.keep (w' := w.alloc ob) (by omega) (Below.heap_alloc _ _ _ h4)).keep p4 (p3 M (by simp) h.neG)
  have hT : w3.heap[w.heap.size]? = (w.alloc ob).heap[w.heap.size]? := p3 _ (by simp) (by omega)
  have hne : ∀ (u : Value) b', b' ≠ M → (w3.setCell ⟨M, x, none⟩ u).heap[b']? = w3.heap[b']? := fun u b' hb => Below.heap_setCell _ _ _ _ hb
  have hss : (w3.setCell ⟨M, x, none⟩ (.bool b)).heap.size = w3.heap.size := by simp [World.setCell]
  have cT : ∀ o, w3.cell? ⟨w.heap.size, o, none⟩ = (w.alloc ob).cell? ⟨w.heap.size, o, none⟩ := fun o => World.cell?_of_block (w := w.alloc ob) hT
  refine ⟨⟨hM3.cell x hx, hM3.fr x, cT, fun o u => (World.cell?_of_block (w := w3) (hne u w.heap.size (by omega))).trans (cT o)⟩, ?_⟩
  have gG := hne (.bool b) G (fun e => h.neG e.symm)
  have m0 := h.m0
  refine ⟨p1.keep ⟨rfl, rfl, rfl, by omega, fun b' hb => hne _ _ (by omega)⟩ (fun o _ => World.cell?_of_block (w := w3) gG) (fun o => World.frozen?_of_block (w := w3) gG) (hne _ gl (fun e => h.neL e.symm)), p2.less.keep (World.cell?_of_block (w := w3) gG) (by omega) (fun b' _ hb' => hne _ b' (fun e => hb' (by simp [e]))), hM3.set x hx b, h.neG, h.neL, h.m0⟩

end Go.Proofs.Ybulkbgqi
