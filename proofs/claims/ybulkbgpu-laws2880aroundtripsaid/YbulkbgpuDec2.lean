import Derived.Test.YbulkbgpuDec
import Derived.Deep.RegionWith
namespace Go.Proofs.Ybulkbgpu
open Go.RowKit
set_option linter.unusedVariables false

theorem hideIt {p : Prop} (h : p) : Hid p := h

/-- What is behind a store into field 1 of the second block and a call that turns nothing that was there. -/
theorem after_store (N : Nat) (w1 w2 : World) (x : Value) (hz : N + 2 ≤ w1.heap.size)
    (hb : Below (w1.setCell ⟨N + 1, 1, none⟩ x).drew.heap.size (w1.setCell ⟨N + 1, 1, none⟩ x).drew w2) :
    (∀ o v, w1.cell? ⟨N, o, none⟩ = some v → w2.cell? ⟨N, o, none⟩ = some v) ∧
    (∀ v, w1.cell? ⟨N + 1, 1, none⟩ = some v → w2.cell? ⟨N + 1, 1, none⟩ = some x) ∧
    (∀ o v, o ≠ 1 → w1.cell? ⟨N + 1, o, none⟩ = some v → w2.cell? ⟨N + 1, o, none⟩ = some v) ∧
    (∀ b o, b < N + 2 → w1.frozen? ⟨b, o, none⟩ = false → w2.frozen? ⟨b, o, none⟩ = false) ∧ w1.heap.size ≤ w2.heap.size ∧ Below N w1 w2 := by
  have hs : (w1.setCell ⟨N + 1, 1, none⟩ x).drew.heap.size = w1.heap.size := by simp [World.setCell]
  rw [hs] at hb
  have c := fun b o (h : b < w1.heap.size) => hb.cell (p := ⟨b, o, none⟩) h
  have f := fun b o (h : b < w1.heap.size) => hb.frozen (p := ⟨b, o, none⟩) h
  refine ⟨fun o v h => ?_, fun v h => ?_, fun o v ho h => ?_, fun b o hlt h => ?_, ?_, ?_⟩
  · rw [c _ _ (by omega)]; exact (World.cell?_setCell_other w1 ⟨N + 1, 1, none⟩ ⟨N, o, none⟩ x (fun e => by have := congrArg Addr.block e; dsimp only at this; omega)).trans h
  · rw [c _ _ (by omega)]; exact World.cell?_setCell_same w1 _ x h
  · rw [c _ _ (by omega)]; exact (World.cell?_setCell_other w1 ⟨N + 1, 1, none⟩ ⟨N + 1, o, none⟩ x (fun e => by have := congrArg Addr.off e; dsimp only at this; omega)).trans h
  · rw [f _ _ (by omega)]; exact (World.frozen?_setCell _ _ _ _).trans h
  · have := hb.size; rw [hs] at this; exact this
  · exact (((Below.refl N w1).setCell (p := ⟨N + 1, 1, none⟩) (Nat.le_succ _) x).drew).trans (hb.mono (by omega))

set_option maxHeartbeats 800000 in
theorem dec_two (B fb v d : Nat) (kind version : Int) (p : Value) (w : World) (hv : v < 18446744073709551616) (hd : d < 4294967296) (hk : (kind == 3) = false) (h1 : (version == 1) = false)
    (hfb : fb < w.heap.size) (hver : w.cell? ⟨fb, 0, none⟩ = some (.int .i64 version)) (hh : HasBytes B w p (Lib.leBytes 8 v ++ Lib.leBytes 4 d)) :
    Calls Yba.prog 8 #[.pointer (some ⟨fb, 0, none⟩), .int .u8 kind, p] w fun e w' =>
      e = .returned (recV kind (wrap64 v) ((d : Int) - 1) { data := #[] }) ∧ Below w.heap.size w w' := by
  obtain ⟨g1, c1, rfl, _, hg, hlc, hc1⟩ := hh
  have hver1 : ∀ o1 o2, ((w.alloc o1).alloc o2).cell? ⟨fb, 0, none⟩ = some (.int .i64 version) := fun o1 o2 => by
    rw [World.cell?_alloc_past _ _ _ (by simp; omega), World.cell?_alloc_past _ _ _ hfb]; exact hver
  have hl : (Lib.leBytes 8 v ++ Lib.leBytes 4 d).length = 12 := by rw [List.length_append, Lib.leBytes_length, Lib.leBytes_length]
  have hu := fun o1 o2 => u64_any g1 12 c1 v (Lib.leBytes 4 d) ((w.alloc o1).alloc o2) hv (by omega) (fun j hj => by
    rw [World.cell?_alloc_past _ _ _ (by simp; omega), World.cell?_alloc_past _ _ _ hg]; exact hc1 j hj)
  have HU : Hid _ := hu
  have HC : Hid _ := hc1
  have hc12 : 12 ≤ c1 := by omega
  have hc8 : ¬ c1 = 8 := by omega
  rw [hl]
  have h2 : (version != 1) = true := by simp [bne, h1]
  clear hc1 hu hver hl hlc
  go_enter Yba.func8, Yba.ntmps8
  go_wp2_with fail
  refine (HU.out _ _).mono ?_
  rintro e w1 ⟨rfl, hb⟩
  have hb' := hb
  simp only [World.size_alloc] at hb'
  obtain ⟨⟨x0, x1, x2, x3, x4, x5⟩, ⟨y0, y1, y2, y3, y4, y5⟩, fx, fy⟩ := two_new w w1 _ _ _ _ _ _ _ _ _ _ _ _ hb'
  have hz := hb'.size
  simp only [World.size_alloc] at hz
  have hbb : Below w.heap.size w w1 := (((Below.refl _ _).alloc (Nat.le_refl _) _).alloc (by simp) _).trans (hb'.mono (by omega))
  have hc2 : Hid (∀ j (hj : j < (Lib.leBytes 8 v ++ Lib.leBytes 4 d).length), w1.cell? ⟨g1, j, none⟩ = some (.int .u8 ((Lib.leBytes 8 v ++ Lib.leBytes 4 d)[j].toNat : Int))) := fun j hj => by
    rw [hbb.cell (p := ⟨g1, j, none⟩) hg]; exact HC.out j hj
  clear hb hb' HU hver1 HC
  go_wp2
  have hc3 : ∀ x, Hid (∀ j (hj : j < (Lib.leBytes 8 v ++ Lib.leBytes 4 d).length), ((w1.setCell ⟨w.heap.size + 1, 1, none⟩ x).drew).cell? ⟨g1, j, none⟩ = some (.int .u8 ((Lib.leBytes 8 v ++ Lib.leBytes 4 d)[j].toNat : Int))) := fun x j hj => by
    rw [← hc2.out j hj]
    exact World.cell?_of_block (Below.heap_setCell _ _ _ _ (by show g1 ≠ w.heap.size + 1; omega))
  have h32 := u32_any g1 4 (c1 - 8) d (Lib.leBytes 8 v) ((w1.setCell ⟨w.heap.size + 1, 1, none⟩ (.int .i64 (wrap64 v))).drew) (Lib.leBytes_length 8 v) hd (by omega) (hc3 _).out
  have H32 := hideIt h32
  clear h32 hc3 hc2
  go_region_with (go_at_call 12; refine H32.out.mono ?_; rintro e w2 ⟨rfl, hb2⟩; obtain ⟨q1, q2, q3, q4, q5, q6⟩ := after_store w.heap.size w1 w2 _ hz hb2; have y0' := q3 0 _ (by decide) y0; have y1' := q2 _ y1; have y2' := q3 2 _ (by decide) y2; have y3' := q3 3 _ (by decide) y3; have y4' := q3 4 _ (by decide) y4; have y5' := q3 5 _ (by decide) y5; have x0' := q1 0 _ x0; have x1' := q1 1 _ x1; have x2' := q1 2 _ x2; have x3' := q1 3 _ x3; have x4' := q1 4 _ x4; have x5' := q1 5 _ x5; have fx' : ∀ o, w2.frozen? ⟨w.heap.size, o, none⟩ = false := fun o => q4 _ o (by omega) (fx o); have fy' : ∀ o, w2.frozen? ⟨w.heap.size + 1, o, none⟩ = false := fun o => q4 _ o (by omega) (fy o); have hbb2 := hbb.trans q6; clear hb2 q1 q2 q3 q4 q6 H32)
  all_goals go_wp2
  all_goals
    refine bodyPost_ret (v := recV kind (wrap64 v) ((d : Int) - 1) { data := #[] }) ?_ rfl ?_
    · simp [results, Yba.results8, go_sem, recV, x0', x1', x2', x3', x4', x5']
    · refine ⟨rfl, ?_⟩
      iterate 7 refine Below.setCell ?_ (by first | exact Nat.le_refl _ | exact Nat.le_succ _) _
      exact hbb2

end Go.Proofs.Ybulkbgpu
