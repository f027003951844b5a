import Derived.Test.YbulkbgrkTableWalk
import Derived.Laws.AppendOwnNone
namespace Go.Proofs.Ybulkbgrk
open Go.RowKit
set_option linter.unusedVariables false

def tab : Array Value := #[.int .u8 92, .int .u8 78, .int .u8 110, .int .u8 76, .int .u8 47, .int .u8 32]

theorem tab_get (i : Int) (h0 : 0 ≤ i) (h1 : i < 6) : ∃ x, 0 ≤ x ∧ x ≤ 255 ∧ ∀ w : World, (w.alloc (.cells tab 46)).cell? ⟨w.heap.size, i.toNat, none⟩ = some (.int .u8 x) := by
  have : i = 0 ∨ i = 1 ∨ i = 2 ∨ i = 3 ∨ i = 4 ∨ i = 5 := by omega
  rcases this with rfl | rfl | rfl | rfl | rfl | rfl
  · exact ⟨92, by omega, by omega, fun w => by rw [World.cell?_alloc_at _ _ _ _ rfl]; rfl⟩
  · exact ⟨78, by omega, by omega, fun w => by rw [World.cell?_alloc_at _ _ _ _ rfl]; rfl⟩
  · exact ⟨110, by omega, by omega, fun w => by rw [World.cell?_alloc_at _ _ _ _ rfl]; rfl⟩
  · exact ⟨76, by omega, by omega, fun w => by rw [World.cell?_alloc_at _ _ _ _ rfl]; rfl⟩
  · exact ⟨47, by omega, by omega, fun w => by rw [World.cell?_alloc_at _ _ _ _ rfl]; rfl⟩
  · exact ⟨32, by omega, by omega, fun w => by rw [World.cell?_alloc_at _ _ _ _ rfl]; rfl⟩

/-- The two blocks: the table, and the two bytes. -/
abbrev two (w : World) (x y : Int) : World := (w.alloc (.cells #[.int .u8 92, .int .u8 78, .int .u8 110, .int .u8 76, .int .u8 47, .int .u8 32] 46)).alloc (.cells #[.int .u8 x, .int .u8 y] 5)

theorem two_le (w : World) (x y : Int) : w.heap.size ≤ (two w x y).heap.size := by simp [two]; omega
theorem two_size (w : World) (x y : Int) : (two w x y).heap.size = w.heap.size + 2 := by simp [two]
theorem two_below (w : World) (x y : Int) : Below w.heap.size w (two w x y) := ((Below.refl _ _).alloc (Nat.le_refl _) _).alloc (by simp) _

theorem three_cells (w : World) (x y : Int) (o : Obj) (p q r : Value) : ∀ j u, [p, q, r][j]? = some u → (((two w x y).alloc o).alloc (.cells #[p, q, r] 5)).cell? ((⟨w.heap.size + 1 + 1 + 1, 0, none⟩ : Addr).add j) = some u := by
  intro j u hj
  rw [Go.WideShapes.add_plain, World.cell?_alloc_at _ _ _ _ (by simp [two])]
  simpa using hj

theorem own0 (w : World) (x y : Int) (n : Nat) (hn : n ≤ 4096) : ((two w x y).alloc (.cells (madeCells #[.int .u8 0] (n + 3)) 5)).ownsRow w.heap.size 5 1 (.slice (some ⟨w.heap.size + 1 + 1, 0, none⟩) 0 (n + 3)) 0 [] := by
  have h := World.ownsRow_made (base := w.heap.size) (e := 5) (size := 1) (two w x y) (madeCells #[.int .u8 0] (n + 3)) (n + 3) (two_le w x y) (by unfold maxLen; omega) (by rw [size_madeCells]; omega)
  rw [two_size] at h
  exact h

theorem three_one (x : Int) : ∀ u ∈ [Value.int .u8 92, .int .u8 78, .int .u8 x], u.oneCell' = true := by
  intro u hu
  simp at hu
  rcases hu with rfl | rfl | rfl <;> rfl

theorem three_size (w : World) (x y : Int) (o p : Obj) : w.heap.size ≤ (((two w x y).alloc o).alloc p).heap.size := by simp [two]; omega

theorem three_le {w : World} {n : Nat} (o : Obj) (u : Unit) (h : n ≤ w.heap.size) : n ≤ (w.alloc o).heap.size := by simp; omega

theorem below_own {W wr w1 : World} {s : Value} {wo : World} {n : Nat} {xs : List Value} (hb : Below W.heap.size W wr) (hB : W.heap.size ≤ wr.heap.size) (hown : wo.ownsRow W.heap.size 5 1 s n xs) (hg : wr.grownBy w1 s.ownBlock) : Below W.heap.size W w1 :=
  hb.grown hg hB (fun k hk => (hown.lt k hk).1)

theorem byteVals_one (zs : List Int) (n : Nat) : ∀ u ∈ byteVals zs n, u.oneCell' = true := by
  intro u hu
  simp only [byteVals, List.mem_map] at hu
  obtain ⟨x, _, rfl⟩ := hu
  rfl

set_option maxHeartbeats 1000000 in
theorem null_some (a0 a1 x y : Int) (ad : Addr) (n cap : Nat) (zs : List Int) (w : World) (hn : n ≤ 4096) (l0 : 0 ≤ a0) (u0 : a0 ≤ 255) (l1 : 0 ≤ a1) (u1 : a1 ≤ 255)
    (hx : (w.alloc (.cells #[.int .u8 92, .int .u8 78, .int .u8 110, .int .u8 76, .int .u8 47, .int .u8 32] 46)).cell? ⟨w.heap.size, (a0 % 6).toNat, none⟩ = some (.int .u8 x))
    (hy : (w.alloc (.cells #[.int .u8 92, .int .u8 78, .int .u8 110, .int .u8 76, .int .u8 47, .int .u8 32] 46)).cell? ⟨w.heap.size, (a1 % 6).toNat, none⟩ = some (.int .u8 y))
    (htail : ∀ wx, Below w.heap.size w wx → ∀ j u, (byteVals zs n)[j]? = some u → wx.cell? (ad.add j) = some u) (hlen : (byteVals zs n).length = n) :
    Calls Yba.prog 6 #[.int .u8 a0, .int .u8 a1, .slice (some ad) n cap] w fun e w' => e = .returned (.bool true) ∧ Below w.heap.size w w' := by
  obtain ⟨i0, hi, hz0, hz1, hz2⟩ := info_parts info5
  have hmk : ∀ w, (Instr.makeSlice 37 (.int .i64 0) (.int .i64 (3 + (n : Int)))).run Yba.prog w = .ok (.slice (some ⟨w.heap.size, 0, none⟩) 0 (n + 3)) (w.alloc (.cells (madeCells #[.int .u8 0] (n + 3)) 5)) := fun w => by
    have h := make_bytes 0 (n + 3) (Nat.zero_le _) (by omega) w
    rw [show ((n + 3 : Nat) : Int) = 3 + (n : Int) from by omega] at h
    exact h
  cases h1 : (x == 92) <;> cases h2 : (y == 78)
  all_goals
    have hf := fun wx hx hy => form_two (w.heap.size + 1) 0 2 x y wx hx hy
    simp only [form2, h1, h2] at hf
    have HF := hideIt hf
    clear hf
    go_enter Yba.func6, Yba.ntmps6
    go_wp2_with fail
    refine (HF.out _ (by rw [World.cell?_alloc_at _ _ _ _ (by simp)]; rfl) (by rw [World.cell?_alloc_at _ _ _ _ (by simp)]; rfl)).mono ?_
    rintro e w1 ⟨rfl, rfl⟩
    clear HF hx hy
    have hown0 := own0 w x y n hn
    have hb0 : Below w.heap.size w ((two w x y).alloc (.cells (madeCells #[.int .u8 0] (n + 3)) 5)) := (two_below w x y).alloc (two_le w x y) _
    have h33 : 0 + 3 ≤ maxLen := by unfold maxLen; omega
    have h34 : (0 + 3) * 1 ≤ 140737488355328 := by omega
    have HB0 := hideIt hb0
    have HO0 := hideIt hown0
    clear hb0 hown0
    go_wp2_with (at_builtin; refine wpList_append_own _ rfl _ _ 37 rfl w.heap.size 5 i0 (.int .u8 0) 1 1 Yba.underlying37 hi hz0 hz1 hz2 rfl (by decide) _ _ _ rfl (HO0.out.alloc _) ⟨w.heap.size + 1 + 1 + 1, 0, none⟩ 3 3 [.int .u8 92, .int .u8 78, .int .u8 x] rfl rfl (three_cells w x y _ _ _ _) (three_one x) h33 h34 (three_size w x y _ _) ?_)
    intro s1 w2 hown1 hgrow _
    have hb1 := below_own (HB0.out.alloc (three_le _ () (two_le w x y)) _) (by simp; omega) (own0 w x y n hn) hgrow
    have hs1 := hb1.size
    have ht := htail w2 hb1
    have h35 : 3 + n ≤ maxLen := by unfold maxLen; omega
    have h36 : (3 + n) * 1 ≤ 140737488355328 := by omega
    have hln : (byteVals zs n).length = n * 1 := by omega
    have HT := hideIt ht
    clear HB0 HO0 hgrow hmk ht htail h33 h34
    go_wp2_with (at_builtin; refine wpList_append_own _ rfl _ _ 37 rfl w.heap.size 5 i0 (.int .u8 0) 1 1 Yba.underlying37 hi hz0 hz1 hz2 rfl (by decide) _ _ _ rfl hown1 ad n cap (byteVals zs n) rfl hln HT.out (byteVals_one zs n) h35 h36 hs1 ?_)
    intro s2 w3 hown2 hgrow2 _
    have hb2 := below_own hb1 hs1 hown1 hgrow2
    clear hown1 HT hgrow2 hb1
    obtain ⟨-, ⟨_, h0⟩ | ⟨g, cp, cur, rfl, -, -, hle, -, -, -⟩⟩ := hown2
    · omega
    have f0 : (((3 + n : Nat) : Int) == 0) = false := by simp; omega
    have f2 : (((3 + n : Nat) : Int) == 2) = false := by simp; omega
    have F0 := hideIt f0
    have F2 := hideIt f2
    clear f0 f2
    go_wp2_with fail
    refine (form_other _ (3 + n) cp _ F0.out F2.out).mono ?_
    rintro e w4 ⟨rfl, rfl⟩
    go_wp2_with fail
    refine (form_zero _ cp _).mono ?_
    rintro e w4 ⟨rfl, rfl⟩
    go_wp2_with fail
    refine (form_other _ 1 cp _ rfl rfl).mono ?_
    rintro e w4 ⟨rfl, rfl⟩
    go_wp2
    go_ret
    exact ⟨rfl, hb2⟩

set_option maxHeartbeats 1000000 in
theorem null_nil (a0 a1 x y : Int) (w : World) (l0 : 0 ≤ a0) (u0 : a0 ≤ 255) (l1 : 0 ≤ a1) (u1 : a1 ≤ 255)
    (hx : (w.alloc (.cells #[.int .u8 92, .int .u8 78, .int .u8 110, .int .u8 76, .int .u8 47, .int .u8 32] 46)).cell? ⟨w.heap.size, (a0 % 6).toNat, none⟩ = some (.int .u8 x))
    (hy : (w.alloc (.cells #[.int .u8 92, .int .u8 78, .int .u8 110, .int .u8 76, .int .u8 47, .int .u8 32] 46)).cell? ⟨w.heap.size, (a1 % 6).toNat, none⟩ = some (.int .u8 y)) :
    Calls Yba.prog 6 #[.int .u8 a0, .int .u8 a1, .slice none 0 0] w fun e w' => e = .returned (.bool true) ∧ Below w.heap.size w w' := by
  obtain ⟨i0, hi, hz0, hz1, hz2⟩ := info_parts info5
  have hmk : ∀ w, (Instr.makeSlice 37 (.int .i64 0) (.int .i64 3)).run Yba.prog w = .ok (.slice (some ⟨w.heap.size, 0, none⟩) 0 3) (w.alloc (.cells (madeCells #[.int .u8 0] 3) 5)) := make_bytes 0 3 (by omega) (by omega)
  cases h1 : (x == 92) <;> cases h2 : (y == 78)
  all_goals
    have hf := fun wx hx hy => form_two (w.heap.size + 1) 0 2 x y wx hx hy
    simp only [form2, h1, h2] at hf
    have HF := hideIt hf
    clear hf
    go_enter Yba.func6, Yba.ntmps6
    go_wp2_with fail
    refine (HF.out _ (by rw [World.cell?_alloc_at _ _ _ _ (by simp)]; rfl) (by rw [World.cell?_alloc_at _ _ _ _ (by simp)]; rfl)).mono ?_
    rintro e w1 ⟨rfl, rfl⟩
    clear HF hx hy
    have hown0 := own0 w x y 0 (by omega)
    have hb0 : Below w.heap.size w ((two w x y).alloc (.cells (madeCells #[.int .u8 0] 3) 5)) := (two_below w x y).alloc (two_le w x y) _
    have h33 : 0 + 3 ≤ maxLen := by unfold maxLen; omega
    have h34 : (0 + 3) * 1 ≤ 140737488355328 := by omega
    have HB0 := hideIt hb0
    have HO0 := hideIt hown0
    clear hb0 hown0
    go_wp2_with (at_builtin; refine wpList_append_own _ rfl _ _ 37 rfl w.heap.size 5 i0 (.int .u8 0) 1 1 Yba.underlying37 hi hz0 hz1 hz2 rfl (by decide) _ _ _ rfl (HO0.out.alloc _) ⟨w.heap.size + 1 + 1 + 1, 0, none⟩ 3 3 [.int .u8 92, .int .u8 78, .int .u8 x] rfl rfl (three_cells w x y _ _ _ _) (three_one x) h33 h34 (three_size w x y _ _) ?_)
    intro s1 w2 hown1 hgrow _
    have hb1 := below_own (HB0.out.alloc (three_le _ () (two_le w x y)) _) (by simp; omega) (own0 w x y 0 (by omega)) hgrow
    have hs1 := hb1.size
    clear HB0 HO0 hgrow hmk h33 h34
    go_wp2_with (at_builtin; refine wpList_append_own_none rfl _ _ 37 rfl w.heap.size 5 i0 1 Yba.underlying37 hi _ _ _ rfl hown1 rfl ?_)
    obtain ⟨-, ⟨_, h0⟩ | ⟨g, cp, cur, rfl, -, -, hle, -, -, -⟩⟩ := hown1
    · omega
    have f0 : (((3 : Nat) : Int) == 0) = false := by simp
    have f2 : (((3 : Nat) : Int) == 2) = false := by simp
    have F0 := hideIt f0
    have F2 := hideIt f2
    clear f0 f2
    go_wp2_with fail
    refine (form_other _ (3) cp _ F0.out F2.out).mono ?_
    rintro e w4 ⟨rfl, rfl⟩
    go_wp2_with fail
    refine (form_zero _ cp _).mono ?_
    rintro e w4 ⟨rfl, rfl⟩
    go_wp2_with fail
    refine (form_other _ 1 cp _ rfl rfl).mono ?_
    rintro e w4 ⟨rfl, rfl⟩
    go_wp2
    go_ret
    exact ⟨rfl, hb1⟩

theorem null_long (a0 a1 : Int) (a : Option Addr) (n cap : Nat) (w : World) (hn : 4096 < n) (hm : n ≤ maxLen) :
    Calls Yba.prog 6 #[.int .u8 a0, .int .u8 a1, .slice a n cap] w fun e w' => e = .returned (.bool true) ∧ Below w.heap.size w w' := by
  unfold maxLen at hm
  go_enter Yba.func6, Yba.ntmps6
  go_wp2
  go_ret
  exact ⟨rfl, Below.refl _ _⟩

end Go.Proofs.Ybulkbgrk
