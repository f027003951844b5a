import Derived.Test.YbulkbgqiGrow3
import Derived.Test.YbulkbgqiRem2
namespace Go.Proofs.Ybulkbgqi
open Go.RowKit
set_option linter.unusedVariables false

theorem or_pos (x r : Nat) : x ||| 2 ^ r ≠ 0 := by
  intro e
  have h : (x ||| 2 ^ r).testBit r = true := by rw [Nat.testBit_or, Nat.testBit_two_pow]; simp
  rw [e] at h
  simp at h

theorem or_lt (x r : Nat) (hx : x < 18446744073709551616) (hr : r < 64) : x ||| 2 ^ r < 18446744073709551616 := by
  have := Nat.or_lt_two_pow (n := 64) (show x < 2 ^ 64 by omega) (show 2 ^ r < 2 ^ 64 from Nat.pow_lt_pow_right (by omega) hr)
  omega

/-- The bit is set below, and nothing is left to do above. -/
theorem S0.put0 {w w1 : World} {A m L nl cL g0 c0 g1 c1 top i : Nat} {F ws ws1 : List Nat} (h : S0 w w1 A m F ws ws1 top L nl cL g0 c0 g1 c1) (hq : i / 64 < ws1.length) (hiff : nl = 1 ↔ ws1.length = 1) (hc : nl = 1 ∨ ws1.getD (i / 64) 0 ≠ 0) :
    Left w (w1.setCell ⟨g0, i / 64, none⟩ (.int .u64 ((ws1.getD (i / 64) 0 ||| 2 ^ (i % 64) : Nat) : Int))).drew A m F (fun j => hasBit ws j || j == i) := by
  obtain ⟨fL, f0, f1⟩ := foot_mem nl L g0 g1 h.lv.nlr
  have hA0 : g0 ≠ A := fun e => h.ne (e ▸ f0)
  have hr64 : i % 64 < 64 := Nat.mod_lt _ (by omega)
  have hxl := getD_lt ws1 h.lv.lt (i / 64)
  refine ⟨_, ws1.set (i / 64) (ws1.getD (i / 64) 0 ||| 2 ^ (i % 64)), top, foot nl L g0 g1, ?_, .inr ⟨L, nl, cL, g0, c0, g1, c1, rfl, (h.lv.set0 _ _ hq (or_lt _ _ hxl hr64)).drew, by simpa using h.pos, by simpa using h.le, by simpa using hiff, rfl⟩, ?_, fun j => ?_, h.fr, (h.turn.store _ (h.fr g0 f0) hA0).drew⟩
  · show (w1.setCell ⟨g0, i / 64, none⟩ _).cell? ⟨A, m, none⟩ = _
    rw [World.cell?_of_block (w := w1) (Below.heap_setCell _ _ _ _ (fun e => hA0 e.symm))]; exact h.cell
  · rcases hc with hc | hc
    · intro h2
      have := hiff.1 hc
      simp at h2
      omega
    · rcases h.lv.nlr with e | e
      · intro h2
        have := hiff.1 e
        simp at h2
        omega
      · exact good_set (h.two e).2 hq hc (or_pos _ _)
  · rw [has_or ws1 i j hq, h.bits j]

theorem good_put {ws : List Nat} {top q y : Nat} (hG : Good ws top) (hq : q < ws.length) (hy : y ≠ 0) : Good (ws.set q y) (top ||| 2 ^ q) := by
  intro h2 k
  rw [List.length_set] at h2
  rw [getD_set _ _ _ _ hq, Nat.testBit_or, Nat.testBit_two_pow, hG h2 k]
  by_cases e : k = q
  · subst e
    have a2 : (y == 0) = false := by simpa using hy
    rw [if_pos rfl, a2]; simp
  · rw [if_neg e]
    have : ¬ q = k := fun h => e h.symm
    simp [this]

/-- The bit is set below, and its word's bit above. -/
theorem S0.put1 {w w1 : World} {A m L cL g0 c0 g1 c1 top i : Nat} {F ws ws1 : List Nat} (h : S0 w w1 A m F ws ws1 top L 2 cL g0 c0 g1 c1) (hq : i / 64 < ws1.length) (hq64 : i / 64 < 64) (hiff : 2 = 1 ↔ ws1.length = 1) :
    Left w (((w1.setCell ⟨g0, i / 64, none⟩ (.int .u64 ((ws1.getD (i / 64) 0 ||| 2 ^ (i % 64) : Nat) : Int)))).setCell ⟨g1, 0, none⟩ (.int .u64 ((top ||| 2 ^ (i / 64) : Nat) : Int))).drew.drew A m F (fun j => hasBit ws j || j == i) := by
  obtain ⟨fL, f0, f1⟩ := foot_mem 2 L g0 g1 h.lv.nlr
  have hA0 : g0 ≠ A := fun e => h.ne (e ▸ f0)
  have hA1 : g1 ≠ A := fun e => h.ne (e ▸ f1 rfl)
  have hr64 : i % 64 < 64 := Nat.mod_lt _ (by omega)
  have hxl := getD_lt ws1 h.lv.lt (i / 64)
  refine ⟨_, ws1.set (i / 64) (ws1.getD (i / 64) 0 ||| 2 ^ (i % 64)), top ||| 2 ^ (i / 64), foot 2 L g0 g1, ?_, .inr ⟨L, 2, cL, g0, c0, g1, c1, rfl, ((h.lv.set0 _ _ hq (or_lt _ _ hxl hr64)).set1 _ (or_lt _ _ h.lv.tlt hq64)).drew.drew, by simpa using h.pos, by simpa using h.le, by simpa using hiff, rfl⟩, ?_, fun j => ?_, h.fr, ((h.turn.store _ (h.fr g0 f0) hA0).store _ (h.fr g1 (f1 rfl)) hA1).drew.drew⟩
  · show ((w1.setCell ⟨g0, i / 64, none⟩ _).setCell ⟨g1, 0, none⟩ _).cell? ⟨A, m, none⟩ = _
    rw [World.cell?_of_block (Below.heap_setCell _ _ _ _ (fun e => hA1 e.symm)), World.cell?_of_block (w := w1) (Below.heap_setCell _ _ _ _ (fun e => hA0 e.symm))]; exact h.cell
  · exact good_put (h.two rfl).2 hq (or_pos _ _)
  · rw [has_or ws1 i j hq, h.bits j]

set_option maxHeartbeats 1000000 in
theorem add_any (A m i : Nat) (v : Value) (ws : List Nat) (top : Nat) (F : List Nat) (w : World) (hi : i ≤ 1024) (hA : A < w.heap.size) (hv : w.cell? ⟨A, m, none⟩ = some v) (hf : w.frozen? ⟨A, m, none⟩ = false)
    (hp : PSet w v ws top F) (ht : top < 18446744073709551616) (hG : Good ws top) (hAF : A ∉ F) :
    Calls Yba.prog 15 #[.pointer (some ⟨A, m, none⟩), .int .i64 (i : Int)] w fun e w' => e = .returned (.tuple #[]) ∧ Left w w' A m F (fun j => hasBit ws j || j == i) := by
  have hgrow := grow_any A m i (i / 64) v ws top F w hi (by omega) hA hv hf hp ht hG hAF
  have HG := hideIt hgrow
  clear hgrow hp hG hv hf
  go_enter Yba.func15, Yba.ntmps15
  go_wp2_with fail
  refine HG.out.mono ?_
  rintro e w1 ⟨rfl, ws1, top1, L, nl, cL, g0, c0, g1, c1, hS, hql, hiff⟩
  clear HG
  obtain ⟨q, hq⟩ : ∃ q, q = i / 64 := ⟨_, rfl⟩
  obtain ⟨r, hr⟩ : ∃ r, r = i % 64 := ⟨_, rfl⟩
  have hqi : (i : Int) / 64 = (q : Int) := by omega
  have hq16 : q ≤ 16 := by omega
  have hq0 : (q : Int) / 64 = 0 := by omega
  have hr64 : r < 64 := by omega
  have hra : bits BinOp.and IntKind.i64 (i : Int) 63 = (r : Int) := by rw [hr]; exact low6 i (by omega)
  have hrq : bits BinOp.and IntKind.i64 (q : Int) 63 = (q : Int) := by rw [low6 q (by omega)]; omega
  have hc := hS.cell
  have hl0 := hS.lv.lev0
  have hle := hS.le
  have hxl := getD_lt ws1 hS.lv.lt q
  have hw0 := hS.lv.word0 q (by omega)
  have hf0 := hS.lv.ow0.free q
  have hnl : 0 < nl := by rcases hS.lv.nlr with h | h <;> omega
  have hnl2 : nl ≤ 2 := by rcases hS.lv.nlr with h | h <;> omega
  have hlt : (q : Int) < (ws1.length : Int) := by omega
  have hlt' : q < ws1.length := by omega
  have HS := hideIt hS
  have HI := hideIt hiff
  have HQL := hideIt hql
  have P0 := fun c => hS.put0 hql hiff c
  rw [← hq, ← hr] at P0
  obtain ⟨x, hx⟩ : ∃ x, x = ws1.getD q 0 := ⟨_, rfl⟩
  obtain ⟨len, hlen⟩ : ∃ len, len = ws1.length := ⟨_, rfl⟩
  rw [← hlen] at hl0 hle hlt hlt'
  rw [← hx] at hxl hw0 P0
  have hor := bit_or x r hxl hr64
  obtain ⟨y, hy⟩ : ∃ y, y = x ||| 2 ^ r := ⟨_, rfl⟩
  rw [← hy] at hor P0
  have HP0 := hideIt P0
  by_cases hz : x = 0
  · subst hz
    have hor0 : bits BinOp.or IntKind.u64 0 (IntKind.u64.wrap (2 ^ r)) = (y : Int) := hor
    have hw00 : w1.cell? ⟨g0, q, none⟩ = some (.int .u64 0) := hw0
    clear hor hw0
    rcases hS.lv.nlr with rfl | rfl
    · clear hql hiff hq hr hlen hx hS P0 hy
      go_wp2
      refine wp_loop_rounds 2 ?_
      rw [rounds_succ]
      go_wp2
      go_region
      go_wp2
      rw [rounds_succ]
      go_wp2
      go_end0
      exact ⟨rfl, HP0.out (.inl (by first | rfl | trivial))⟩
    · have P1 := hS.put1 hql (by omega) hiff
      rw [← hq, ← hr, ← hx, ← hy] at P1
      have S1 := hS.lv.set0 q y (by omega) (by rw [hy]; exact or_lt _ _ (by omega) hr64)
      have hl1 := S1.lev1
      have hw1 := S1.word1
      have hf1 : w1.frozen? ⟨g1, 0, none⟩ = false := (hS.lv.ow1 rfl).free 0
      have htl := hS.lv.tlt
      have hor2 := bit_or top1 q htl (by omega)
      obtain ⟨y2, hy2⟩ : ∃ y2, y2 = top1 ||| 2 ^ q := ⟨_, rfl⟩
      rw [← hy2] at hor2 P1
      have HP1 := hideIt P1
      by_cases hz2 : top1 = 0
      · subst hz2
        have hor20 : bits BinOp.or IntKind.u64 0 (IntKind.u64.wrap (2 ^ q)) = (y2 : Int) := hor2
        have hw10 : (w1.setCell ⟨g0, q, none⟩ (.int .u64 (y : Int))).cell? ⟨g1, 0, none⟩ = some (.int .u64 0) := hw1
        clear hor2 hw1
        clear hql hiff hq hr hlen hx hS P0 hy P1 S1 hy2
        go_wp2
        refine wp_loop_rounds 3 ?_
        rw [rounds_succ]
        go_wp2
        go_region
        go_wp2
        rw [rounds_succ]
        go_wp2
        go_region
        go_wp2
        rw [rounds_succ]
        go_wp2
        go_end0
        exact ⟨rfl, HP1.out⟩
      · have hzb : ((top1 : Int) != 0) = true := by simpa using hz2
        clear hql hiff hq hr hlen hx hS P0 hy P1 S1 hy2
        go_wp2
        refine wp_loop_rounds 2 ?_
        rw [rounds_succ]
        go_wp2
        go_region
        go_wp2
        rw [rounds_succ]
        go_wp2
        go_region
        go_wp2
        refine bodyPost_ret (results_none rfl _ _ _) rfl ?_
        exact ⟨rfl, HP1.out⟩
  · have hzb : ((x : Int) != 0) = true := by simpa using hz
    clear hql hiff hq hr hlen hx hS P0 hy
    go_wp2
    refine wp_loop_rounds 1 ?_
    rw [rounds_succ]
    go_wp2
    go_region
    go_wp2
    refine bodyPost_ret (results_none rfl _ _ _) rfl ?_
    exact ⟨rfl, HP0.out (.inr hz)⟩

end Go.Proofs.Ybulkbgqi
