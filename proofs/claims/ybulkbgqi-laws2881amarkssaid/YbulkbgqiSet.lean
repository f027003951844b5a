import Derived.Test.YbulkbgqiRows2
import Derived.Test.YbulkbgqiBits
import Derived.Deep.QuietTactic
import Derived.BigQuiet
import Derived.WalkSmall
namespace Go.Proofs.Ybulkbgqi
open Go.RowKit
set_option linter.unusedVariables false

def word (x : Nat) : Value := .int .u64 (x : Int)

/-- The cells of the row of levels. -/
def lvls (nl g0 len c0 g1 c1 : Nat) : List Value :=
  if nl = 1 then [.slice (some ⟨g0, 0, none⟩) len c0] else [.slice (some ⟨g0, 0, none⟩) len c0, .slice (some ⟨g1, 0, none⟩) 1 c1]

/-- At least one level lies in memory: the words ws below, and with two levels the one word above. -/
structure LvS (w : World) (L nl cL g0 c0 g1 c1 : Nat) (ws : List Nat) (top : Nat) : Prop where
  nlr : nl = 1 ∨ nl = 2
  own : Own w 67 L nl cL (lvls nl g0 ws.length c0 g1 c1)
  ow0 : Own w 33 g0 ws.length c0 (ws.map word)
  ow1 : nl = 2 → Own w 33 g1 1 c1 [word top]
  lt : ∀ x ∈ ws, x < 18446744073709551616
  tlt : top < 18446744073709551616
  ne0 : L ≠ g0
  ne1 : nl = 2 → L ≠ g1 ∧ g0 ≠ g1

def foot (nl L g0 g1 : Nat) : List Nat := if nl = 1 then [L, g0] else [L, g0, g1]

/-- A set of positions in memory: its value, the words below, the word above, the blocks. -/
def PSet (w : World) (v : Value) (ws : List Nat) (top : Nat) (F : List Nat) : Prop :=
  (v = .slice none 0 0 ∧ ws = [] ∧ F = []) ∨
  ∃ L nl cL g0 c0 g1 c1, v = .slice (some ⟨L, 0, none⟩) nl cL ∧ LvS w L nl cL g0 c0 g1 c1 ws top ∧ 1 ≤ ws.length ∧ ws.length ≤ 17 ∧ (nl = 1 ↔ ws.length = 1) ∧ F = foot nl L g0 g1

theorem LvS.lev0 {w : World} {L nl cL g0 c0 g1 c1 top : Nat} {ws : List Nat} (h : LvS w L nl cL g0 c0 g1 c1 ws top) : w.cell? ⟨L, 0, none⟩ = some (.slice (some ⟨g0, 0, none⟩) ws.length c0) := by
  refine Own.get h.own 0 _ ?_
  unfold lvls
  split <;> rfl

theorem LvS.lev1 {w : World} {L cL g0 c0 g1 c1 top : Nat} {ws : List Nat} (h : LvS w L 2 cL g0 c0 g1 c1 ws top) : w.cell? ⟨L, 1, none⟩ = some (.slice (some ⟨g1, 0, none⟩) 1 c1) :=
  Own.get h.own 1 _ rfl

theorem LvS.word0 {w : World} {L nl cL g0 c0 g1 c1 top : Nat} {ws : List Nat} (h : LvS w L nl cL g0 c0 g1 c1 ws top) (q : Nat) (hq : q < ws.length) : w.cell? ⟨g0, q, none⟩ = some (.int .u64 ((ws.getD q 0 : Nat) : Int)) := by
  refine Own.get h.ow0 q _ ?_
  simp [List.getD, hq, word]

theorem LvS.word1 {w : World} {L cL g0 c0 g1 c1 top : Nat} {ws : List Nat} (h : LvS w L 2 cL g0 c0 g1 c1 ws top) : w.cell? ⟨g1, 0, none⟩ = some (.int .u64 (top : Int)) :=
  Own.get (h.ow1 rfl) 0 _ rfl

theorem getD_lt (ws : List Nat) (h : ∀ x ∈ ws, x < 18446744073709551616) (q : Nat) : ws.getD q 0 < 18446744073709551616 := by
  rcases Nat.lt_or_ge q ws.length with hq | hq
  · rw [List.getD_eq_getElem?_getD, List.getElem?_eq_getElem hq]; exact h _ (List.getElem_mem hq)
  · rw [List.getD_eq_getElem?_getD, List.getElem?_eq_none hq]; decide

set_option maxHeartbeats 1000000 in
theorem has_any (A m i : Nat) (v : Value) (ws : List Nat) (top : Nat) (F : List Nat) (w : World) (hi : i ≤ 1024) (hv : w.cell? ⟨A, m, none⟩ = some v) (hp : PSet w v ws top F) :
    Calls Yba.prog 9 #[.pointer (some ⟨A, m, none⟩), .int .i64 (i : Int)] w fun e w' => e = .returned (.bool (hasBit ws i)) ∧ ∃ n, w' = w.drewN n := by
  rcases hp with ⟨rfl, rfl, rfl⟩ | ⟨L, nl, cL, g0, c0, g1, c1, rfl, hl, h1, h17, hiff, rfl⟩
  · have hf : hasBit [] i = false := has_beyond [] i (Nat.zero_le _)
    go_enter Yba.func9, Yba.ntmps9
    go_wp2
    go_ret
    exact ⟨by rw [hf]; rfl, 0, rfl⟩
  · have hnl : 0 < nl := by rcases hl.nlr with h | h <;> omega
    have hnl2 : nl ≤ 2 := by rcases hl.nlr with h | h <;> omega
    have hnz : ((nl : Int) == 0) = false := by simp; omega
    have hl0 := hl.lev0
    obtain ⟨q, hq⟩ : ∃ q, q = i / 64 := ⟨_, rfl⟩
    obtain ⟨r, hr⟩ : ∃ r, r = i % 64 := ⟨_, rfl⟩
    have hqi : (i : Int) / 64 = (q : Int) := by omega
    obtain ⟨len, hlen⟩ : ∃ len, len = ws.length := ⟨_, rfl⟩
    rw [← hlen] at hl0 h1 h17
    by_cases hlt : q < len
    · obtain ⟨x, hx⟩ : ∃ x, x = ws.getD q 0 := ⟨_, rfl⟩
      have hw := hl.word0 q (by omega)
      rw [← hx] at hw
      have hxl : x < 18446744073709551616 := by rw [hx]; exact getD_lt ws hl.lt q
      have hra : bits BinOp.and IntKind.i64 (i : Int) 63 = (r : Int) := by rw [hr]; exact low6 i (by omega)
      have hr64 : r < 64 := by omega
      have hres : hasBit ws i = x.testBit r := by unfold hasBit; rw [hx, hr, hq]
      have hb := bit_and x r hxl hr64
      have hqi2 : (q : Int) < (len : Int) := by omega
      have HR := hideIt hres
      clear hl hiff hres hx hq hr hlen
      go_enter Yba.func9, Yba.ntmps9
      go_wp2
      go_quiet (fail)
      go_wp2
      go_ret
      exact ⟨by rw [HR.out]; rfl, _, rfl⟩
    · have hres : hasBit ws i = false := has_beyond ws i (by omega)
      have HR := hideIt hres
      clear hl hiff hres hq hr hlen
      go_enter Yba.func9, Yba.ntmps9
      go_wp2
      go_ret
      exact ⟨by rw [HR.out]; rfl, 0, rfl⟩

end Go.Proofs.Ybulkbgqi
