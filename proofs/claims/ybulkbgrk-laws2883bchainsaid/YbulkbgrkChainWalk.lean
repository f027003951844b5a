import Derived.Test.YbulkbgrkStart
import Derived.Deep.QuietTactic
import Derived.BigQuiet
import Derived.WalkSmall
namespace Go.Proofs.Ybulkbgrk
open Go.RowKit
set_option linter.unusedVariables false

/-- The sum of the first k lengths. -/
def psum (zs : List Int) : Nat → Int
  | 0 => 0
  | k + 1 => psum zs k + zs.getD k 0

theorem psum_bd (zs : List Int) (hz : ∀ j, 0 ≤ zs.getD j 0 ∧ zs.getD j 0 ≤ 255) : ∀ k, 0 ≤ psum zs k ∧ psum zs k ≤ 255 * k
  | 0 => by simp [psum]
  | k + 1 => by
    have := psum_bd zs hz k
    have := hz k
    simp only [psum]
    omega

def spanAt (zs : List Int) (k : Nat) : List Value := [.int .i64 (psum zs k), .int .i64 (psum zs (k + 1)), .int .i64 0, .int .u8 0]

def spans (zs : List Int) : Nat → List Value
  | 0 => []
  | k + 1 => spans zs k ++ spanAt zs k

theorem spans_length (zs : List Int) : ∀ k, (spans zs k).length = k * 4
  | 0 => rfl
  | k + 1 => by simp only [spans, List.length_append, spans_length zs k, spanAt]; simp; omega

theorem spans_get (zs : List Int) : ∀ (n j : Nat), j < n → (spans zs n)[j * 4]? = some (.int .i64 (psum zs j)) ∧ (spans zs n)[j * 4 + 1]? = some (.int .i64 (psum zs (j + 1)))
  | 0, j, h => by omega
  | n + 1, j, h => by
    have hl := spans_length zs n
    simp only [spans]
    rcases Nat.lt_or_ge j n with hj | hj
    · have := spans_get zs n j hj
      rw [List.getElem?_append_left (by omega), List.getElem?_append_left (by omega)]
      exact this
    · obtain rfl : j = n := by omega
      rw [List.getElem?_append_right (by omega), List.getElem?_append_right (by omega), hl]
      rw [show j * 4 - j * 4 = 0 from by omega, show j * 4 + 1 - j * 4 = 1 from by omega]
      exact ⟨rfl, rfl⟩

theorem start_nat (rb M n cap m : Nat) (x : Int) (w : World) (hm : 0 < m) (hk : m ≤ n) (hn : n ≤ 1024) (hf : w.cell? ⟨rb, 18, none⟩ = some (.slice (some ⟨M, 0, none⟩) n cap)) (hc : w.cell? ⟨M, (m - 1) * 4 + 1, none⟩ = some (.int .i64 x)) :
    Calls Yba.prog 7 #[.pointer (some ⟨rb, 0, none⟩), .int .i64 (m : Int)] w fun e w' => e = .returned (.int .i64 x) ∧ w' = w := by
  have e : (m : Int) = ((m - 1 : Nat) : Int) + 1 := by omega
  rw [e]
  exact start_pos rb M n cap (m - 1) x w (by omega) hn hf hc

/-- The reader's block. -/
def boxAt (M n c : Nat) : Obj :=
  .cells #[.string { data := #[] }, .nilIface, .slice none 0 0, .pointer none, .int .u8 0, .int .u8 0, .slice none 0 0, .slice none 0 0, .nilFunc, .nilFunc, .slice none 0 0, .int .i64 0, .int .i64 0, .bool false, .nilIface, .int .i64 1, .slice none 0 0, .slice none 0 0, .slice (some ⟨M, 0, none⟩) n c, .int .i64 (-1), .int .i64 0, .nilIface] 41

theorem span_cells (w : World) (x : Array Value) (t : TypeId) : ∀ j u, x.toList[j]? = some u → (w.alloc (.cells x t)).cell? ((⟨w.heap.size, 0, none⟩ : Addr).add j) = some u := by
  intro j u hj
  rw [Go.WideShapes.add_plain, World.cell?_alloc_at _ _ _ _ rfl]
  simpa using hj

theorem span_one (a b : Int) : ∀ u ∈ [Value.int .i64 a, .int .i64 b, .int .i64 0, .int .u8 0], u.oneCell' = true := by
  intro u hu
  simp at hu
  rcases hu with rfl | rfl | rfl | rfl <;> rfl

theorem grow_below {w wr w1 : World} {s : Value} {n : Nat} {xs : List Value} {o : Obj} (hown : wr.ownsRow w.heap.size 27 4 s n xs) (hnx : Below w.heap.size w wr) (hgrow : (wr.alloc o).grownBy w1 s.ownBlock) : Below w.heap.size w w1 :=
  (hnx.alloc hnx.size o).grown hgrow (by have := hnx.size; simp; omega) (fun k hk => (hown.lt k hk).1)

theorem size1 {n : Nat} {w : World} (o : Obj) (h : n ≤ w.heap.size) : n ≤ (w.alloc o).heap.size := by simp; omega

/-- the spans' starts and ends, in memory. -/
def SpansIn (zs : List Int) (g n : Nat) (w : World) : Prop :=
  ∀ j, j < n → w.cell? ⟨g, j * 4, none⟩ = some (.int .i64 (psum zs j)) ∧ w.cell? ⟨g, j * 4 + 1, none⟩ = some (.int .i64 (psum zs (j + 1)))

theorem SpansIn.below {zs : List Int} {g n B : Nat} {w w' : World} (hg : g < B) (hb : Below B w w') (h : SpansIn zs g n w) : SpansIn zs g n w' := fun j hj =>
  ⟨(hb.cell (p := ⟨g, j * 4, none⟩) hg).trans (h j hj).1, (hb.cell (p := ⟨g, j * 4 + 1, none⟩) hg).trans (h j hj).2⟩

set_option maxHeartbeats 1000000 in
theorem chain_some (b off n cap : Nat) (zs : List Int) (w : World) (hn0 : 0 < n) (hn : n ≤ 1024) (hb : b < w.heap.size) (hc : ∀ j, j < n → w.cell? ⟨b, off + j, none⟩ = some (.int .u8 (zs.getD j 0))) (hz : ∀ j, 0 ≤ zs.getD j 0 ∧ zs.getD j 0 ≤ 255) :
    Calls Yba.prog 4 #[.slice (some ⟨b, off, none⟩) n cap] w fun e w' => e = .returned (.bool true) ∧ Below w.heap.size w w' := by
  have hmk : ∀ w, (Instr.makeSlice 24 (.int .i64 0) (.int .i64 (n : Int))).run Yba.prog w = .ok (.slice (some ⟨w.heap.size, 0, none⟩) 0 n) (w.alloc (.cells (madeCells spanZero (n * 4)) 27)) := make_spans 0 n (Nat.zero_le _) hn
  obtain ⟨i0, hi, hz0, hz1, hz2⟩ := info_parts info27
  have hst : (w.alloc (.cells (madeCells spanZero (n * 4)) 27)).ownsRow w.heap.size 27 4 (.slice (some ⟨w.heap.size, 0, none⟩) 0 n) 0 (spans zs 0) :=
    World.ownsRow_made w _ n (Nat.le_refl _) (by unfold maxLen; omega) (by rw [size_madeCells])
  go_enter Yba.func4, Yba.ntmps4
  go_wp2
  go_loopw [4, 5, 6] (fun s p i wr => ∃ k : Nat, k ≤ n ∧ i = .int .i64 k ∧ p = .int .i64 (psum zs k) ∧ wr.ownsRow w.heap.size 27 4 s k (spans zs k) ∧ Below w.heap.size w wr) (fun _ _ i _ => n - (intOf i).toNat)
  case atStart => exact ⟨0, by omega, rfl, rfl, hst, (Below.refl _ _).alloc (Nat.le_refl _) _⟩
  case round =>
    clear hst
    obtain ⟨k, hk, rfl, rfl, hown, hbl⟩ := hrel
    have hbd := psum_bd zs hz k
    by_cases hlt : k < n
    · have hck : wr.cell? ⟨b, off + k, none⟩ = some (.int .u8 (zs.getD k 0)) := (hbl.cell (p := ⟨b, off + k, none⟩) hb).trans (hc k hlt)
      have hck2 : ∀ o, (wr.alloc o).cell? ⟨b, off + k, none⟩ = some (.int .u8 (zs.getD k 0)) := fun o => (World.cell?_alloc_past _ _ _ (by have := hbl.size; show b < _; omega)).trans hck
      have hzk := hz k
      rw [List.getD_eq_getElem?_getD] at hzk
      have hsz := hbl.size
      have h3 : k + 1 ≤ maxLen := by unfold maxLen; omega
      have h4 : (k + 1) * 32 ≤ 140737488355328 := by omega
      go_wp2_with (at_builtin; refine wpList_append_own _ rfl _ _ 24 rfl w.heap.size 27 i0 (.agg spanZero) 4 32 Yba.underlying24 hi hz0 hz1 hz2 rfl (by decide) _ _ _ rfl (hown.alloc _) ⟨wr.heap.size, 0, none⟩ 1 1 [.int .i64 (psum zs k), .int .i64 (psum zs k + zs[k]?.getD 0), .int .i64 0, .int .u8 0] rfl rfl (span_cells _ #[.int .i64 (psum zs k), .int .i64 (psum zs k + zs[k]?.getD 0), .int .i64 0, .int .u8 0] _) (span_one _ _) h3 h4 (size1 _ hsz) ?_)
      intro s' w1 hown' hgrow _
      have hbl' := grow_below hown hbl hgrow
      have hck' : w1.cell? ⟨b, off + k, none⟩ = some (.int .u8 (zs.getD k 0)) := (hbl'.cell (p := ⟨b, off + k, none⟩) hb).trans (hc k hlt)
      clear hck hck2 hgrow hown
      go_wp2
      go_roundw
      case rel => first | exact ⟨k + 1, by omega, by go_num, rfl, hown', hbl'⟩ | ((repeat apply Exists.intro); exact ⟨⟨k + 1, by omega, by go_num, rfl, hown', hbl'⟩, rfl⟩)
      case measure => simp [intOf]; omega
    · obtain rfl : k = n := by omega
      obtain ⟨-, ⟨_, h0⟩ | ⟨g, cp, cur, rfl, hg, hh, hle, hcm, hcs, htk⟩⟩ := hown
      · omega
      have hgs : g < wr.heap.size := (Array.getElem?_eq_some_iff.1 hh).1
      have hget : ∀ j, j < k → wr.cell? ⟨g, j * 4, none⟩ = some (.int .i64 (psum zs j)) ∧ wr.cell? ⟨g, j * 4 + 1, none⟩ = some (.int .i64 (psum zs (j + 1))) := fun j hj => by
        have q := spans_get zs k j hj
        rw [← htk, List.getElem?_take, if_pos (by omega), List.getElem?_take, if_pos (by omega)] at q
        simpa [World.cell?, hh] using q
      have HG := hideIt hget
      clear hget hh hcs htk hmk
      have hca : ∀ j, j < k → wr.cell? ⟨b, off + j, none⟩ = some (.int .u8 (zs.getD j 0)) := fun j hj => (hbl.cell (p := ⟨b, off + j, none⟩) hb).trans (hc j hj)
      have HCA := hideIt hca
      clear hca
      go_wp2
      go_loop [7, 8] (fun t i => ∃ j : Nat, j ≤ k ∧ i = .int .i64 j ∧ t = .int .i64 (psum zs j)) (fun _ i => k - (intOf i).toNat)
      case atStart => exact ⟨0, by omega, rfl, rfl⟩
      case round =>
        obtain ⟨j, hj, rfl, rfl⟩ := hrel
        have hbj := psum_bd zs hz j
        by_cases hlt2 : j < k
        · have hcj := HCA.out j hlt2
          have hzj := hz j
          rw [List.getD_eq_getElem?_getD] at hzj
          go_wp2
          go_round
          case rel => exact ⟨j + 1, by omega, by go_num, rfl⟩
          case measure => simp [intOf]; omega
        · obtain rfl : j = k := by omega
          have hS : SpansIn zs g j (wr.alloc (boxAt g j cp)) := SpansIn.below hgs ((Below.refl _ _).alloc (Nat.le_refl _) _) HG.out
          have hB := hbl.alloc hbl.size (boxAt g j cp)
          have h18 : (wr.alloc (boxAt g j cp)).cell? ⟨wr.heap.size, 18, none⟩ = some (.slice (some ⟨g, 0, none⟩) j cp) := by rw [boxAt, World.cell?_alloc_at _ _ _ _ rfl]; rfl
          have HS := hideIt hS
          have HB := hideIt hB
          have H18 := hideIt h18
          clear hS hB h18 HG HCA hbl
          go_wp2
          go_loopw [10] (fun i wx => ∃ m : Nat, m ≤ j ∧ i = .int .i64 m ∧ SpansIn zs g j wx ∧ Below w.heap.size w wx ∧ wx.cell? ⟨wr.heap.size, 18, none⟩ = some (.slice (some ⟨g, 0, none⟩) j cp)) (fun i _ => j - (intOf i).toNat)
          case atStart => exact ⟨0, by omega, rfl, HS.out, HB.out, H18.out⟩
          case round =>
            clear HS HB H18
            obtain ⟨m, hm, rfl, hS, hB, h18⟩ := hrel
            by_cases hlt3 : m < j
            · have q1 := (hS m hlt3).1
              have hlt' : (m : Int) < (j : Int) := by omega
              rcases Nat.eq_zero_or_pos m with rfl | hmp
              · have hp0 : psum zs 0 = 0 := rfl
                go_wp2
                go_quiet ((go_at_call 7; exact Calls.quiet_of_same (start_zero _ _)))
                go_wp2
                go_roundw
                case rel => exact ⟨1, by omega, by go_num, hS, below_drewN hB _, h18⟩
                case measure => simp [intOf]; omega
              · have q2 := (hS (m - 1) (by omega)).2
                rw [show m - 1 + 1 = m from by omega] at q2
                have Q2 := hideIt q2
                clear q2
                go_wp2
                go_quiet ((go_at_call 7; exact Calls.quiet_of_same (start_nat _ g j cp m (psum zs m) _ hmp hm hn h18 Q2.out)))
                go_wp2
                go_roundw
                case rel => exact ⟨m + 1, by omega, by go_num, hS, below_drewN hB _, h18⟩
                case measure => simp [intOf]; omega
            · have q2 := (hS (j - 1) (by omega)).2
              rw [show j - 1 + 1 = j from by omega] at q2
              have Q2 := hideIt q2
              clear q2
              go_wp2_with fail
              refine (start_nat _ g j cp j (psum zs j) _ hn0 (Nat.le_refl _) hn h18 Q2.out).mono ?_
              rintro e w1 ⟨rfl, rfl⟩
              go_wp2
              go_ret
              exact ⟨by simp, hB⟩

theorem chain_none (a : Option Addr) (cap : Nat) (w : World) :
    Calls Yba.prog 4 #[.slice a 0 cap] w fun e w' => e = .returned (.bool true) ∧ Below w.heap.size w w' := by
  have hmk : ∀ w, (Instr.makeSlice 24 (.int .i64 0) (.int .i64 0)).run Yba.prog w = .ok (.slice (some ⟨w.heap.size, 0, none⟩) 0 0) (w.alloc (.cells (madeCells spanZero 0) 27)) := make_spans 0 0 (Nat.le_refl _) (by omega)
  go_enter Yba.func4, Yba.ntmps4
  go_wp2
  refine wp_loop_rounds 1 ?_
  rw [rounds_succ]
  go_wp2
  refine wp_loop_rounds 1 ?_
  rw [rounds_succ]
  go_wp2
  refine wp_loop_rounds 1 ?_
  rw [rounds_succ]
  go_wp2_with fail
  refine (start_zero _ _).mono ?_
  rintro e w1 ⟨rfl, rfl⟩
  go_wp2
  go_ret
  exact ⟨rfl, ((Below.refl _ _).alloc (Nat.le_refl _) _).alloc (by simp) _⟩

theorem chain_long (a : Option Addr) (n cap : Nat) (w : World) (hn : 1024 < n) (hm : n ≤ maxLen) :
    Calls Yba.prog 4 #[.slice a n cap] w fun e w' => e = .returned (.bool true) ∧ Below w.heap.size w w' := by
  unfold maxLen at hm
  go_enter Yba.func4, Yba.ntmps4
  go_wp2
  go_ret
  exact ⟨rfl, Below.refl _ _⟩

end Go.Proofs.Ybulkbgrk
