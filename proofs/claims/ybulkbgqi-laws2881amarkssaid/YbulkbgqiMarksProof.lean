import Derived.Test.YbulkbgqiRows
import Derived.Test.YbulkbgqiMarksWalk
import Derived.WalkKit
import Derived.ProofKit
import Derived.OpenShut
import Derived.ShutString
import Derived.ChangeOld
import Derived.Below
import Derived.SliceStrings
import Derived.SizedLaws
import Derived.Deep.SlicePairs
namespace Go.Proofs.Ybulkbgqi.lawS2881AMarks
open Go.ChangeShapes Go.WideShapes Go.ChangeAt Go.RowKit Go.Deep
set_option linter.unusedVariables false

theorem own : ownKnob Yba.prog.godebug = none := by kernel_rfl
theorem laidOut : laidOutB Yba.prog = true := by kernel_rfl

theorem cell_lt {w : World} {b o : Nat} {v : Value} (h : w.cell? ⟨b, o, none⟩ = some v) : b < w.heap.size := by
  rcases Nat.lt_or_ge b w.heap.size with h1 | h1
  · exact h1
  · have : w.heap[b]? = none := by simp [h1]
    simp [World.cell?, this] at h

theorem byteRow_nil (w : World) : ByteRow w none 0 [] := ⟨fun j => by simp, fun h => by omega⟩

theorem byteRow_mk {w : World} {x : Addr} {len : Nat} {zs : List Int} (hl : len ≤ zs.length) (hc : ∀ i, i < zs.length → w.cell? (x.add i) = some (.int .u8 (zs.getD i 0))) (hw : ∀ n ∈ zs, (Lit.int .u8 n).wf = true) : ByteRow w (some x) len zs := by
  refine ⟨fun j => ?_, fun hp => ?_⟩
  · have := range_u8 hw j
    rw [List.getD_eq_getElem?_getD]
    exact this
  · obtain ⟨b, off, spot⟩ := x
    have hspot : spot = none := by simpa [Addr.add] using World.cell?_spot (hc 0 (by omega))
    subst hspot
    have hc' : ∀ j, j < len → w.cell? ⟨b, off + j, none⟩ = some (.int .u8 (zs.getD j 0)) := fun j hj => by rw [← add_plain]; exact hc j (by omega)
    exact ⟨b, off, rfl, cell_lt (hc' 0 hp), hc'⟩

def iOf : Value → Nat
  | .int _ a => a.toNat % 65536
  | _ => 0

def bOf : Value → Bool
  | .bool b => b
  | _ => false

theorem iOf_le (v : Value) : iOf v ≤ 65535 := by
  unfold iOf
  split <;> omega

theorem stepRow_nil (w : World) : StepRow w none 0 (fun _ => 0) (fun _ => false) := ⟨fun _ => by omega, fun h => by omega⟩

theorem stepRow_mk {w : World} {x : Addr} {len : Nat} {V0 V1 : Nat → Value} (h0 : ∀ i, i < len → w.cell? (x.add (i * 2)) = some (V0 i) ∧ w.cell? (x.add (i * 2 + 1)) = some (V1 i)) (h1 : ∀ i, i < len → ∃ a : Int, V0 i = .int .u16 a ∧ 0 ≤ a ∧ a ≤ 65535) (h2 : ∀ i, i < len → ∃ b, V1 i = .bool b) :
    StepRow w (some x) len (fun j => iOf (V0 j)) (fun j => bOf (V1 j)) := by
  refine ⟨fun j => iOf_le _, fun hp => ?_⟩
  obtain ⟨b, off, spot⟩ := x
  have hspot : spot = none := by simpa [Addr.add] using World.cell?_spot (h0 0 hp).1
  subst hspot
  have hc : ∀ j, j < len → w.cell? ⟨b, off + j * 2, none⟩ = some (.int .u16 ((iOf (V0 j) : Nat) : Int)) ∧ w.cell? ⟨b, off + j * 2 + 1, none⟩ = some (.bool (bOf (V1 j))) := fun j hj => by
    obtain ⟨e0, e1⟩ := h0 j hj
    obtain ⟨a, ha, a0, a1⟩ := h1 j hj
    obtain ⟨c, hc⟩ := h2 j hj
    rw [add_plain] at e0 e1
    refine ⟨?_, ?_⟩
    · rw [e0, ha]
      have : ((iOf (.int .u16 a) : Nat) : Int) = a := by simp only [iOf]; omega
      rw [this]
    · rw [Nat.add_assoc, e1, hc]
      rfl
  exact ⟨b, off, rfl, cell_lt (hc 0 hp).1, hc⟩

set_option maxRecDepth 1000000 in
theorem marks_long (a st : Option Addr) (n cap ns cs : Nat) (w : World) (h1 : n ≤ maxLen) (h2 : ns ≤ maxLen) (h : 1024 < n ∨ 1024 < ns) :
    Calls Yba.prog 3 #[.slice a n cap, .slice st ns cs] w fun e w' => e = .returned (.bool true) ∧ Below w.heap.size w w' := by
  unfold maxLen at h1 h2
  by_cases x : 1024 < n
  · go_enter Yba.func3, Yba.ntmps3
    go_wp2
    go_ret
    exact ⟨rfl, Below.refl _ _⟩
  · have c : 1024 < ns := by omega
    clear h
    go_enter Yba.func3, Yba.ntmps3
    go_wp2
    go_ret
    exact ⟨rfl, Below.refl _ _⟩

theorem walk (a st : Option Addr) (n cap ns cs : Nat) (zs : List Int) (I : Nat → Nat) (B : Nat → Bool) (w : World) (h1 : n ≤ maxLen) (h2 : ns ≤ maxLen) (hZ : ByteRow w a n zs) (hS : StepRow w st ns I B) :
    Calls Yba.prog 3 #[.slice a n cap, .slice st ns cs] w fun e w' => e = .returned (.bool true) ∧ Below w.heap.size w w' := by
  by_cases h : 1024 < n ∨ 1024 < ns
  · exact marks_long a st n cap ns cs w h1 h2 h
  · exact marks_walk a st n cap ns cs zs I B w (by omega) (by omega) hZ hS

set_option maxRecDepth 100000 in
theorem lifted (os : Os) (started : os.Started) (H : Type) (enc : TypeId × Value → H) :
    ReturnsInHanded {} Yba.checked os 3 .any (Rows.lawS2881AMarksSpec.pre6 enc Yba.prog Yba.f3 Rows.lawS2881AMarksRow.domain false) (Rows.lawS2881AMarksSpec.post enc Yba.prog Yba.f3 false true false false) := by
  refine returnsInHanded_of_change_sized (C := Yba.checked) own started (by kernel_rfl) Yba.func3
    (ChangeSpec.witness6 (enc := enc) (C := Yba.checked) false ⟨#[], #[.slice none 0 0, .slice none 0 0], []⟩ 8 (by kernel_rfl) (by kernel_rfl) (by kernel_rfl) (by kernel_rfl)) ?_
  intro W base args ds gs before hval0 hW hcnd hsz0 _
  have hval : ∀ (j : Nat) t v, Yba.f3.params[j]? = some t → args[j]? = some v → Value.okWide Yba.prog W .any base t v := hval0
  have hW' := hW
  obtain ⟨p, q, hA0, hV, rfl, hfz, hnd⟩ := hW
  have hA : DataW.TrodAll enc Yba.prog W 0 (fun _ => true) true Yba.f3.params.toList args.toList ds p := hA0
  rw [Yba.params3] at hA hval
  obtain ⟨v0, vs0, d0, ds0, p0, q0, hargs, rfl, rfl, h0, r0⟩ := trodAll_cons hA
  obtain ⟨v1, vs1, d1, ds1, p1, q1, rfl, rfl, rfl, h1, r1⟩ := trodAll_cons r0
  obtain ⟨rfl, rfl, rfl⟩ := trodAll_nil r1
  obtain rfl : args = #[v0, v1] := by cases args; simp_all
  obtain ⟨rfl, rfl⟩ := trodVars_none hV
  obtain ⟨a0, len0, cap0, rfl⟩ := okWide_slice Yba.underlying22 (hval 0 22 v0 rfl rfl)
  obtain ⟨a1, len1, cap1, rfl⟩ := okWide_slice Yba.underlying23 (hval 1 23 v1 rfl rfl)
  have k0 := h0
  have k1 := h1
  have lt0 : ∀ x ∈ p0, x.block < W.heap.size := by obtain ⟨m, hm⟩ := k0; exact DataW.trod_lt m _ _ _ hm
  have lt1 : ∀ x ∈ p1, x.block < W.heap.size := by obtain ⟨m, hm⟩ := k1; exact DataW.trod_lt m _ _ _ hm
  obtain ⟨z0, m0, w0⟩ : ∃ zs, len0 ≤ maxLen ∧ ByteRow W a0 len0 zs := by
    obtain ⟨fuel, hf⟩ := h0
    rcases open_ints Yba.underlying22 Yba.underlying5 (by kernel_rfl) hf with ⟨hcs, _⟩ | ⟨x, l, c, zs, hcs, _, hl, hm, hz, _, hcell, hwz⟩
    · simp [Value.cells] at hcs
      obtain ⟨rfl, rfl, rfl⟩ := hcs
      exact ⟨[], Nat.zero_le _, byteRow_nil W⟩
    · simp [Value.cells] at hcs
      obtain ⟨rfl, rfl, rfl⟩ := hcs
      have hz' : zs.length = cap0 := by simpa using hz
      exact ⟨zs, Nat.le_trans hl hm, byteRow_mk (by omega) hcell hwz⟩
  obtain ⟨I, B, m1, w1⟩ : ∃ I B, len1 ≤ maxLen ∧ StepRow W a1 len1 I B := by
    obtain ⟨fuel, hf⟩ := h1
    rcases open_slice_pairs Yba.underlying23 Yba.underlying40 (by kernel_rfl) rfl rfl (by kernel_rfl) (by kernel_rfl) hf with ⟨hcs, _⟩ | ⟨x, l, c, mm, nn, V0, V1, D0, D1, P0, P1, hcs, _, hl, hm, hmm, _, hcell⟩
    · simp [Value.cells] at hcs
      obtain ⟨rfl, rfl, rfl⟩ := hcs
      exact ⟨_, _, Nat.zero_le _, stepRow_nil W⟩
    · simp [Value.cells] at hcs
      obtain ⟨rfl, rfl, rfl⟩ := hcs
      have hlm : len1 ≤ mm := by rw [hmm]; split <;> omega
      refine ⟨_, _, Nat.le_trans hl hm, stepRow_mk (V0 := V0) (V1 := V1) (fun i hi => ⟨(hcell i (by omega)).1, (hcell i (by omega)).2.1⟩) (fun i hi => ?_) (fun i hi => ?_)⟩
      · have g := (hcell i (by omega)).2.2.1
        obtain ⟨a, ha, -, hwf⟩ := DataW.trod_int Yba.underlying38 g
        have hw : 0 ≤ a ∧ a ≤ 65535 := by
          simp [Lit.wf, IntKind.min, IntKind.max, IntKind.bits, IntKind.signed] at hwf
          omega
        exact ⟨a, (List.cons.inj ha).1, hw.1, hw.2⟩
      · have g := (hcell i (by omega)).2.2.2
        obtain ⟨b, hb, -⟩ := DataW.trod_bool Yba.underlying4 g
        exact ⟨b, (List.cons.inj hb).1⟩
  clear hA0 hval0
  refine (walk a0 a1 len0 cap0 len1 cap1 z0 I B W m0 m1 w0 w1).mono fun e W' ⟨he, bel⟩ => ?_
  subst he
  exact ⟨_, rfl, _, _, _, [], _, [], hW', trodAll_mk1 (shut_bool Yba.underlying4 _), (trodAll_cons_mk (Below.trod laidOut (by kernel_rfl) (of_decide_eq_true (by kernel_rfl)) k0 bel lt0) (trodAll_cons_mk (Below.trod laidOut (by kernel_rfl) (of_decide_eq_true (by kernel_rfl)) k1 bel lt1) trodAll_mk0)), rfl, bel.frame _, fun h => by cases h⟩

theorem over : Rows.lawS2881AMarksRow.holds Yba.pinned (OpenSpec.ofChange Rows.lawS2881AMarksSpec) :=
  OpenClaim.holds_of_wide 3 Yba.f3 rfl rfl rfl rfl rfl rfl rfl ⟨rfl, rfl, rfl, rfl, rfl⟩ rfl rfl rfl rfl rfl (by kernel_rfl) Yba.func3 (by kernel_rfl)
    (of_decide_eq_true (by kernel_rfl)) (by unfold Func.isWrapper; first | (rw [if_pos (by decide +kernel)]; kernel_rfl) | (rw [if_neg (by decide +kernel)]; exact ⟨rfl, rfl⟩))
    (fun os started H enc _ => lifted os started H enc)

/-- The statement. -/
theorem proved : Rows.LawS2881AMarksSaid := over
end Go.Proofs.Ybulkbgqi.lawS2881AMarks
