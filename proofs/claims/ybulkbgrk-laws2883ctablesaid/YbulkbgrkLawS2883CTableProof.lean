import Derived.Test.YbulkbgrkRows
import Derived.Test.YbulkbgrkTableWalk
import Derived.WalkKit
import Derived.ProofKit
import Derived.OpenShut
import Derived.ShutString
import Derived.ChangeOld
import Derived.Below
namespace Go.Proofs.Ybulkbgrk.lawS2883CTable
open Go.ChangeShapes Go.WideShapes Go.ChangeAt Go.RowKit
open Go.ChangeMaps (open_string shut_string)
set_option linter.unusedVariables false

theorem own : ownKnob Yba.prog.godebug = none := by kernel_rfl
theorem laidOut : laidOutB Yba.prog = true := by kernel_rfl

theorem walk (a0 : Option Addr) (len0 cap0 : Nat) (z0 : List Int) (w : World) (w0 : IsRow .u8 w a0 len0 cap0 z0) :
    Calls Yba.prog 5 #[.slice a0 len0 cap0] w fun e w' => e = .returned (.bool true) ∧ Below w.heap.size w w' := by
  obtain ⟨hlc, hlm, hwf, hp⟩ := w0.parts
  rcases Nat.lt_or_ge 4096 len0 with hbig | hle
  · exact table_long a0 len0 cap0 w hbig hlm
  · rcases hp with rfl | ⟨hpos, b, off, rfl, hb, hc⟩
    · exact table_none a0 cap0 w
    · have hzl : len0 ≤ z0.length := by
        rcases w0 with ⟨h, -⟩ | ⟨x, -, hl, -, hz, -⟩
        · cases h
        · omega
      by_cases h2 : len0 = 2
      · subst h2
        have hb0 := bounds_u8 (hwf 0)
        have hb1 := bounds_u8 (hwf 1)
        have hs := str_two z0 hzl hb0.1 hb0.2 hb1.1 hb1.2
        cases hbe : (z0.getD 0 0 == 92 && z0.getD 1 0 == 78) with
        | true =>
          rw [hbe] at hs
          refine table_null b off 2 cap0 z0 w hpos hle hzl hb hc hs fun wx hx => ?_
          have hf := form_two b off cap0 (z0.getD 0 0) (z0.getD 1 0) wx (hx 0 (by omega)) (hx 1 (by omega))
          rw [form2, if_pos hbe] at hf
          exact hf
        | false =>
          rw [hbe] at hs
          refine table_plain b off 2 cap0 z0 w hpos hle hzl hb hc hs fun wx hx => ?_
          have hf := form_two b off cap0 (z0.getD 0 0) (z0.getD 1 0) wx (hx 0 (by omega)) (hx 1 (by omega))
          rw [form2, if_neg (by rw [hbe]; decide)] at hf
          exact hf
      · exact table_plain b off len0 cap0 z0 w hpos hle hzl hb hc (str_other z0 len0 hzl h2) fun wx _ => form_other _ _ _ _ (by simp; omega) (by simp; omega)

/-! ### THE ROW's STEP: WRITTEN OUT: LEAVE IT -/
set_option maxRecDepth 100000 in
theorem lifted (os : Os) (started : os.Started) (H : Type) (enc : TypeId × Value → H) :
    ReturnsInHanded {} Yba.checked os 5 .any (Rows.lawS2883CTableSpec.pre6 enc Yba.prog Yba.f5 Rows.lawS2883CTableRow.domain false) (Rows.lawS2883CTableSpec.post enc Yba.prog Yba.f5 false true false false) := by
  refine returnsInHanded_of_change (C := Yba.checked) own started (by kernel_rfl) Yba.func5
    (ChangeSpec.witness6 (enc := enc) (C := Yba.checked) false ⟨#[], #[.slice none 0 0], []⟩ 8 (by kernel_rfl) (by kernel_rfl) (by kernel_rfl) (by kernel_rfl)) ?_
  intro W base args ds gs before hval0 hW hcnd _
  have hval : ∀ (j : Nat) t v, Yba.f5.params[j]? = some t → args[j]? = some v → Value.okWide Yba.prog W .any base t v := hval0
  have hW' := hW
  obtain ⟨p, q, hA0, hV, rfl, hfz, hnd⟩ := hW
  have hA : DataW.TrodAll enc Yba.prog W 0 (fun _ => true) true Yba.f5.params.toList args.toList ds p := hA0
  rw [Yba.params5] at hA hval
  obtain ⟨v0, vs0, d0, ds0, p0, q0, hargs, rfl, rfl, h0, r0⟩ := trodAll_cons hA
  obtain ⟨rfl, rfl, rfl⟩ := trodAll_nil r0
  obtain rfl : args = #[v0] := by cases args; simp_all
  obtain ⟨rfl, rfl⟩ := trodVars_none hV
  obtain ⟨a0, len0, cap0, rfl⟩ := okWide_slice Yba.underlying37 (hval 0 37 v0 rfl rfl)
  have k0 := h0
  have lt0 : ∀ x ∈ p0, x.block < W.heap.size := by obtain ⟨m, hm⟩ := k0; exact DataW.trod_lt m _ _ _ hm
  obtain ⟨z0, w0⟩ : ∃ zs, IsRow .u8 W a0 len0 cap0 zs := by
    obtain ⟨fuel, hf⟩ := h0
    rcases open_ints Yba.underlying37 Yba.underlying5 (by kernel_rfl) hf with ⟨hcs, _⟩ | ⟨x, l, c, zs, hcs, _, hl, hm, hz, _, hcell, hwz⟩
    · simp [Value.cells] at hcs
      obtain ⟨rfl, rfl, rfl⟩ := hcs
      exact ⟨[], .inl ⟨rfl, rfl, rfl, rfl⟩⟩
    · simp [Value.cells] at hcs
      obtain ⟨rfl, rfl, rfl⟩ := hcs
      exact ⟨zs, .inr ⟨_, rfl, hl, hm, by simpa using hz, hcell, hwz⟩⟩
  clear hA0 hval0
  refine (walk a0 len0 cap0 z0 W w0).mono fun e W' ⟨he, bel⟩ => ?_
  subst he
  exact ⟨_, rfl, _, _, _, [], _, [], hW', trodAll_mk1 (shut_bool Yba.underlying4 _), (trodAll_cons_mk (Below.trod laidOut (by kernel_rfl) (of_decide_eq_true (by kernel_rfl)) k0 bel lt0) trodAll_mk0), rfl, bel.frame _, fun h => by cases h⟩

theorem over : Rows.lawS2883CTableRow.holds Yba.pinned (OpenSpec.ofChange Rows.lawS2883CTableSpec) :=
  OpenClaim.holds_of_wide 5 Yba.f5 rfl rfl rfl rfl rfl rfl rfl ⟨rfl, rfl, rfl, rfl, rfl⟩ rfl rfl rfl rfl rfl (by kernel_rfl) Yba.func5 (by kernel_rfl)
    (of_decide_eq_true (by kernel_rfl)) (by unfold Func.isWrapper; first | (rw [if_pos (by decide +kernel)]; kernel_rfl) | (rw [if_neg (by decide +kernel)]; exact ⟨rfl, rfl⟩))
    (fun os started H enc _ => lifted os started H enc)

/-- ████ THE STATEMENT ████ -/
theorem proved : Rows.LawS2883CTableSaid := over
end Go.Proofs.Ybulkbgrk.lawS2883CTable
