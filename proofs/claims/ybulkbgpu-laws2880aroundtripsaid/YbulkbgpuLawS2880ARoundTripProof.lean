import Derived.Test.YbulkbgpuRows
import Derived.Test.YbulkbgpuRoundWalk
import Derived.WalkKit
import Derived.ProofKit
import Derived.OpenShut
import Derived.ShutString
namespace Go.Proofs.Ybulkbgpu.lawS2880ARoundTrip
open Go.ChangeShapes Go.WideShapes Go.ChangeAt Go.RowKit
open Go.ChangeMaps (open_string shut_string)
set_option linter.unusedVariables false      -- a walk need not use every 'w<i>' (that an integer argument fits its kind)



theorem seq_back (x : Int) (h0 : -9223372036854775808 ≤ x) (h1 : x ≤ 9223372036854775807) : ∃ v : Nat, IntKind.u64.wrap x = v ∧ v < 18446744073709551616 ∧ wrap64 (v : Int) = x := by
  refine ⟨(IntKind.u64.wrap x).toNat, ?_, ?_, ?_⟩
  · simp [IntKind.wrap, IntKind.bits, IntKind.signed]; omega
  · simp [IntKind.wrap, IntKind.bits, IntKind.signed]; omega
  · simp [wrap64, IntKind.wrap, IntKind.bits, IntKind.signed]; omega

theorem dest_back (x : Int) (h0 : 0 ≤ x) (h1 : x ≤ 4294967295) : ∃ d : Nat, IntKind.u32.wrap (wrap64 (x - 1 + 1)) = d ∧ d < 4294967296 ∧ (d : Int) = x := by
  refine ⟨x.toNat, ?_, by omega, by omega⟩
  simp [wrap64, IntKind.wrap, IntKind.bits, IntKind.signed]; omega

theorem walk (a0 : Int) (a1 : Int) (a2 : Int) (a3 : Int) (a4 : ByteArray) (w0 : (Lit.int .i64 a0).wf = true) (w1 : (Lit.int .u8 a1).wf = true) (w2 : (Lit.int .i64 a2).wf = true) (w3 : (Lit.int .u32 a3).wf = true) (w4 : a4.size ≤ maxLen) (w : World) :
    Calls Yba.prog 4 #[.int .i64 a0, .int .u8 a1, .int .i64 a2, .int .u32 a3, .string a4] w fun e w' => e = .returned (.bool true) ∧ Below w.heap.size w w' := by
  obtain ⟨l1, u1⟩ := bounds_u8 w1
  obtain ⟨l2, u2⟩ := bounds_i64 w2
  obtain ⟨l3, u3⟩ := bounds_u32 w3
  obtain ⟨v, hv, hvlt, hsq⟩ := seq_back a2 (by omega) (by omega)
  obtain ⟨d, hd, hdlt, hda⟩ := dest_back a3 (by omega) (by omega)
  cases hk : (a1 % 3 + 3 == 3) with
  | true => exact walk_name a0 a1 a2 a3 a4 l1 u1 (by omega) (by omega) hk w
  | false =>
    cases h1 : (a0 == 1) with
    | true => exact walk_one a0 a1 a2 a3 a4 v hv hvlt hsq l1 u1 (by omega) (by omega) hk h1 w
    | false => exact walk_two a0 a1 a2 a3 a4 v d hv hvlt hsq hd hdlt hda l1 u1 (by omega) (by omega) hk h1 w

/-! ### THE ROW's STEP: WRITTEN OUT: LEAVE IT -/
set_option maxRecDepth 100000 in
theorem lifted (os : Os) (started : os.Started) (H : Type) (enc : TypeId × Value → H) :
    ReturnsInHanded {} Yba.checked os 4 .any (Rows.lawS2880ARoundTripSpec.pre6 enc Yba.prog Yba.f4 Rows.lawS2880ARoundTripRow.domain false) (Rows.lawS2880ARoundTripSpec.post enc Yba.prog Yba.f4 false true false false) := by
  refine returnsInHanded_of_change (C := Yba.checked) own started (by kernel_rfl) Yba.func4
    (ChangeSpec.witness6 (enc := enc) (C := Yba.checked) false ⟨#[], #[.int .i64 0, .int .u8 0, .int .i64 0, .int .u32 0, .string ByteArray.empty], []⟩ 8 (by kernel_rfl) (by kernel_rfl) (by kernel_rfl) (by kernel_rfl)) ?_
  intro W base args ds gs before hval0 hW hcnd _
  have hval : ∀ (j : Nat) t v, Yba.f4.params[j]? = some t → args[j]? = some v → Value.okWide Yba.prog W .any base t v := hval0
  have hW' := hW
  obtain ⟨p, q, hA0, hV, rfl, hfz, hnd⟩ := hW
  have hA : DataW.TrodAll enc Yba.prog W 0 (fun _ => true) true Yba.f4.params.toList args.toList ds p := hA0
  rw [Yba.params4] at hA hval
  obtain ⟨v0, vs0, d0, ds0, p0, q0, hargs, rfl, rfl, h0, r0⟩ := trodAll_cons hA
  obtain ⟨v1, vs1, d1, ds1, p1, q1, rfl, rfl, rfl, h1, r1⟩ := trodAll_cons r0
  obtain ⟨v2, vs2, d2, ds2, p2, q2, rfl, rfl, rfl, h2, r2⟩ := trodAll_cons r1
  obtain ⟨v3, vs3, d3, ds3, p3, q3, rfl, rfl, rfl, h3, r3⟩ := trodAll_cons r2
  obtain ⟨v4, vs4, d4, ds4, p4, q4, rfl, rfl, rfl, h4, r4⟩ := trodAll_cons r3
  obtain ⟨rfl, rfl, rfl⟩ := trodAll_nil r4
  obtain rfl : args = #[v0, v1, v2, v3, v4] := by cases args; simp_all
  obtain ⟨rfl, rfl⟩ := trodVars_none hV
  obtain ⟨a0, rfl, rfl, rfl, w0⟩ := open_int Yba.underlying3 (hval 0 3 v0 rfl rfl) h0
  obtain ⟨a1, rfl, rfl, rfl, w1⟩ := open_int Yba.underlying5 (hval 1 5 v1 rfl rfl) h1
  obtain ⟨a2, rfl, rfl, rfl, w2⟩ := open_int Yba.underlying2 (hval 2 2 v2 rfl rfl) h2
  obtain ⟨a3, rfl, rfl, rfl, w3⟩ := open_int Yba.underlying35 (hval 3 35 v3 rfl rfl) h3
  obtain ⟨a4, rfl, rfl, rfl, w4⟩ := open_string Yba.underlying9 (hval 4 9 v4 rfl rfl) h4
  clear hA0 hval0
  simp only [List.append_nil] at hW'
  refine (walk a0 a1 a2 a3 a4 w0 w1 w2 w3 w4 W).mono fun e W' ⟨he, hg⟩ => ?_
  subst he
  exact ⟨_, rfl, _, _, _, [], _, [], hW', trodAll_mk1 (shut_bool Yba.underlying4 _), (trodAll_cons_mk (shut_int Yba.underlying3 w0) (trodAll_cons_mk (shut_int Yba.underlying5 w1) (trodAll_cons_mk (shut_int Yba.underlying2 w2) (trodAll_cons_mk (shut_int Yba.underlying35 w3) (trodAll_cons_mk (shut_string Yba.underlying9 w4) trodAll_mk0))))), rfl, hg.frame _, fun h => by cases h⟩

theorem over : Rows.lawS2880ARoundTripRow.holds Yba.pinned (OpenSpec.ofChange Rows.lawS2880ARoundTripSpec) :=
  OpenClaim.holds_of_wide 4 Yba.f4 rfl rfl rfl rfl rfl rfl rfl ⟨rfl, rfl, rfl, rfl, rfl⟩ rfl rfl rfl rfl rfl (by kernel_rfl) Yba.func4 (by kernel_rfl)
    (of_decide_eq_true (by kernel_rfl)) (by unfold Func.isWrapper; first | (rw [if_pos (by decide +kernel)]; kernel_rfl) | (rw [if_neg (by decide +kernel)]; exact ⟨rfl, rfl⟩))
    (fun os started H enc _ => lifted os started H enc)

/-- ████ THE STATEMENT ████ -/
theorem proved : Rows.LawS2880ARoundTripSaid :=
  over
end Go.Proofs.Ybulkbgpu.lawS2880ARoundTrip
