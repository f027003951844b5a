import Derived.Test.YbulkbgqiRows
import Derived.Test.YbulkbgqiNearWalk
import Derived.WalkKit
import Derived.ProofKit
import Derived.OpenShut
import Derived.ShutString
import Derived.ChangeOld
import Derived.Below
import Derived.SliceStrings
import Derived.SizedLaws
namespace Go.Proofs.Ybulkbgqi.lawS2881CNearest
open Go.ChangeShapes Go.WideShapes Go.ChangeAt Go.RowKit
open Go.ChangeMaps (open_string shut_string)
set_option linter.unusedVariables false

theorem own : ownKnob Yba.prog.godebug = none := by kernel_rfl
theorem laidOut : laidOutB Yba.prog = true := by kernel_rfl

theorem cell_lt {w : World} {b o : Nat} {v : Value} (h : w.cell? ⟨b, o, none⟩ = some v) : b < w.heap.size := by
  rcases Nat.lt_or_ge b w.heap.size with h1 | h1
  · exact h1
  · have : w.heap[b]? = none := by simp [h1]
    simp [World.cell?, this] at h

theorem weightsAll_mem {H : Type} {P : Program} {e : TypeId} : ∀ (l : List (DataW H)) (d : DataW H), d ∈ l → ∀ n ∈ d.weights P e, n ∈ DataW.weightsAll P e l
  | [], d, h, n, hn => by cases h
  | x :: r, d, h, n, hn => by
    simp only [DataW.weightsAll, List.mem_append]
    rcases List.mem_cons.1 h with rfl | h
    · exact .inl hn
    · exact .inr (weightsAll_mem r d h n hn)

theorem sized_strs {H : Type} {ts : List TypeId} {ds : List (DataW H)} {j : Nat} {a b : List ByteArray} (h : (DataW.weightsEach Yba.prog ts ds).all (· ≤ reachBytes) = true) (ht : ts[j]? = some 51) (hd : ds[j]? = some (.slice (strs a) (strs b))) :
    ∀ s ∈ a ++ b, s.size ≤ 140737488355328 := by
  intro s hs
  have hm : s.data.toList.length ∈ (DataW.slice (strs a) (strs b) : DataW H).weights Yba.prog 51 := by
    simp only [DataW.weights, Yba.underlying51, List.mem_cons, List.mem_append]
    right
    rcases List.mem_append.1 hs with hs | hs
    · left
      refine weightsAll_mem _ (.lit (.string s.data.toList)) ?_ _ (by simp [DataW.weights])
      simp only [strs, List.mem_map]
      exact ⟨s, hs, rfl⟩
    · right
      refine weightsAll_mem _ (.lit (.string s.data.toList)) ?_ _ (by simp [DataW.weights])
      simp only [strs, List.mem_map]
      exact ⟨s, hs, rfl⟩
  have := List.all_eq_true.1 h _ (DataW.weights_mem_each ht hd _ hm)
  have h2 : s.data.toList.length ≤ reachBytes := of_decide_eq_true this
  have h3 : s.size = s.data.toList.length := by rw [Array.length_toList]; rfl
  have h4 := reachBytes_lt
  omega

theorem getD_le (ss : List ByteArray) (h : ∀ s ∈ ss, s.size ≤ 140737488355328) (j : Nat) : (ss.getD j emp).size ≤ 140737488355328 := by
  rcases Nat.lt_or_ge j ss.length with hj | hj
  · rw [List.getD_eq_getElem?_getD, List.getElem?_eq_getElem hj]; exact h _ (List.getElem_mem hj)
  · rw [List.getD_eq_getElem?_getD, List.getElem?_eq_none hj]; exact Nat.zero_le _

theorem strRow_nil (w : World) : StrRow w none 0 [] := ⟨fun j => Nat.zero_le _, fun h => by omega⟩

theorem strRow_mk {w : World} {x : Addr} {len : Nat} {ss : List ByteArray} (hl : len ≤ ss.length) (hc : ∀ i, i < ss.length → w.cell? (x.add i) = some (.string (ss.getD i ByteArray.empty))) (hs : ∀ s ∈ ss, s.size ≤ 140737488355328) : StrRow w (some x) len ss := by
  refine ⟨getD_le ss hs, fun hp => ?_⟩
  obtain ⟨b, off, spot⟩ := x
  have hspot : spot = none := by simpa [Addr.add] using World.cell?_spot (hc 0 (by omega))
  subst hspot
  have hc' : ∀ j, j < len → w.cell? ⟨b, off + j, none⟩ = some (.string (ss.getD j emp)) := fun j hj => by
    rw [← add_plain, hc j (by omega)]
    simp [List.getD, List.getElem?_eq_getElem (show j < ss.length by omega)]
  exact ⟨b, off, rfl, cell_lt (hc' 0 hp), hc'⟩

theorem byteRow_nil (w : World) : ByteRow w none 0 [] := ⟨fun j => by simp, fun h => by omega⟩

theorem byteRow_mk {w : World} {x : Addr} {len : Nat} {zs : List Int} (hl : len ≤ zs.length) (hc : ∀ i, i < zs.length → w.cell? (x.add i) = some (.int .u8 (zs.getD i 0))) (hw : ∀ n ∈ zs, (Lit.int .u8 n).wf = true) : ByteRow w (some x) len zs := by
  refine ⟨fun j => ?_, fun hp => ?_⟩
  · have := range_u8 hw j
    rw [List.getD_eq_getElem?_getD]
    exact this
  · obtain ⟨b, off, spot⟩ := x
    have hspot : spot = none := by simpa [Addr.add] using World.cell?_spot (hc 0 (by omega))
    subst hspot
    have hc' : ∀ j, j < len → w.cell? ⟨b, off + j, none⟩ = some (.int .u8 (zs.getD j 0)) := fun j hj => by rw [← add_plain]; exact hc j (by omega)
    exact ⟨b, off, rfl, cell_lt (hc' 0 hp), hc'⟩

set_option maxRecDepth 1000000 in
theorem near_long (ap ak av aq : Option Addr) (np cp nk ck nv cv nq cq : Nat) (thr : Int) (w : World) (h1 : np ≤ maxLen) (h2 : nk ≤ maxLen) (h3 : nq ≤ maxLen) (h : 256 < np ∨ 1024 < nk ∨ 1024 < nq) :
    Calls Yba.prog 4 #[.slice ap np cp, .slice ak nk ck, .slice av nv cv, .slice aq nq cq, .int .i64 thr] w fun e w' => e = .returned (.bool true) ∧ Below w.heap.size w w' := by
  unfold maxLen at h1 h2 h3
  by_cases a : 256 < np
  · go_enter Yba.func4, Yba.ntmps4
    go_wp2
    go_ret
    exact ⟨rfl, Below.refl _ _⟩
  · by_cases b : 1024 < nk
    · go_enter Yba.func4, Yba.ntmps4
      go_wp2
      go_ret
      exact ⟨rfl, Below.refl _ _⟩
    · have c : 1024 < nq := by omega
      clear h
      go_enter Yba.func4, Yba.ntmps4
      go_wp2
      go_ret
      exact ⟨rfl, Below.refl _ _⟩

theorem walk (ap ak av aq : Option Addr) (np cp nk ck nv cv nq cq : Nat) (ss ks : List ByteArray) (vz qz : List Int) (thr : Int) (w : World)
    (h1 : np ≤ maxLen) (h2 : nk ≤ maxLen) (h3 : nq ≤ maxLen) (hnv : nv ≤ maxLen) (hP : StrRow w ap np ss) (hK : StrRow w ak nk ks) (hV : ByteRow w av nv vz) (hQ : ByteRow w aq nq qz) :
    Calls Yba.prog 4 #[.slice ap np cp, .slice ak nk ck, .slice av nv cv, .slice aq nq cq, .int .i64 thr] w fun e w' => e = .returned (.bool true) ∧ Below w.heap.size w w' := by
  by_cases h : 256 < np ∨ 1024 < nk ∨ 1024 < nq
  · exact near_long ap ak av aq np cp nk ck nv cv nq cq thr w h1 h2 h3 h
  · exact near_walk ap ak av aq np cp nk ck nv cv nq cq ss ks vz qz thr w (by omega) (by omega) (by omega) hnv hP hK hV hQ

set_option maxRecDepth 100000 in
theorem lifted (os : Os) (started : os.Started) (H : Type) (enc : TypeId × Value → H) :
    ReturnsInHanded {} Yba.checked os 4 .any (Rows.lawS2881CNearestSpec.pre6 enc Yba.prog Yba.f4 Rows.lawS2881CNearestRow.domain false) (Rows.lawS2881CNearestSpec.post enc Yba.prog Yba.f4 false true false false) := by
  refine returnsInHanded_of_change_sized (C := Yba.checked) own started (by kernel_rfl) Yba.func4
    (ChangeSpec.witness6 (enc := enc) (C := Yba.checked) false ⟨#[], #[.slice none 0 0, .slice none 0 0, .slice none 0 0, .slice none 0 0, .int .i64 0], []⟩ 8 (by kernel_rfl) (by kernel_rfl) (by kernel_rfl) (by kernel_rfl)) ?_
  intro W base args ds gs before hval0 hW hcnd hsz0 _
  have hval : ∀ (j : Nat) t v, Yba.f4.params[j]? = some t → args[j]? = some v → Value.okWide Yba.prog W .any base t v := hval0
  have hW' := hW
  obtain ⟨p, q, hA0, hV, rfl, hfz, hnd⟩ := hW
  have hA : DataW.TrodAll enc Yba.prog W 0 (fun _ => true) true Yba.f4.params.toList args.toList ds p := hA0
  have hsz : (DataW.weightsEach Yba.prog (Yba.f4.params.toList ++ Rows.lawS2881CNearestSpec.plain.varTypes Yba.prog) (ds ++ gs)).all (· ≤ reachBytes) = true := hsz0
  rw [Yba.params4] at hA hval hsz
  obtain ⟨v0, vs0, d0, ds0, p0, q0, hargs, rfl, rfl, h0, r0⟩ := trodAll_cons hA
  obtain ⟨v1, vs1, d1, ds1, p1, q1, rfl, rfl, rfl, h1, r1⟩ := trodAll_cons r0
  obtain ⟨v2, vs2, d2, ds2, p2, q2, rfl, rfl, rfl, h2, r2⟩ := trodAll_cons r1
  obtain ⟨v3, vs3, d3, ds3, p3, q3, rfl, rfl, rfl, h3, r3⟩ := trodAll_cons r2
  obtain ⟨v4, vs4, d4, ds4, p4, q4, rfl, rfl, rfl, h4, r4⟩ := trodAll_cons r3
  obtain ⟨rfl, rfl, rfl⟩ := trodAll_nil r4
  obtain rfl : args = #[v0, v1, v2, v3, v4] := by cases args; simp_all
  obtain ⟨rfl, rfl⟩ := trodVars_none hV
  obtain ⟨a0, len0, cap0, rfl⟩ := okWide_slice Yba.underlying51 (hval 0 51 v0 rfl rfl)
  obtain ⟨a1, len1, cap1, rfl⟩ := okWide_slice Yba.underlying51 (hval 1 51 v1 rfl rfl)
  obtain ⟨a2, len2, cap2, rfl⟩ := okWide_slice Yba.underlying22 (hval 2 22 v2 rfl rfl)
  obtain ⟨a3, len3, cap3, rfl⟩ := okWide_slice Yba.underlying22 (hval 3 22 v3 rfl rfl)
  obtain ⟨a4, rfl, rfl, rfl, w4⟩ := open_int Yba.underlying3 (hval 4 3 v4 rfl rfl) h4
  have k0 := h0
  have k1 := h1
  have k2 := h2
  have k3 := h3
  have lt0 : ∀ x ∈ p0, x.block < W.heap.size := by obtain ⟨m, hm⟩ := k0; exact DataW.trod_lt m _ _ _ hm
  have lt1 : ∀ x ∈ p1, x.block < W.heap.size := by obtain ⟨m, hm⟩ := k1; exact DataW.trod_lt m _ _ _ hm
  have lt2 : ∀ x ∈ p2, x.block < W.heap.size := by obtain ⟨m, hm⟩ := k2; exact DataW.trod_lt m _ _ _ hm
  have lt3 : ∀ x ∈ p3, x.block < W.heap.size := by obtain ⟨m, hm⟩ := k3; exact DataW.trod_lt m _ _ _ hm
  obtain ⟨s0, m0, w0⟩ : ∃ ss, len0 ≤ maxLen ∧ StrRow W a0 len0 ss := by
    obtain ⟨fuel, hf⟩ := h0
    rcases open_strings Yba.underlying51 Yba.underlying9 (by kernel_rfl) hf with ⟨hcs, _⟩ | ⟨x, l, c, ss, hcs, _, hl, hm, hz, hx, hcell, _⟩
    · simp [Value.cells] at hcs
      obtain ⟨rfl, rfl, rfl⟩ := hcs
      exact ⟨[], Nat.zero_le _, strRow_nil W⟩
    · simp [Value.cells] at hcs
      obtain ⟨rfl, rfl, rfl⟩ := hcs
      have hz' : ss.length = cap0 := by simpa using hz
      have hd : d0 = .slice (strs (ss.take len0)) (strs (ss.drop len0)) := congrArg Prod.fst hx
      subst hd
      have hb := sized_strs (j := 0) hsz rfl rfl
      rw [List.take_append_drop] at hb
      exact ⟨ss, Nat.le_trans hl hm, strRow_mk (by omega) hcell hb⟩
  obtain ⟨s1, m1, w1⟩ : ∃ ss, len1 ≤ maxLen ∧ StrRow W a1 len1 ss := by
    obtain ⟨fuel, hf⟩ := h1
    rcases open_strings Yba.underlying51 Yba.underlying9 (by kernel_rfl) hf with ⟨hcs, _⟩ | ⟨x, l, c, ss, hcs, _, hl, hm, hz, hx, hcell, _⟩
    · simp [Value.cells] at hcs
      obtain ⟨rfl, rfl, rfl⟩ := hcs
      exact ⟨[], Nat.zero_le _, strRow_nil W⟩
    · simp [Value.cells] at hcs
      obtain ⟨rfl, rfl, rfl⟩ := hcs
      have hz' : ss.length = cap1 := by simpa using hz
      have hd : d1 = .slice (strs (ss.take len1)) (strs (ss.drop len1)) := congrArg Prod.fst hx
      subst hd
      have hb := sized_strs (j := 1) hsz rfl rfl
      rw [List.take_append_drop] at hb
      exact ⟨ss, Nat.le_trans hl hm, strRow_mk (by omega) hcell hb⟩
  obtain ⟨z2, m2, w2⟩ : ∃ zs, len2 ≤ maxLen ∧ ByteRow W a2 len2 zs := by
    obtain ⟨fuel, hf⟩ := h2
    rcases open_ints Yba.underlying22 Yba.underlying5 (by kernel_rfl) hf with ⟨hcs, _⟩ | ⟨x, l, c, zs, hcs, _, hl, hm, hz, _, hcell, hwz⟩
    · simp [Value.cells] at hcs
      obtain ⟨rfl, rfl, rfl⟩ := hcs
      exact ⟨[], Nat.zero_le _, byteRow_nil W⟩
    · simp [Value.cells] at hcs
      obtain ⟨rfl, rfl, rfl⟩ := hcs
      have hz' : zs.length = cap2 := by simpa using hz
      exact ⟨zs, Nat.le_trans hl hm, byteRow_mk (by omega) hcell hwz⟩
  obtain ⟨z3, m3, w3⟩ : ∃ zs, len3 ≤ maxLen ∧ ByteRow W a3 len3 zs := by
    obtain ⟨fuel, hf⟩ := h3
    rcases open_ints Yba.underlying22 Yba.underlying5 (by kernel_rfl) hf with ⟨hcs, _⟩ | ⟨x, l, c, zs, hcs, _, hl, hm, hz, _, hcell, hwz⟩
    · simp [Value.cells] at hcs
      obtain ⟨rfl, rfl, rfl⟩ := hcs
      exact ⟨[], Nat.zero_le _, byteRow_nil W⟩
    · simp [Value.cells] at hcs
      obtain ⟨rfl, rfl, rfl⟩ := hcs
      have hz' : zs.length = cap3 := by simpa using hz
      exact ⟨zs, Nat.le_trans hl hm, byteRow_mk (by omega) hcell hwz⟩
  clear hA0 hval0
  refine (walk a0 a1 a2 a3 len0 cap0 len1 cap1 len2 cap2 len3 cap3 s0 s1 z2 z3 a4 W m0 m1 m3 m2 w0 w1 w2 w3).mono fun e W' ⟨he, bel⟩ => ?_
  subst he
  exact ⟨_, rfl, _, _, _, [], _, [], hW', trodAll_mk1 (shut_bool Yba.underlying4 _), (trodAll_cons_mk (Below.trod laidOut (by kernel_rfl) (of_decide_eq_true (by kernel_rfl)) k0 bel lt0) (trodAll_cons_mk (Below.trod laidOut (by kernel_rfl) (of_decide_eq_true (by kernel_rfl)) k1 bel lt1) (trodAll_cons_mk (Below.trod laidOut (by kernel_rfl) (of_decide_eq_true (by kernel_rfl)) k2 bel lt2) (trodAll_cons_mk (Below.trod laidOut (by kernel_rfl) (of_decide_eq_true (by kernel_rfl)) k3 bel lt3) (trodAll_cons_mk (shut_int Yba.underlying3 w4) trodAll_mk0))))), rfl, bel.frame _, fun h => by cases h⟩

theorem over : Rows.lawS2881CNearestRow.holds Yba.pinned (OpenSpec.ofChange Rows.lawS2881CNearestSpec) :=
  OpenClaim.holds_of_wide 4 Yba.f4 rfl rfl rfl rfl rfl rfl rfl ⟨rfl, rfl, rfl, rfl, rfl⟩ rfl rfl rfl rfl rfl (by kernel_rfl) Yba.func4 (by kernel_rfl)
    (of_decide_eq_true (by kernel_rfl)) (by unfold Func.isWrapper; first | (rw [if_pos (by decide +kernel)]; kernel_rfl) | (rw [if_neg (by decide +kernel)]; exact ⟨rfl, rfl⟩))
    (fun os started H enc _ => lifted os started H enc)

/-- The statement. -/
theorem proved : Rows.LawS2881CNearestSaid := over
end Go.Proofs.Ybulkbgqi.lawS2881CNearest
