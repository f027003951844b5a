import Derived.Test.YbulkbgqiRem2
import Derived.Lib.AppendZerosOnto
import Derived.Maps.AppendAt
namespace Go.Proofs.Ybulkbgqi
open Go.RowKit
set_option linter.unusedVariables false
set_option linter.unusedSimpArgs false

theorem info33 : (Yba.prog.info? 33).map (fun i => (i.zero, i.size, i.bytes)) = some (some (.int .u64 0), 1, 8) := by kernel_rfl
theorem info67 : (Yba.prog.info? 67).map (fun i => (i.zero, i.size, i.bytes)) = some (some (.slice none 0 0), 1, 24) := by kernel_rfl

theorem zeroCells_one (k : Nat) : (Builtin.zeroCells (Value.int .u64 0).cells k).toList = List.replicate k (.int .u64 0) := by
  apply List.ext_getElem
  · simp [Builtin.zeroCells, Value.cells]
  · intro n h1 h2
    simp [Builtin.zeroCells, Value.cells, Nat.mod_one]

/-- 'append(words, make([]uint64, k)...)' on a row of the call's own. -/
theorem run_zeros (w : World) (ty : TypeId) (g n cap k : Nat) (xs : List Value) (hown : Own w 33 g n cap xs) (hk : 0 < k) (hnk : n + k ≤ 1000) (hcap : n ≤ cap) :
    ∃ g' c' w', (Builtin.append_ #[67, 3] ty #[.slice (some ⟨g, 0, none⟩) n cap, .int .i64 (k : Int)]).run Yba.prog w = .ok (.slice (some ⟨g', 0, none⟩) (n + k) c') w' ∧
      Own w' 33 g' (n + k) c' (xs ++ List.replicate k (.int .u64 0)) ∧ w.grownBy w' (some g) ∧ (g' = g ∨ g' = w.heap.size) := by
  obtain ⟨i0, hi, hz0, hz1, hz2⟩ := info_parts info33
  have hlen : (xs ++ List.replicate k (Value.int .u64 0)).length = (n + k) * 1 := by
    have := hown.1
    simp at this ⊢; omega
  have hw64 : IntKind.i64.wrap (k : Int) = k := by rw [IntKind.wrap_i64]; omega
  have hneg : ¬ ((k : Int) < 0) := by omega
  have h48i : ¬ (281474976710656 < (k : Int) * (i0.bytes : Int)) := by rw [hz2]; omega
  have hns : ¬ (k * i0.size = 0) := by rw [hz1]; omega
  have hown' := hown
  obtain ⟨h1, ⟨h2, _⟩ | ⟨gg, cp, cur, hs, hg, hh, h3, h4, h5, h6⟩⟩ := hown
  · cases h2
  have e1 : gg = g ∧ cp = cap := by injection hs with a b c; injection a with a; injection a with a; exact ⟨a.symm, c.symm⟩
  obtain ⟨rfl, rfl⟩ := e1
  by_cases hroom : n + k ≤ cp
  · have hst := run_storeCells_at (P := Yba.prog) gg (n * 1) 33 (List.replicate k (Value.int .u64 0)) 0 cur w hh (by simp; omega) (by intro u hu; rw [List.eq_of_mem_replicate hu]; rfl)
    simp only [Nat.add_zero] at hst
    refine ⟨gg, cp, w.setRow gg (cur.toList.take (n * 1) ++ List.replicate k (Value.int .u64 0) ++ cur.toList.drop (n * 1 + (List.replicate k (Value.int .u64 0)).length)).toArray, ?_, ?_, ?_, .inl rfl⟩
    · have hzl := zeroCells_one k
      have hs1 : (List.replicate k (Value.int .u64 0)).length = k := by simp
      have hk1 : ¬ (k = 0) := by omega
      simp [Builtin.append_, run_underlying Yba.underlying67, run_underlying Yba.underlying3, sizeOf, typeInfo, zeroValue, hi, hz0, hz1, hz2, asInt, asIntOf, hw64, hneg, hk1, hroom, Addr.add_lit, hzl]
      rw [if_neg (by omega)]
      simp only [Nat.mul_one] at hst
      rw [hst]
      simp
    · refine ⟨hlen, .inr ⟨gg, cp, _, rfl, Nat.zero_le _, setRow_heap w gg cur _ 33 _ hh, hroom, h4, ?_, ?_⟩⟩
      · simp; omega
      · have h6' : cur.toList.take (n * 1) = xs := h6
        rw [h6', ← hlen, List.append_assoc, ← List.append_assoc]
        exact List.take_left
    · exact ⟨rfl, rfl, rfl, by simp, fun j _ hj => setRow_other w gg j _ (fun e => hj (by rw [e]))⟩
  · have hr := Lib.run_append_grow_zeros (P := Yba.prog) w 67 3 ty 33 i0 (.int .u64 0) .i64 .i64 Yba.underlying67 Yba.underlying3 hi hz0 (some ⟨gg, 0, none⟩) n cp xs
      (run_firstCells_some (P := Yba.prog) w.drew i0.size n ⟨gg, 0, none⟩ n cp xs (by rw [hz1]; exact h1) (fun j v hv => by rw [Go.WideShapes.add_plain]; simpa using Own.get hown' j v hv))
      k hk (by rw [hz1]; omega) (by omega) (by omega) (by rw [hz2]; omega) (growslice_fits (by omega) (by rw [hz2]; omega))
    refine ⟨w.heap.size, _, _, hr, ?_, ?_, .inr rfl⟩
    · have hge := grownCap_ge w (n + k) cp 33
      have hcm := grownCap_le_maxLen w (n + k) cp 33 (by unfold maxLen; omega)
      refine ⟨hlen, .inr ⟨w.heap.size, _, _, rfl, Nat.zero_le _, heap_alloc_new w.drew _, hge, hcm, ?_, ?_⟩⟩
      · simp only [Array.size_append, List.size_toArray, size_zeroCells]
        have : (Value.int IntKind.u64 0).cells.size = 1 := rfl
        rw [this]
        have := h1
        omega
      · simp only [Array.toList_append, zeroCells_one, List.append_assoc]
        rw [← List.append_assoc, ← hlen]
        exact List.take_left
    · exact ⟨rfl, rfl, rfl, by simp, fun j hj _ => heap_alloc_old w.drew _ hj⟩

end Go.Proofs.Ybulkbgqi
