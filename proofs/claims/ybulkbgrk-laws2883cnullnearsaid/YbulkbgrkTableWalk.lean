import Derived.Test.YbulkbgrkForm
namespace Go.Proofs.Ybulkbgrk
open Go.RowKit
set_option linter.unusedVariables false

theorem info5 : (Yba.prog.info? 5).map (fun i => (i.zero, i.size, i.bytes)) = some (some (.int .u8 0), 1, 1) := by kernel_rfl
theorem size5 : (Yba.prog.info? 5).map (·.size) = some 1 := by kernel_rfl

theorem make_bytes (l c : Nat) (hl : l ≤ c) (hc : c ≤ 5000) (w : World) :
    (Instr.makeSlice 37 (.int .i64 (l : Int)) (.int .i64 (c : Int))).run Yba.prog w = .ok (.slice (some ⟨w.heap.size, 0, none⟩) l c) (w.alloc (.cells (madeCells #[.int .u8 0] c) 5)) := by
  obtain ⟨i0, hi, hz0, hz1, hz2⟩ := info_parts info5
  have h := run_make (P := Yba.prog) (w := w) 37 5 i0 _ Yba.underlying37 hi hz0 .i64 .i64 (l : Int) (c : Int) (by omega) (by omega) (by rw [hz2]; omega) (by omega)
  rw [h, hz1]
  simp only [Nat.mul_one, Int.toNat_natCast]
  rfl

/-- what the copy lays. -/
def byteVals (zs : List Int) (n : Nat) : List Value := (zs.take n).map (Value.int .u8)

theorem byteVals_length (zs : List Int) (n : Nat) (h : n ≤ zs.length) : (byteVals zs n).length = n := by simp [byteVals]; omega

theorem byteVals_get (zs : List Int) (n j : Nat) (h : n ≤ zs.length) (hj : j < n) : (byteVals zs n)[j]? = some (.int .u8 (zs.getD j 0)) := by
  have : j < zs.length := by omega
  simp [byteVals, hj, List.getD, this]

theorem setCells_below {B g : Nat} (hg : B ≤ g) : ∀ (vs : List Value) (o : Nat) (w : World), Below B w (w.setCells g o vs)
  | [], _, w => Below.refl _ _
  | v :: r, o, w => ((Below.refl B w).setCell (p := ⟨g, o, none⟩) hg v).trans (setCells_below hg r (o + 1) _)

theorem copy_in (b off n cap : Nat) (zs : List Int) (w : World) (hzl : n ≤ zs.length) (hb : b < w.heap.size) (hc : ∀ j, j < n → w.cell? ⟨b, off + j, none⟩ = some (.int .u8 (zs.getD j 0))) :
    ∃ wc, (∀ ty, (Builtin.copy_ #[37, 37] ty #[.slice (some ⟨w.heap.size, 0, none⟩) n n, .slice (some ⟨b, off, none⟩) n cap]).run Yba.prog (w.alloc (.cells (madeCells #[.int .u8 0] n) 5)) = .ok (.int .i64 (n : Int)) wc) ∧
      Below w.heap.size w wc ∧ ∀ j, j < n → wc.cell? ⟨w.heap.size, j, none⟩ = some (.int .u8 (zs.getD j 0)) := by
  have hlen := byteVals_length zs n hzl
  have hhere : ∀ j, j < (byteVals zs n).length → ((w.alloc (.cells (madeCells #[.int .u8 0] n) 5)).cell? ⟨w.heap.size, 0 + j, none⟩).isSome = true := fun j hj => by
    rw [World.cell?_alloc_at _ _ _ _ rfl]
    simp [size_madeCells]; omega
  refine ⟨(w.alloc (.cells (madeCells #[.int .u8 0] n) 5)).setCells w.heap.size 0 (byteVals zs n), fun ty => ?_, ?_, fun j hj => ?_⟩
  · have h := run_copy_cells (P := Yba.prog) (w.alloc (.cells (madeCells #[.int .u8 0] n) 5)) 37 37 ty 5 w.heap.size 0 n n ⟨b, off, none⟩ n cap (byteVals zs n) Yba.underlying37 size5 (by rw [hlen]; simp)
      (fun j v hv => by
        have hj : j < n := by have := (List.getElem?_eq_some_iff.1 hv).1; omega
        rw [byteVals_get zs n j hzl hj] at hv
        rw [Go.WideShapes.add_plain, World.cell?_alloc_past _ _ _ hb, hc j hj]; exact hv)
      hhere (fun j hj => World.frozen?_alloc_at _ _ _ _ rfl)
      (fun v hv => by simp only [byteVals, List.mem_map] at hv; obtain ⟨x, _, rfl⟩ := hv; rfl)
    rw [h, hlen]
    rfl
  · exact ((Below.refl _ _).alloc (Nat.le_refl _) _).trans (setCells_below (Nat.le_refl _) _ _ _)
  · have h := World.cell?_setCells_in w.heap.size (byteVals zs n) 0 _ hhere j (by omega)
    rw [Nat.zero_add] at h
    rw [h]
    have := byteVals_get zs n j hzl hj
    rw [List.getElem?_eq_getElem (by omega)] at this
    exact this


set_option maxHeartbeats 1000000 in
theorem table_plain (b off n cap : Nat) (zs : List Int) (w : World) (hn0 : 0 < n) (hn : n ≤ 4096) (hzl : n ≤ zs.length) (hb : b < w.heap.size) (hc : ∀ j, j < n → w.cell? ⟨b, off + j, none⟩ = some (.int .u8 (zs.getD j 0)))
    (hs : ((strOfNums (List.take n zs)).toList == [92, 78]) = false)
    (hform : ∀ wx : World, (∀ j, j < n → wx.cell? ⟨b, off + j, none⟩ = some (.int .u8 (zs.getD j 0))) → Calls Yba.prog 8 #[.slice (some ⟨b, off, none⟩) n cap] wx fun e w' => e = .returned (.int .u8 0) ∧ w' = wx) :
    Calls Yba.prog 5 #[.slice (some ⟨b, off, none⟩) n cap] w fun e w' => e = .returned (.bool true) ∧ Below w.heap.size w w' := by
  have hmk := make_bytes n n (Nat.le_refl _) (by omega)
  obtain ⟨wc, hcopy, hbl, hcp⟩ := copy_in b off n cap zs w hzl hb hc
  have hca : ∀ j, j < n → wc.cell? ⟨b, off + j, none⟩ = some (.int .u8 (zs.getD j 0)) := fun j hj => (hbl.cell (p := ⟨b, off + j, none⟩) hb).trans (hc j hj)
  have hz0 : ((n : Int) == 0) = false := by simp; omega
  have hcv := run_convert_bytes_arg (P := Yba.prog) wc 37 5 Yba.underlying37 Yba.underlying5 b off n cap (zs.take n) (by simp; omega) (fun j hj => by rw [hca j hj]; simp [List.getD, hj]) 9 Yba.underlying9
  have HF := hideIt (hform wc hca)
  have HCA := hideIt hca
  have HCP := hideIt hcp
  clear hform hca hcp
  go_enter Yba.func5, Yba.ntmps5
  go_wp2_with fail
  refine HF.out.mono ?_
  rintro e w1 ⟨rfl, rfl⟩
  go_wp2
  clear hcopy hcv
  go_loopw [6] (fun i wx => ∃ j : Nat, j ≤ n ∧ i = .int .i64 j ∧ (∀ j, j < n → wx.cell? ⟨b, off + j, none⟩ = some (.int .u8 (zs.getD j 0))) ∧ (∀ j, j < n → wx.cell? ⟨w.heap.size, j, none⟩ = some (.int .u8 (zs.getD j 0))) ∧ Below w.heap.size w wx) (fun i _ => n - (intOf i).toNat)
  case atStart => exact ⟨0, by omega, rfl, HCA.out, HCP.out, hbl⟩
  case round =>
    clear HCA HCP hbl
    obtain ⟨j, hj, rfl, hca, hcp, hbl⟩ := hrel
    by_cases hlt : j < n
    · have q1 := hca j hlt
      have q2 := hcp j hlt
      have hlt' : (j : Int) < (n : Int) := by omega
      have HCA := hideIt hca
      have HCP := hideIt hcp
      clear hca hcp
      go_wp2
      go_quiet (fail)
      go_wp2
      go_roundw
      case rel => exact ⟨j + 1, by omega, by go_num, HCA.out, HCP.out, below_drewN hbl _⟩
      case measure => simp [intOf]; omega
    · clear hca hcp
      go_wp2
      go_ret
      exact ⟨rfl, hbl⟩

set_option maxHeartbeats 1000000 in
theorem table_null (b off n cap : Nat) (zs : List Int) (w : World) (hn0 : 0 < n) (hn : n ≤ 4096) (hzl : n ≤ zs.length) (hb : b < w.heap.size) (hc : ∀ j, j < n → w.cell? ⟨b, off + j, none⟩ = some (.int .u8 (zs.getD j 0)))
    (hs : ((strOfNums (List.take n zs)).toList == [92, 78]) = true)
    (hform : ∀ wx : World, (∀ j, j < n → wx.cell? ⟨b, off + j, none⟩ = some (.int .u8 (zs.getD j 0))) → Calls Yba.prog 8 #[.slice (some ⟨b, off, none⟩) n cap] wx fun e w' => e = .returned (.int .u8 1) ∧ w' = wx) :
    Calls Yba.prog 5 #[.slice (some ⟨b, off, none⟩) n cap] w fun e w' => e = .returned (.bool true) ∧ Below w.heap.size w w' := by
  have hmk := make_bytes n n (Nat.le_refl _) (by omega)
  obtain ⟨wc, hcopy, hbl, hcp⟩ := copy_in b off n cap zs w hzl hb hc
  have hca : ∀ j, j < n → wc.cell? ⟨b, off + j, none⟩ = some (.int .u8 (zs.getD j 0)) := fun j hj => (hbl.cell (p := ⟨b, off + j, none⟩) hb).trans (hc j hj)
  have hz0 : ((n : Int) == 0) = false := by simp; omega
  have hcv := run_convert_bytes_arg (P := Yba.prog) wc 37 5 Yba.underlying37 Yba.underlying5 b off n cap (zs.take n) (by simp; omega) (fun j hj => by rw [hca j hj]; simp [List.getD, hj]) 9 Yba.underlying9
  have HF := hideIt (hform wc hca)
  have HCA := hideIt hca
  have HCP := hideIt hcp
  clear hform hca hcp
  go_enter Yba.func5, Yba.ntmps5
  go_wp2_with fail
  refine HF.out.mono ?_
  rintro e w1 ⟨rfl, rfl⟩
  go_wp2
  clear hcopy hcv
  go_loopw [6] (fun i wx => ∃ j : Nat, j ≤ n ∧ i = .int .i64 j ∧ (∀ j, j < n → wx.cell? ⟨b, off + j, none⟩ = some (.int .u8 (zs.getD j 0))) ∧ (∀ j, j < n → wx.cell? ⟨w.heap.size, j, none⟩ = some (.int .u8 (zs.getD j 0))) ∧ Below w.heap.size w wx) (fun i _ => n - (intOf i).toNat)
  case atStart => exact ⟨0, by omega, rfl, HCA.out, HCP.out, hbl⟩
  case round =>
    clear HCA HCP hbl
    obtain ⟨j, hj, rfl, hca, hcp, hbl⟩ := hrel
    by_cases hlt : j < n
    · have q1 := hca j hlt
      have q2 := hcp j hlt
      have hlt' : (j : Int) < (n : Int) := by omega
      have HCA := hideIt hca
      have HCP := hideIt hcp
      clear hca hcp
      go_wp2
      go_quiet (fail)
      go_wp2
      go_roundw
      case rel => exact ⟨j + 1, by omega, by go_num, HCA.out, HCP.out, below_drewN hbl _⟩
      case measure => simp [intOf]; omega
    · clear hca hcp
      go_wp2
      go_ret
      exact ⟨rfl, hbl⟩

theorem table_none (a : Option Addr) (cap : Nat) (w : World) :
    Calls Yba.prog 5 #[.slice a 0 cap] w fun e w' => e = .returned (.bool true) ∧ Below w.heap.size w w' := by
  have hmk : ∀ w, (Instr.makeSlice 37 (.int .i64 0) (.int .i64 0)).run Yba.prog w = .ok (.slice (some ⟨w.heap.size, 0, none⟩) 0 0) (w.alloc (.cells (madeCells #[.int .u8 0] 0) 5)) := make_bytes 0 0 (Nat.le_refl _) (by omega)
  have hcopy : ∀ ty d wx, (Builtin.copy_ #[37, 37] ty #[.slice d 0 0, .slice a 0 cap]).run Yba.prog wx = .ok (goInt 0) wx := fun ty d wx => run_copy_none (P := Yba.prog) wx 37 37 ty 5 d a 0 0 0 cap Yba.underlying37 size5 rfl
  go_enter Yba.func5, Yba.ntmps5
  go_wp2_with fail
  refine (form_zero _ _ _).mono ?_
  rintro e w1 ⟨rfl, rfl⟩
  go_wp2
  refine wp_loop_rounds 1 ?_
  rw [rounds_succ]
  go_wp2
  go_ret
  exact ⟨rfl, (Below.refl _ _).alloc (Nat.le_refl _) _⟩

theorem table_long (a : Option Addr) (n cap : Nat) (w : World) (hn : 4096 < n) (hm : n ≤ maxLen) :
    Calls Yba.prog 5 #[.slice a n cap] w fun e w' => e = .returned (.bool true) ∧ Below w.heap.size w w' := by
  unfold maxLen at hm
  go_enter Yba.func5, Yba.ntmps5
  go_wp2
  go_ret
  exact ⟨rfl, Below.refl _ _⟩

theorem str_other (zs : List Int) (n : Nat) (h : n ≤ zs.length) (h2 : n ≠ 2) : ((strOfNums (List.take n zs)).toList == [92, 78]) = false := by
  rw [ByteArray.toList_eq, strOfNums_data]
  simp only [beq_eq_false_iff_ne, ne_eq]
  intro e
  have := congrArg List.length e
  simp at this
  omega

theorem byte_eq (x : Int) (c : Nat) (hc : c ≤ 255) (h0 : 0 ≤ x) (h1 : x ≤ 255) : (UInt8.ofNat x.toNat == UInt8.ofNat c) = (x == (c : Int)) := by
  rw [Bool.eq_iff_iff, beq_iff_eq, beq_iff_eq, ← UInt8.toNat_inj, UInt8.toNat_ofNat', UInt8.toNat_ofNat']
  omega

theorem str_two (zs : List Int) (h : 2 ≤ zs.length) (h0 : 0 ≤ zs.getD 0 0) (h1 : zs.getD 0 0 ≤ 255) (h2 : 0 ≤ zs.getD 1 0) (h3 : zs.getD 1 0 ≤ 255) :
    ((strOfNums (List.take 2 zs)).toList == [92, 78]) = (zs.getD 0 0 == 92 && zs.getD 1 0 == 78) := by
  rw [ByteArray.toList_eq, strOfNums_data]
  match zs, h with
  | x :: y :: r, _ =>
    simp only [List.getD_cons_zero, List.getD_cons_succ] at h0 h1 h2 h3 ⊢
    have e0 := byte_eq x 92 (by omega) h0 h1
    have e1 := byte_eq y 78 (by omega) h2 h3
    show ((UInt8.ofNat x.toNat == 92) && ((UInt8.ofNat y.toNat == 78) && true)) = _
    rw [Bool.and_true]
    exact congr (congrArg and e0) e1

end Go.Proofs.Ybulkbgrk
