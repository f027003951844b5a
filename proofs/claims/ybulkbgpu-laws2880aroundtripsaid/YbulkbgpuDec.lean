import Derived.Test.YbulkbgpuPay
import Derived.Deep.RegionWith
namespace Go.Proofs.Ybulkbgpu
open Go.RowKit
set_option linter.unusedVariables false

def recV (kind seq dest : Int) (name : ByteArray) : Value := .agg #[.int .u8 kind, .int .i64 seq, .slice none 0 0, .int .i64 dest, .string name, .int .i64 0]

/-- decode at a record that names a destination. -/
theorem dec_name (B fb : Nat) (kind : Int) (p : Value) (l : List UInt8) (w : World) (hk : (kind == 3) = true) (hh : HasBytes B w p l) :
    Calls Yba.prog 8 #[.pointer (some ⟨fb, 0, none⟩), .int .u8 kind, p] w fun e w' =>
      e = .returned (recV kind 0 0 ⟨l.toArray⟩) ∧ Below w.heap.size w w' := by
  obtain ⟨g1, c1, rfl, _, hg, hlc, hc1⟩ := hh
  have k1 := fun o => run_convert_bytes_back (P := Yba.prog) (w.alloc o) 28 9 5 ⟨g1, 0, none⟩ c1 l Yba.underlying28 Yba.underlying5 Yba.underlying9 (fun j hj => by rw [plain_add, World.cell?_alloc_past _ _ _ hg]; simpa using hc1 j hj)
  clear hc1
  go_enter Yba.func8, Yba.ntmps8
  go_wp2
  exact bodyPost_ret (v := recV kind 0 0 ⟨l.toArray⟩) (by simp [results, Yba.results8, go_sem, recV]) rfl ⟨rfl, (Below.refl _ _).alloc (Nat.le_refl _) _⟩

theorem take8 (l : List UInt8) (h : 8 ≤ l.length) : [l[0], l[1], l[2], l[3], l[4], l[5], l[6], l[7]] = l.take 8 := by
  match l, h with
  | _ :: _ :: _ :: _ :: _ :: _ :: _ :: _ :: _, _ => rfl

theorem take4 (l : List UInt8) (h : 4 ≤ l.length) : [l[0], l[1], l[2], l[3]] = l.take 4 := by
  match l, h with
  | _ :: _ :: _ :: _ :: _, _ => rfl

theorem ret_u64 (a b : Nat) (h : a = b) : Ending.returned (.int .u64 (a : Int)) = .returned (.int .u64 (b : Int)) := by rw [h]
theorem ret_u32 (a b : Nat) (h : a = b) : Ending.returned (.int .u32 (a : Int)) = .returned (.int .u32 (b : Int)) := by rw [h]

theorem u64_list (g n c : Nat) (l : List UInt8) (w : World) (hn : 8 ≤ n) (hl : 8 ≤ l.length) (hc : ∀ j (hj : j < l.length), w.cell? ⟨g, 0 + j, none⟩ = some (.int .u8 (l[j].toNat : Int))) :
    Calls Yba.prog 11 #[.agg #[], .slice (some ⟨g, 0, none⟩) n c] w fun e w' => e = .returned (.int .u64 (Lib.leNat (l.take 8))) ∧ Below w.heap.size w w' := by
  refine (Yba.binary_LE_Uint64 g 0 n c l[0] l[1] l[2] l[3] l[4] l[5] l[6] l[7] w hn (hc 0 (by omega)) (hc 1 (by omega)) (hc 2 (by omega)) (hc 3 (by omega)) (hc 4 (by omega)) (hc 5 (by omega)) (hc 6 (by omega)) (hc 7 (by omega))).mono ?_
  rintro e w' ⟨rfl, hb⟩
  exact ⟨ret_u64 _ _ (by rw [take8 l hl]), hb⟩

theorem u32_list (g n c : Nat) (l : List UInt8) (w : World) (hn : 4 ≤ n) (hl : 4 ≤ l.length) (hc : ∀ j (hj : j < l.length), w.cell? ⟨g, 8 + j, none⟩ = some (.int .u8 (l[j].toNat : Int))) :
    Calls Yba.prog 12 #[.agg #[], .slice (some ⟨g, 8, none⟩) n c] w fun e w' => e = .returned (.int .u32 (Lib.leNat (l.take 4))) ∧ Below w.heap.size w w' := by
  refine (Yba.binary_LE_Uint32 g 8 n c l[0] l[1] l[2] l[3] w hn (hc 0 (by omega)) (hc 1 (by omega)) (hc 2 (by omega)) (hc 3 (by omega))).mono ?_
  rintro e w' ⟨rfl, hb⟩
  exact ⟨ret_u32 _ _ (by rw [take4 l hl]), hb⟩

theorem u64_any (g n c v : Nat) (rest : List UInt8) (w : World) (hv : v < 18446744073709551616) (hn : 8 ≤ n) (hc : ∀ j (hj : j < (Lib.leBytes 8 v ++ rest).length), w.cell? ⟨g, j, none⟩ = some (.int .u8 ((Lib.leBytes 8 v ++ rest)[j].toNat : Int))) :
    Calls Yba.prog 11 #[.agg #[], .slice (some ⟨g, 0, none⟩) n c] w fun e w' => e = .returned (.int .u64 v) ∧ Below w.heap.size w w' := by
  have h8 := Lib.leBytes_length 8 v
  have e8 : Lib.leNat ((Lib.leBytes 8 v ++ rest).take 8) = v := by
    rw [List.take_append_of_le_length (by omega), List.take_of_length_le (by omega)]; exact Lib.leNat_leBytes 8 v hv
  refine (u64_list g n c (Lib.leBytes 8 v ++ rest) w hn (by rw [List.length_append]; omega) (fun j hj => by rw [Nat.zero_add]; exact hc j hj)).mono ?_
  rintro e w' ⟨rfl, hb⟩
  exact ⟨ret_u64 _ _ e8, hb⟩

theorem u32_any (g n c v : Nat) (pre : List UInt8) (w : World) (hp : pre.length = 8) (hv : v < 4294967296) (hn : 4 ≤ n) (hc : ∀ j (hj : j < (pre ++ Lib.leBytes 4 v).length), w.cell? ⟨g, j, none⟩ = some (.int .u8 ((pre ++ Lib.leBytes 4 v)[j].toNat : Int))) :
    Calls Yba.prog 12 #[.agg #[], .slice (some ⟨g, 8, none⟩) n c] w fun e w' => e = .returned (.int .u32 v) ∧ Below w.heap.size w w' := by
  have h4 := Lib.leBytes_length 4 v
  have e4 : Lib.leNat ((Lib.leBytes 4 v).take 4) = v := by
    rw [List.take_of_length_le (by omega)]; exact Lib.leNat_leBytes 4 v hv
  refine (u32_list g n c (Lib.leBytes 4 v) w hn (by omega) (fun j hj => ?_)).mono ?_
  · rw [hc (8 + j) (by rw [List.length_append]; omega)]
    congr 3
    rw [List.getElem_append_right (by omega)]
    simp [hp]
  · rintro e w' ⟨rfl, hb⟩
    exact ⟨ret_u32 _ _ e4, hb⟩

theorem two_new (w w1 : World) (x0 x1 x2 x3 x4 x5 y0 y1 y2 y3 y4 y5 : Value) (hb : Below (w.heap.size + 2) ((w.alloc (.cells #[x0, x1, x2, x3, x4, x5] 30)).alloc (.cells #[y0, y1, y2, y3, y4, y5] 30)) w1) :
    (w1.cell? ⟨w.heap.size, 0, none⟩ = some x0 ∧ w1.cell? ⟨w.heap.size, 1, none⟩ = some x1 ∧ w1.cell? ⟨w.heap.size, 2, none⟩ = some x2 ∧ w1.cell? ⟨w.heap.size, 3, none⟩ = some x3 ∧ w1.cell? ⟨w.heap.size, 4, none⟩ = some x4 ∧ w1.cell? ⟨w.heap.size, 5, none⟩ = some x5) ∧
    (w1.cell? ⟨w.heap.size + 1, 0, none⟩ = some y0 ∧ w1.cell? ⟨w.heap.size + 1, 1, none⟩ = some y1 ∧ w1.cell? ⟨w.heap.size + 1, 2, none⟩ = some y2 ∧ w1.cell? ⟨w.heap.size + 1, 3, none⟩ = some y3 ∧ w1.cell? ⟨w.heap.size + 1, 4, none⟩ = some y4 ∧ w1.cell? ⟨w.heap.size + 1, 5, none⟩ = some y5) ∧
    (∀ o, w1.frozen? ⟨w.heap.size, o, none⟩ = false) ∧ (∀ o, w1.frozen? ⟨w.heap.size + 1, o, none⟩ = false) := by
  have c := fun b o (h : b < w.heap.size + 2) => hb.cell (p := ⟨b, o, none⟩) h
  have f := fun b o (h : b < w.heap.size + 2) => hb.frozen (p := ⟨b, o, none⟩) h
  refine ⟨⟨?_, ?_, ?_, ?_, ?_, ?_⟩, ⟨?_, ?_, ?_, ?_, ?_, ?_⟩, fun o => ?_, fun o => ?_⟩
  iterate 6 rw [c _ _ (by omega), World.cell?_alloc_past _ _ _ (by simp), World.cell?_alloc_at _ _ _ _ rfl]; rfl
  iterate 6 rw [c _ _ (by omega), World.cell?_alloc_at _ _ _ _ (by simp)]; rfl
  · rw [f _ _ (by omega), frozen?_alloc_cells]; exact World.frozen?_alloc_at _ _ _ _ rfl
  · rw [f _ _ (by omega)]; exact World.frozen?_alloc_at _ _ _ _ (by simp)

set_option maxHeartbeats 400000 in
theorem dec_one (B fb v : Nat) (kind version : Int) (p : Value) (w : World) (hv : v < 18446744073709551616) (hk : (kind == 3) = false) (h1 : (version == 1) = true)
    (hfb : fb < w.heap.size) (hver : w.cell? ⟨fb, 0, none⟩ = some (.int .i64 version)) (hh : HasBytes B w p (Lib.leBytes 8 v)) :
    Calls Yba.prog 8 #[.pointer (some ⟨fb, 0, none⟩), .int .u8 kind, p] w fun e w' =>
      e = .returned (recV kind (wrap64 v) 0 { data := #[] }) ∧ Below w.heap.size w w' := by
  obtain ⟨g1, c1, rfl, _, hg, hlc, hc1⟩ := hh
  have hver1 : ∀ o1 o2, ((w.alloc o1).alloc o2).cell? ⟨fb, 0, none⟩ = some (.int .i64 version) := fun o1 o2 => by
    rw [World.cell?_alloc_past _ _ _ (by simp; omega), World.cell?_alloc_past _ _ _ hfb]; exact hver
  have hu := fun o1 o2 => u64_any g1 8 c1 v [] ((w.alloc o1).alloc o2) hv (by omega) (fun j hj => by
    rw [World.cell?_alloc_past _ _ _ (by simp; omega), World.cell?_alloc_past _ _ _ hg]; simpa using hc1 j (by simpa using hj))
  have HU : Hid _ := hu
  clear hc1 hu hver
  rw [Lib.leBytes_length]
  go_enter Yba.func8, Yba.ntmps8
  go_wp2_with fail
  refine (HU.out _ _).mono ?_
  rintro e w1 ⟨rfl, hb⟩
  have hb' := hb
  simp only [World.size_alloc] at hb'
  obtain ⟨⟨x0, x1, x2, x3, x4, x5⟩, ⟨y0, y1, y2, y3, y4, y5⟩, fx, fy⟩ := two_new w w1 _ _ _ _ _ _ _ _ _ _ _ _ hb'
  have hz := hb'.size
  simp only [World.size_alloc] at hz
  have hbb : Below w.heap.size w w1 := (((Below.refl _ _).alloc (Nat.le_refl _) _).alloc (by simp) _).trans (hb'.mono (by omega))
  clear hb hb' HU hver1
  go_wp2
  refine bodyPost_ret (v := recV kind (wrap64 v) 0 { data := #[] }) ?_ rfl ?_
  · simp [results, Yba.results8, go_sem, recV, x0, x1, x2, x3, x4, x5]
  · refine ⟨rfl, ?_⟩
    iterate 8 refine Below.setCell ?_ (by first | exact Nat.le_refl _ | exact Nat.le_succ _) _
    exact hbb

end Go.Proofs.Ybulkbgpu
