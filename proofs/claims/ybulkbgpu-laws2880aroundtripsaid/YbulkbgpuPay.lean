import Derived.Test.YbulkbgpuLe
import Derived.Lib.ConvBytes
import Derived.Laws.IdiomStrings
namespace Go.Proofs.Ybulkbgpu
open Go.RowKit
set_option linter.unusedVariables false

/-- A slice value of bytes that lies in a block from B on and holds l. -/
def HasBytes (B : Nat) (w : World) (v : Value) (l : List UInt8) : Prop :=
  ∃ g cap, v = .slice (some ⟨g, 0, none⟩) l.length cap ∧ B ≤ g ∧ g < w.heap.size ∧ l.length ≤ cap ∧ ∀ j (hj : j < l.length), w.cell? ⟨g, j, none⟩ = some (.int .u8 (l[j].toNat : Int))

theorem HasBytes.below {B : Nat} {w w' : World} {v : Value} {l : List UInt8} (h : HasBytes B w v l) (hb : Below w.heap.size w w') : HasBytes B w' v l := by
  obtain ⟨g, cap, hv, hB, hg, hlc, hc⟩ := h
  exact ⟨g, cap, hv, hB, Nat.lt_of_lt_of_le hg hb.size, hlc, fun j hj => (hb.cell (p := ⟨g, j, none⟩) hg).trans (hc j hj)⟩

theorem HasBytes.base {B B' : Nat} {w : World} {v : Value} {l : List UInt8} (h : HasBytes B w v l) (hb : B' ≤ B) : HasBytes B' w v l := by
  obtain ⟨g, cap, hv, hB, hg, hlc, hc⟩ := h
  exact ⟨g, cap, hv, by omega, hg, hlc, hc⟩

theorem has_of_owns {B : Nat} {w : World} {v : Value} {n : Nat} {l : List UInt8} (h : w.ownsRow B 5 1 v n (Lib.byteCells l)) (hn : 0 < n) : HasBytes B w v l := by
  obtain ⟨hl, h | ⟨g, cap, cur, hv, hB, hh, hc, hm, hs, ht⟩⟩ := h
  · omega
  · have hln : l.length = n := by simpa [Lib.byteCells] using hl
    refine ⟨g, cap, by rw [hln]; exact hv, hB, ?_, by omega, ?_⟩
    · exact (Array.getElem?_eq_some_iff.1 hh).1
    · intro j hj
      have e1 : (cur.toList.take (n * 1))[j]? = cur[j]? := by
        rw [List.getElem?_take, if_pos (by omega)]; simp
      rw [ht] at e1
      have e2 : (Lib.byteCells l)[j]? = some (.int .u8 (l[j].toNat : Int)) := by simp [Lib.byteCells, hj]
      rw [e2] at e1
      simp [World.cell?, hh, ← e1]

theorem has_of_string (w : World) (s : ByteArray) : HasBytes w.heap.size (Lib.bytesWorld w 5 s) (.slice (some ⟨w.heap.size, 0, none⟩) s.size (grownCap w s.size 0 5)) s.data.toList := by
  refine ⟨w.heap.size, grownCap w s.size 0 5, by simp, Nat.le_refl _, by rw [Lib.bytesWorld_size]; omega, by simpa using grownCap_ge w s.size 0 5, ?_⟩
  intro j hj
  have hj' : j < s.size := by simpa using hj
  rw [Lib.bytesWorld_cell w 5 s j hj']
  simp [List.getD, hj']

theorem below_bytes (w : World) (s : ByteArray) : Below w.heap.size w (Lib.bytesWorld w 5 s) :=
  ⟨rfl, rfl, rfl, by rw [Lib.bytesWorld_size]; omega, fun k hk => Lib.bytesWorld_at_old w 5 s k hk⟩

theorem plain_add (b o j : Nat) : (⟨b, o, none⟩ : Addr).add j = ⟨b, o + j, none⟩ := by
  simp only [Addr.add]; split <;> simp_all

/-- bytes.Equal of two slices that hold the same bytes. -/
theorem equal_same (B B' : Nat) (v1 v2 : Value) (l : List UInt8) (w : World) (h1 : HasBytes B w v1 l) (h2 : HasBytes B' w v2 l) :
    Calls Yba.prog 7 #[v1, v2] w fun e w' => e = .returned (.bool true) ∧ w' = w := by
  obtain ⟨g1, c1, rfl, _, _, _, hc1⟩ := h1
  obtain ⟨g2, c2, rfl, _, _, _, hc2⟩ := h2
  have k1 := run_convert_bytes_back (P := Yba.prog) w 28 9 5 ⟨g1, 0, none⟩ c1 l Yba.underlying28 Yba.underlying5 Yba.underlying9 (fun j hj => by rw [plain_add]; simpa using hc1 j hj)
  have k2 := run_convert_bytes_back (P := Yba.prog) w 28 9 5 ⟨g2, 0, none⟩ c2 l Yba.underlying28 Yba.underlying5 Yba.underlying9 (fun j hj => by rw [plain_add]; simpa using hc2 j hj)
  clear hc1 hc2
  go_enter Yba.func7, Yba.ntmps7
  go_wp2
  go_ret
  exact ⟨by simp, rfl⟩

theorem name_end (w : World) (o : Obj) (s : ByteArray) : HasBytes w.heap.size (Lib.bytesWorld (w.alloc o) 5 s) (.slice (some ⟨(w.alloc o).heap.size, 0, none⟩) s.size (grownCap (w.alloc o) s.size 0 5)) s.data.toList ∧ Below w.heap.size w (Lib.bytesWorld (w.alloc o) 5 s) :=
  ⟨(has_of_string (w.alloc o) s).base (by simp), ((Below.refl _ _).alloc (Nat.le_refl _) _).trans ((below_bytes (w.alloc o) s).mono (by simp))⟩

/-- payload at a record about a new destination: the name's bytes. -/
theorem pay_name (fb : Nat) (version kind seq dest lost : Int) (name : ByteArray) (m0 : Value) (w : World) (hk : (kind == 3) = true) :
    Calls Yba.prog 5 #[.pointer (some ⟨fb, 0, none⟩), .agg #[.int .u8 kind, .int .i64 seq, m0, .int .i64 dest, .string name, .int .i64 lost]] w fun e w' =>
      ∃ v', e = .returned v' ∧ HasBytes w.heap.size w' v' name.data.toList ∧ Below w.heap.size w w' := by
  have hcv := fun wx => Lib.run_convert_string_bytes (P := Yba.prog) wx 9 28 5 name Yba.underlying9 Yba.underlying28 Yba.underlying5
  go_enter Yba.func5, Yba.ntmps5
  go_wp2
  go_ret
  have he := name_end w (.cells #[.int .u8 kind, .int .i64 seq, m0, .int .i64 dest, .string name, .int .i64 lost] 30) name
  rw [World.size_alloc] at he
  exact ⟨_, rfl, he.1, he.2⟩

theorem ver_below {W w1 : World} {B : Nat} (hb : Below B W w1) : ∀ b o, b < B → w1.cell? ⟨b, o, none⟩ = W.cell? ⟨b, o, none⟩ :=
  fun b o h => hb.cell (p := ⟨b, o, none⟩) h

theorem pay_one (fb : Nat) (version kind seq dest lost : Int) (v : Nat) (name : ByteArray) (m0 : Value) (w : World) (hk : (kind == 3) = false) (hv : IntKind.u64.wrap seq = v) (hvlt : v < 18446744073709551616)
    (hfb : fb < w.heap.size) (hver : w.cell? ⟨fb, 0, none⟩ = some (.int .i64 version)) (h1 : (version == 1) = true) :
    Calls Yba.prog 5 #[.pointer (some ⟨fb, 0, none⟩), .agg #[.int .u8 kind, .int .i64 seq, m0, .int .i64 dest, .string name, .int .i64 lost]] w fun e w' =>
      ∃ v', e = .returned v' ∧ HasBytes w.heap.size w' v' (Lib.leBytes 8 v) ∧ Below w.heap.size w w' := by
  go_enter Yba.func5, Yba.ntmps5
  go_wp2_with fail
  refine (Yba.binary_LE_AppendUint64 (w.heap.size + 1) 0 v hvlt _ [] _ (World.ownsRow_nil _ _ _ _) (by simp) (by omega)).mono ?_
  rintro e w1 ⟨s1, rfl, hown, hb⟩
  have hver1 : w1.cell? ⟨fb, 0, none⟩ = some (.int .i64 version) := by
    rw [hb.cell (p := ⟨fb, 0, none⟩) (by show fb < _; omega), World.cell?_alloc_past _ _ _ hfb]; exact hver
  go_wp2
  go_ret
  exact ⟨_, rfl, (has_of_owns (l := Lib.leBytes 8 v) hown (by omega)).base (Nat.le_succ _), ((Below.refl _ _).alloc (Nat.le_refl _) _).trans (hb.mono (by simp))⟩

theorem byteCells_append (a b : List UInt8) : Lib.byteCells a ++ Lib.byteCells b = Lib.byteCells (a ++ b) := by simp [Lib.byteCells]

theorem pay_two (fb : Nat) (version kind seq dest lost : Int) (v d : Nat) (name : ByteArray) (m0 : Value) (w : World) (hk : (kind == 3) = false) (hv : IntKind.u64.wrap seq = v) (hvlt : v < 18446744073709551616)
    (hd : IntKind.u32.wrap (wrap64 (dest + 1)) = d) (hdlt : d < 4294967296)
    (hfb : fb < w.heap.size) (hver : w.cell? ⟨fb, 0, none⟩ = some (.int .i64 version)) (h1 : (version == 1) = false) :
    Calls Yba.prog 5 #[.pointer (some ⟨fb, 0, none⟩), .agg #[.int .u8 kind, .int .i64 seq, m0, .int .i64 dest, .string name, .int .i64 lost]] w fun e w' =>
      ∃ v', e = .returned v' ∧ HasBytes w.heap.size w' v' (Lib.leBytes 8 v ++ Lib.leBytes 4 d) ∧ Below w.heap.size w w' := by
  go_enter Yba.func5, Yba.ntmps5
  go_wp2_with fail
  refine (Yba.binary_LE_AppendUint64 (w.heap.size + 1) 0 v hvlt _ [] _ (World.ownsRow_nil _ _ _ _) (by simp) (by omega)).mono ?_
  rintro e w1 ⟨s1, rfl, hown, hb⟩
  have hver1 : w1.cell? ⟨fb, 0, none⟩ = some (.int .i64 version) := by
    rw [hb.cell (p := ⟨fb, 0, none⟩) (by show fb < _; omega), World.cell?_alloc_past _ _ _ hfb]; exact hver
  have hd3 : w1.cell? ⟨w.heap.size, 3, none⟩ = some (.int .i64 dest) := by
    rw [hb.cell (p := ⟨w.heap.size, 3, none⟩) (by show w.heap.size < _; omega), World.cell?_alloc_at _ _ _ _ rfl]; rfl
  have hsz := hb.size
  go_wp2_with fail
  refine (Yba.binary_LE_AppendUint32 (w.heap.size + 1) 8 d hdlt _ _ _ hown (by simpa using hsz) (by omega)).mono ?_
  rintro e w2 ⟨s2, rfl, hown2, hb2⟩
  go_wp2
  go_ret
  refine ⟨_, rfl, HasBytes.base (has_of_owns (l := Lib.leBytes 8 v ++ Lib.leBytes 4 d) (n := 12) ?_ (by omega)) (Nat.le_succ _), ((Below.refl _ _).alloc (Nat.le_refl _) _).trans ((hb.trans hb2).mono (by simp))⟩
  rw [← byteCells_append]
  exact hown2
end Go.Proofs.Ybulkbgpu
