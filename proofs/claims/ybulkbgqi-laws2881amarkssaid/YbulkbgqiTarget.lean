import Derived.Test.YbulkbgqiShelf
import Derived.Test.YbulkbgqiPlain
import Derived.WalkKit
import Derived.ProofKit
import Derived.OpenShut
import Derived.Below
import Derived.Outline
import Derived.WalkSpells
import Derived.WalkLawsBesides
namespace Go.Proofs.Ybulkbgqi
open Go.RowKit
set_option linter.unusedVariables false

theorem hideIt {p : Prop} (h : p) : Hid p := h

theorem parent_none (s : ByteArray) (w : World) (hs : s.size ≤ 70000) (hL : Lib.lastIndexByte s 47 = -1) :
    Calls Yba.prog 17 #[.string s] w fun e w' => e = .returned (.tuple #[.string { data := #[] }, .bool false]) ∧ w' = w := by
  have HC := hideIt (Yba.strings_LastIndexByte s 47 (by omega) w)
  rw [hL] at HC
  go_enter Yba.func17, Yba.ntmps17
  go_wp2_with fail
  refine HC.out.mono ?_
  rintro e w1 ⟨rfl, rfl⟩
  go_wp2
  go_ret2
  exact ⟨rfl, rfl⟩

theorem parent_some (s : ByteArray) (i : Nat) (w : World) (hs : s.size ≤ 70000) (hi : i < s.size) (hL : Lib.lastIndexByte s 47 = (i : Int)) :
    Calls Yba.prog 17 #[.string s] w fun e w' => e = .returned (.tuple #[.string (s.extract 0 i), .bool true]) ∧ w' = w := by
  have HC := hideIt (Yba.strings_LastIndexByte s 47 (by omega) w)
  rw [hL] at HC
  clear hL
  go_enter Yba.func17, Yba.ntmps17
  go_wp2_with fail
  refine HC.out.mono ?_
  rintro e w1 ⟨rfl, rfl⟩
  go_wp2
  go_ret2
  exact ⟨rfl, rfl⟩

def strSize : Value → Nat | .string s => s.size | _ => 0

/-- What the set's map answers, as a plain function. -/
structure Looks (mb : Nat) (look : ByteArray → Option ByteArray) (w : World) : Prop where
  at_ : ∀ key : ByteArray, key.size ≤ 70000 → ∃ s ok, (Instr.lookup 57 (.map (some mb)) (.string key) true).run Yba.prog w = .ok (.tuple #[.string s, .bool ok]) w ∧ (ok = true → look key = some s) ∧ (ok = false → look key = none)
  len_ : ∃ n : Nat, (∀ ty, (Builtin.len_ #[57] ty #[.map (some mb)]).run Yba.prog w = .ok (.int .i64 (n : Int)) w) ∧ (n = 0 → ∀ key, look key = none)

set_option maxHeartbeats 800000 in
theorem target_any (sb mb : Nat) (name : ByteArray) (look : ByteArray → Option ByteArray) (w : World) (hn : name.size ≤ 70000) (hc : w.cell? ⟨sb, 0, none⟩ = some (.map (some mb))) (hl : Looks mb look w) :
    Calls Yba.prog 12 #[.pointer (some ⟨sb, 0, none⟩), .string name] w fun e w' => e = .returned (.tuple #[.string (ansS (scanAt name look name.size)), .bool (ansB (scanAt name look name.size))]) ∧ w' = w := by
  obtain ⟨n, hlen, h0⟩ := hl.len_
  rcases Nat.eq_zero_or_pos n with rfl | hpos
  · have hlen' : ∀ ty, (Builtin.len_ #[57] ty #[.map (some mb)]).run Yba.prog w = .ok (.int .i64 0) w := hlen
    rw [scan_none name look (h0 rfl)]
    clear hlen hl h0
    go_enter Yba.func12, Yba.ntmps12
    go_wp2
    go_ret2
    exact ⟨rfl, rfl⟩
  · have hnz : ((n : Int) == 0) = false := by simp; omega
    have HL := hideIt hl
    clear hl h0
    go_enter Yba.func12, Yba.ntmps12
    go_wp2
    go_loop [1] (fun c => ∃ i : Nat, i ≤ name.size ∧ c = .string (name.extract 0 i) ∧ scanAt name look i = scanAt name look name.size) (fun c => strSize c)
    case atStart => exact ⟨name.size, Nat.le_refl _, by rw [extract_all], rfl⟩
    case round =>
      obtain ⟨i, hi, rfl, hsc⟩ := hrel
      have HSC := hideIt hsc
      clear hsc
      obtain ⟨c, hcd⟩ : ∃ c, c = name.extract 0 i := ⟨_, rfl⟩
      have hcs : c.size = i := by rw [hcd]; exact size_extract name i hi
      have hcb : ∀ j, j < i → byteN c j = byteN name j := fun j hj => by rw [hcd]; exact byteN_extract name i j hi hj
      rw [← hcd]
      rcases Lib.lastIdx_spec c 47 c.size with ⟨hL, hno⟩ | ⟨j, hj, hL, hat, hno⟩
      · have hnone : scanAt name look name.size = none := by
          rw [← HSC.out, scan_skip name look 0 i (by omega) (fun x _ hx => by rw [← hcb x hx]; exact hno x (by omega))]
          rfl
        have HP := hideIt (parent_none c w (by omega) hL)
        have HN := hideIt hnone
        clear hno hcb hL hcs hcd hnone
        go_wp2_with fail
        refine HP.out.mono ?_
        rintro e w1 ⟨rfl, rfl⟩
        go_wp2
        go_ret2
        exact ⟨by rw [HN.out]; rfl, rfl⟩
      · have HP := hideIt (parent_some c j w (by omega) hj hL)
        have hkey : c.extract 0 j = name.extract 0 j := by rw [hcd]; exact extract_extract name i j (by omega)
        have hsz : (name.extract 0 j).size = j := size_extract name j (by omega)
        rw [hkey] at HP
        have hstep : scanAt name look name.size = scanAt name look (j + 1) := by
          rw [← HSC.out]
          exact scan_skip name look (j + 1) i (by omega) (fun x h1 h2 => by rw [← hcb x h2]; exact hno x (by omega) (by omega))
        have hbj : byteN name j = 47 := by rw [← hcb j (by omega)]; exact hat
        obtain ⟨v, ok, hrun, hyes, hnot⟩ := HL.out.at_ (name.extract 0 j) (by omega)
        have HST := hideIt hstep
        have HBJ := hideIt hbj
        have HCS := hideIt hcs
        have HSZ := hideIt hsz
        clear hstep hbj hno hcb hkey hcd hsz hL hat hcs
        cases ok with
        | true =>
          have hr : scanAt name look name.size = some (name.extract 0 j, v) := by
            rw [HST.out, scanAt, if_pos HBJ.out, hyes rfl]
          have HR := hideIt hr
          clear hr hyes hnot
          go_wp2_with fail
          refine HP.out.mono ?_
          rintro e w1 ⟨rfl, rfl⟩
          go_wp2
          go_ret2
          exact ⟨by rw [HR.out]; rfl, rfl⟩
        | false =>
          have hr : scanAt name look name.size = scanAt name look j := by
            rw [HST.out, scanAt, if_pos HBJ.out, hnot rfl]
          have HR := hideIt hr
          clear hr hyes hnot
          go_wp2_with fail
          refine HP.out.mono ?_
          rintro e w1 ⟨rfl, rfl⟩
          go_wp2
          go_round
          case rel => exact ⟨j, by have := HCS.out; omega, rfl, HR.out.symm⟩
          case measure => show (name.extract 0 j).size < c.size; rw [HSZ.out, HCS.out]; have := HCS.out; omega
end Go.Proofs.Ybulkbgqi
