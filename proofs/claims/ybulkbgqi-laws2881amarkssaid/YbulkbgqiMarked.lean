import Derived.Test.YbulkbgqiMarkAt
namespace Go.Proofs.Ybulkbgqi
open Go.RowKit
set_option linter.unusedVariables false

def mdOf (n : Nat) (zs : List Int) (i : Nat) : Nat := if i < n then (zs.getD i 0).toNat % 6 + 1 else 1

theorem mdOf_rng (n : Nat) (zs : List Int) (i : Nat) : 1 ≤ mdOf n zs i ∧ mdOf n zs i ≤ 6 := by
  unfold mdOf
  split <;> omega

theorem amode_any (a : Option Addr) (n cap i : Nat) (zs : List Int) (w : World) (hn : n ≤ 1024) (hi : i ≤ 1025) (h : ByteRow w a n zs) :
    Calls Yba.prog 6 #[.slice a n cap, .int .i64 (i : Int)] w fun e w' => e = .returned (.int .u8 ((mdOf n zs i : Nat) : Int)) ∧ w' = w := by
  by_cases hlt : i < n
  · have hlti : (i : Int) < (n : Int) := by omega
    obtain ⟨h1, h2⟩ := h
    obtain ⟨b, off, rfl, hb, hc⟩ := h2 (by omega)
    have hci := hc i hlt
    have hr := h1 i
    obtain ⟨z, hz⟩ : ∃ z : Nat, zs.getD i 0 = (z : Int) := ⟨(zs.getD i 0).toNat, by omega⟩
    have hmd : mdOf n zs i = z % 6 + 1 := by unfold mdOf; rw [if_pos hlt, hz]; simp
    rw [hz] at hci hr
    have HM := hideIt hmd
    have hz255 : z ≤ 255 := by omega
    clear hmd hz hr h1 hc h2
    go_enter Yba.func6, Yba.ntmps6
    go_wp2
    go_ret
    refine ⟨?_, rfl⟩
    rw [HM.out, show ((z % 6 + 1 : Nat) : Int) = (z : Int) % 6 + 1 from by omega]
    rfl
  · have hlti : ¬ (i : Int) < (n : Int) := by omega
    have hmd : mdOf n zs i = 1 := by unfold mdOf; rw [if_neg hlt]
    have HM := hideIt hmd
    clear hmd h
    go_enter Yba.func6, Yba.ntmps6
    go_wp2
    go_ret
    exact ⟨by rw [HM.out]; rfl, rfl⟩

theorem has_drew (A m i : Nat) (v : Value) (ws : List Nat) (top : Nat) (F : List Nat) (w : World) (hi : i ≤ 1024) (hv : w.cell? ⟨A, m, none⟩ = some v) (hp : PSet w v ws top F) (n : Nat) :
    Calls Yba.prog 9 #[.pointer (some ⟨A, m, none⟩), .int .i64 (i : Int)] (w.drewN n) fun e w' => e = .returned (.bool (hasBit ws i)) ∧ ∃ n', w' = (w.drewN n).drewN n' :=
  has_any A m i v ws top F (w.drewN n) hi hv (hp.keep fun _ _ => rfl)

set_option maxHeartbeats 1000000 in
theorem marked_any (w0 w : World) (G gl k cap i : Nat) (md : Nat → Nat) (av : List Nat) (any : Bool) (mo : Nat → Bool) (hi : i < k) (hk : k ≤ 1025) (hmd : ∀ j, 1 ≤ md j ∧ md j ≤ 6) (h : GP w0 w G gl k cap md) (hK : MKs w0 w G av any (fun m j => mo j && (md j == m))) :
    Calls Yba.prog 8 #[.pointer (some ⟨G, 0, none⟩), .int .i64 (i : Int)] w fun e w' => e = .returned (.bool (mo i)) ∧ ∃ n, w' = w.drewN n := by
  have c0 := h.c0
  have cm := (h.cells i hi).2
  have hmi := hmd i
  have hii : (i : Int) < (k : Int) := by omega
  rcases hK with ⟨rfl, h11, hz⟩ | ⟨rfl, A, V, WS, TP, FF, h11, hM⟩
  · have hzi := hz (md i) i
    have hoi : mo i = false := by simpa using hzi
    rw [hoi]
    clear hz hzi hoi h hmd hmi
    go_enter Yba.func8, Yba.ntmps8
    go_wp2
    go_quiet (fail)
    go_wp2
    go_ret
    exact ⟨rfl, _, rfl⟩
  · have hbit := hM.bits (md i) (by omega) i
    have hbi : hasBit (WS (md i)) i = mo i := by rw [hbit]; simp
    have hh := has_drew A (md i) i (V (md i)) (WS (md i)) (TP (md i)) (FF (md i)) w (by omega) (hM.cell _ (by omega)) (hM.ps _ (by omega))
    rw [hbi] at hh
    obtain ⟨m, hm⟩ : ∃ m, m = md i := ⟨_, rfl⟩
    rw [← hm] at cm hmi hh
    obtain ⟨oi, hoi⟩ : ∃ oi, oi = mo i := ⟨_, rfl⟩
    rw [← hoi] at hh ⊢
    have HH := hideIt hh
    clear hbit hbi hM hh h hmd hm hoi
    go_enter Yba.func8, Yba.ntmps8
    go_wp2
    go_quiet ((go_at_call 9; exact Calls.quiet_of (HH.out _)))
    go_wp2
    go_ret
    exact ⟨rfl, _, rfl⟩

end Go.Proofs.Ybulkbgqi
