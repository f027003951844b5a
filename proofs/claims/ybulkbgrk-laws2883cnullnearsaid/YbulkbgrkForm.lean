import Derived.Test.YbulkbgrkKit
import Derived.Laws.IdiomCopy
import Derived.Laws.BytesArg
import Derived.Deep.QuietTactic
import Derived.BigQuiet
import Derived.WalkSmall
namespace Go.Proofs.Ybulkbgrk
open Go.RowKit
set_option linter.unusedVariables false

theorem form_zero (a : Option Addr) (cap : Nat) (w : World) : Calls Yba.prog 8 #[.slice a 0 cap] w fun e w' => e = .returned (.int .u8 2) ∧ w' = w := by
  go_enter Yba.func8, Yba.ntmps8
  go_wp2
  go_ret
  exact ⟨rfl, rfl⟩

theorem form_other (a : Option Addr) (n cap : Nat) (w : World) (h0 : ((n : Int) == 0) = false) (h2 : ((n : Int) == 2) = false) : Calls Yba.prog 8 #[.slice a n cap] w fun e w' => e = .returned (.int .u8 0) ∧ w' = w := by
  go_enter Yba.func8, Yba.ntmps8
  go_wp2
  go_ret
  exact ⟨rfl, rfl⟩

/-- the form of two bytes. -/
def form2 (x y : Int) : Int := if (x == 92 && y == 78) = true then 1 else 0

theorem form_two (b off cap : Nat) (x y : Int) (w : World) (hx : w.cell? ⟨b, off, none⟩ = some (.int .u8 x)) (hy : w.cell? ⟨b, off + 1, none⟩ = some (.int .u8 y)) :
    Calls Yba.prog 8 #[.slice (some ⟨b, off, none⟩) 2 cap] w fun e w' => e = .returned (.int .u8 (form2 x y)) ∧ w' = w := by
  cases h1 : (x == 92) <;> cases h2 : (y == 78)
  all_goals
    go_enter Yba.func8, Yba.ntmps8
    go_wp2
    go_ret
    exact ⟨by simp [form2, h1, h2], rfl⟩

end Go.Proofs.Ybulkbgrk
