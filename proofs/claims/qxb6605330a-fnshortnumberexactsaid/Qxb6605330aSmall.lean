import Derived.Test.Qxb6605330aRows
import Derived.WalkKit
import Derived.ProofKit
import Derived.WalkSpells
import Derived.WalkLawsBesides
import Derived.Below
namespace Go.Proofs.Qxb6605330a
open Go.ChangeShapes Go.WideShapes Go.ChangeAt Go.RowKit

theorem isdig_yes (c : Int) (w : World) (h1 : 48 ≤ c) (h2 : c ≤ 57) : Calls Try.prog 9 #[.int .u8 c] w fun e w' => e = .returned (.bool true) ∧ w' = w := by
  go_enter Try.func9, Try.ntmps9
  go_wp2
  go_ret
  exact ⟨rfl, rfl⟩
theorem isdig_no (c : Int) (w : World) (h : ¬ (48 ≤ c ∧ c ≤ 57)) : Calls Try.prog 9 #[.int .u8 c] w fun e w' => e = .returned (.bool false) ∧ w' = w := by
  by_cases h1 : 48 ≤ c
  · have d : decide (c ≤ 57) = false := by simp; omega
    clear h
    go_enter Try.func9, Try.ntmps9
    go_wp2
    go_ret
    exact ⟨rfl, rfl⟩
  · have d : decide (48 ≤ c) = false := by simp; omega
    clear h
    go_enter Try.func9, Try.ntmps9
    go_wp2
    go_ret
    exact ⟨rfl, rfl⟩
end Go.Proofs.Qxb6605330a
