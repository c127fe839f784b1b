import Derived.Test.Qxb6605674aProg
import Derived.WalkKit
import Derived.KernelRfl
set_option linter.unusedVariables false
set_option linter.unusedSimpArgs false
namespace Go.Proofs.Qxb6605674a.A1
open Go.RowKit

theorem bytes23 (a0 a1 a2 : Option Addr) (n0 n1 n2 c0 c1 c2 : Nat) (w : World) (h0 : n0 ≤ maxLen) (h1 : n1 ≤ maxLen) (h2 : n2 ≤ maxLen) :
    Calls Try.prog 23 #[.slice a0 n0 c0, .slice a1 n1 c1, .slice a2 n2 c2] w fun e w' => ∃ b : Bool, e = .returned (.bool b) ∧ (b = true → n0 + n1 + n2 ≤ 1048576) ∧ w' = w := by
  unfold maxLen at h0 h1 h2
  go_enter Try.func23, Try.ntmps23
  go_wp2
  all_goals go_ret
  all_goals exact ⟨_, rfl, by simp <;> omega, rfl⟩
end Go.Proofs.Qxb6605674a.A1
