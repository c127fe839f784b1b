import Derived.Test.Qxb6605746aA1
set_option linter.unusedVariables false
set_option linter.unusedSimpArgs false
namespace Go.Proofs.Qxb6605746a.A2
open Go.RowKit Go.Proofs.Qxb6605746a.A1

theorem isnan22 (x : Nat) (w : World) : Calls Try.prog 22 #[.float .f64 x] w fun e w' => e = .returned (.bool (fnum x == none)) ∧ w' = w := by
  have hx := ord_self x
  go_enter Try.func22, Try.ntmps22
  go_wp2
  go_ret
  cases h : fnum x <;> simp [hx, h]

theorem same6 (x y : Nat) (h : fnum x = fnum y) (w : World) : Calls Try.prog 6 #[.float .f64 x, .float .f64 y] w fun e w' => e = .returned (.bool true) ∧ w' = w := by
  cases hx : fnum x with
  | none =>
    have e1 := ord_none x y hx
    have e2 := ord_none x x hx
    have e3 := ord_none y y (h ▸ hx)
    go_enter Try.func6, Try.ntmps6
    go_wp2
    go_ret
    exact ⟨rfl, rfl⟩
  | some r =>
    have ex : x = r := by unfold fnum at hx; split at hx <;> simp_all
    have ey : y = r := by rw [h] at hx; unfold fnum at hx; split at hx <;> simp_all
    subst ex
    subst ey
    have e1 := ord_self y
    rw [hx] at e1
    simp only [Option.map_some] at e1
    go_enter Try.func6, Try.ntmps6
    go_wp2
    go_ret
    exact ⟨rfl, rfl⟩

theorem bytes8 (a0 a1 a2 : Option Addr) (n0 c0 n1 c1 n2 c2 : Nat) (n cols : Int) (h0 : n0 < 9223372036854775808) (h1 : n1 < 9223372036854775808) (h2 : n2 < 9223372036854775808) (w : World) :
    Calls Try.prog 8 #[.slice a0 n0 c0, .slice a1 n1 c1, .int .i64 n, .slice a2 n2 c2, .int .i64 cols] w fun e w' => ∃ b, e = .returned (.bool b) ∧ w' = w := by
  go_enter Try.func8, Try.ntmps8
  go_wp2
  all_goals (go_ret; exact ⟨_, rfl, rfl⟩)

theorem bytes13 (a0 a1 a2 : Option Addr) (n0 c0 n1 c1 n2 c2 : Nat) (n cols : Int) (h0 : n0 < 9223372036854775808) (h1 : n1 < 9223372036854775808) (h2 : n2 < 9223372036854775808) (w : World) :
    Calls Try.prog 13 #[.slice a0 n0 c0, .slice a1 n1 c1, .int .i64 n, .slice a2 n2 c2, .int .i64 cols] w fun e w' => ∃ b, e = .returned (.bool b) ∧ w' = w := by
  go_enter Try.func13, Try.ntmps13
  go_wp2
  all_goals (go_ret; exact ⟨_, rfl, rfl⟩)
end Go.Proofs.Qxb6605746a.A2
