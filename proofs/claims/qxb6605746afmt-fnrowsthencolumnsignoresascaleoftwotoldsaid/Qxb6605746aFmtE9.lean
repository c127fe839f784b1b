import Derived.Test.Qxb6605746aFmtE8
set_option linter.unusedVariables false
set_option linter.unusedSimpArgs false
namespace Go.Proofs.Qxb6605746aFmt.E9
open Go.RowKit Go.Proofs.Qxb6605746aFmt.P1 Go.Proofs.Qxb6605746aFmt.P3 Go.Proofs.Qxb6605746aFmt.P7 Go.Proofs.Qxb6605746aFmt.A1 Go.Proofs.Qxb6605746aFmt.A2 Go.Proofs.Qxb6605746aFmt.A3 Go.Proofs.Qxb6605746aFmt.A4 Go.Proofs.Qxb6605746aFmt.A5 Go.Proofs.Qxb6605746aFmt.A6 Go.Proofs.Qxb6605746aFmt.A8 Go.Proofs.Qxb6605746aFmt.B3

/-- Two rows of cells that agree place by place agree. -/
theorem out_eq {xs ys : List Nat} {o1 o2 : Nat → Nat → Option Nat} {R C n : Nat} (hL : R * C = n) (h1 : ∀ i, i < R → ∀ j, j < C → fnum (xs.getD (i * C + j) 0) = o1 i j) (h2 : ∀ i, i < R → ∀ j, j < C → fnum (ys.getD (i * C + j) 0) = o2 i j)
    (h : ∀ i, i < R → ∀ j, j < C → o2 i j = o1 i j) : ∀ k, k < n → fnum (xs.getD k 0) = fnum (ys.getD k 0) := by
  intro k hk
  have hC : 0 < C := by
    rcases Nat.eq_zero_or_pos C with e | e
    · rw [e, Nat.mul_zero] at hL; omega
    · exact e
  have hj : k % C < C := Nat.mod_lt _ hC
  have hi : k / C < R := by rw [Nat.div_lt_iff_lt_mul hC, hL]; exact hk
  have e : k / C * C + k % C = k := by rw [Nat.mul_comm]; exact Nat.div_add_mod k C
  have a := h1 _ hi _ hj
  have b := h2 _ hi _ hj
  rw [e] at a b
  rw [a, b, h _ hi _ hj]

theorem same_cs {w : World} {p : Option Addr} {n cb tb : Nat} {xs ys : List Nat} (h1 : CS w p n cb xs) (h2 : FB w tb ys) (hl : ys.length = n) (he : ∀ k, k < n → fnum (xs.getD k 0) = fnum (ys.getD k 0)) :
    Calls Tryf.prog 16 #[.slice p n n, .slice (some ⟨tb, 0, none⟩) n n] w fun e w' => e = .returned (.bool true) ∧ Below w.heap.size w w' := by
  obtain ⟨a, b, c⟩ := h1
  rcases c with ⟨_, e⟩ | ⟨e, hF⟩
  · subst e
    exact same_nil _ _ _
  · rw [e]
    exact same16 cb tb n xs ys w hF h2 a hl b he
end Go.Proofs.Qxb6605746aFmt.E9
