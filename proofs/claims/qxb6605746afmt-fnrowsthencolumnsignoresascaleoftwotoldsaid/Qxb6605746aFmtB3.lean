import Derived.Test.Qxb6605746aFmtB1
set_option linter.unusedVariables false
set_option linter.unusedSimpArgs false
namespace Go.Proofs.Qxb6605746aFmt.B3
open Go.RowKit Go.Extern.Stop Go.Stop Go.Extern Go.Proofs.Qxb6605746aFmt.P1 Go.Proofs.Qxb6605746aFmt.P3 Go.Proofs.Qxb6605746aFmt.P7 Go.Proofs.Qxb6605746aFmt.A1 Go.Proofs.Qxb6605746aFmt.A2 Go.Proofs.Qxb6605746aFmt.A3 Go.Proofs.Qxb6605746aFmt.A4 Go.Proofs.Qxb6605746aFmt.A5 Go.Proofs.Qxb6605746aFmt.A6 Go.Proofs.Qxb6605746aFmt.A7 Go.Proofs.Qxb6605746aFmt.A8 Go.Proofs.Qxb6605746aFmt.A9 Go.Proofs.Qxb6605746aFmt.B1

theorem dr_bel {w w' : World} (h : Dr w w') : Below w.heap.size w w' := by
  obtain ⟨n, rfl⟩ := h
  exact ⟨rfl, rfl, rfl, Nat.le_refl _, fun _ _ => rfl⟩
theorem dr_oth {w w' : World} (s : Nat) (h : Dr w w') : Oth s w w' := by
  obtain ⟨n, rfl⟩ := h
  exact ⟨rfl, rfl, rfl, Nat.le_refl _, fun _ _ _ => rfl⟩

/-- The table's cells: no block where there are none. -/
def CS (w : World) (p : Option Addr) (L b : Nat) (xs : List Nat) : Prop := xs.length = L ∧ L ≤ 1048576 ∧ ((p = none ∧ L = 0) ∨ (p = some ⟨b, 0, none⟩ ∧ FB w b xs))

set_option maxHeartbeats 400000 in
theorem row33_any' (T cb i cols L lo hi : Nat) (w : World) (h1 : w.cell? ⟨T, 1, none⟩ = some (.int .i64 (cols : Int))) (h2 : w.cell? ⟨T, 2, none⟩ = some (.slice (some ⟨cb, 0, none⟩) L L))
    (hlo : Hid (i * cols = lo)) (hhi : Hid ((i + 1) * cols = hi)) (h3 : hi ≤ L) (h4 : lo ≤ hi) (hC : L ≤ 1048576) (hi1 : i ≤ 1048576) :
    Calls Tryf.prog 33 #[.pointer (some ⟨T, 0, none⟩), .int .i64 (i : Int)] w fun e w' => (∃ q, e = .returned (.slice q (hi - lo) (L - lo))) ∧ Dr w w' := by
  have e1 : (i : Int) * (cols : Int) = (lo : Int) := by rw [← hlo.out]; simp
  have e2 : ((i : Int) + 1) * (cols : Int) = (hi : Int) := by rw [← hhi.out]; simp
  have e3 : IntKind.i64.wrap (lo : Int) = (lo : Int) := by rw [IntKind.wrap_i64] <;> omega
  have e4 : IntKind.i64.wrap (hi : Int) = (hi : Int) := by rw [IntKind.wrap_i64] <;> omega
  by_cases hlh : lo < L
  · go_enter Tryf.func33, Tryf.ntmps33
    go_wp2
    go_quiet (fail)
    go_wp2
    go_ret
    exact ⟨⟨_, rfl⟩, _, rfl⟩
  · go_enter Tryf.func33, Tryf.ntmps33
    go_wp2
    go_quiet (fail)
    go_wp2
    go_ret
    exact ⟨⟨_, rfl⟩, _, rfl⟩

/-- Row i of the table. -/
theorem row_rs (T i cols L cb : Nat) (n : Int) (p : Option Addr) (xs : List Nat) (w : World) (hT : TB w T n (cols : Int) p L L) (hc : CS w p L cb xs) (hi : (i + 1) * cols ≤ L) (hi1 : i ≤ 1048576) :
    Calls Tryf.prog 33 #[.pointer (some ⟨T, 0, none⟩), .int .i64 (i : Int)] w fun e w' => ∃ q cap, e = .returned (.slice q cols cap) ∧ Dr w w' ∧ RS w q cols cap cb (i * cols) xs := by
  obtain ⟨hl, hL, hp⟩ := hc
  have e : (i + 1) * cols = i * cols + cols := by rw [Nat.add_mul, Nat.one_mul]
  rcases hp with ⟨rfl, rfl⟩ | ⟨rfl, hF⟩
  · have h0 : cols = 0 := by omega
    subst h0
    refine (row33_nil T i 0 0 0 w hT.cols hT.cells (by simp : i * 0 = 0) (by simp : (i + 1) * 0 = 0) hi1).mono ?_
    rintro e w' ⟨rfl, h⟩
    exact ⟨none, 0, rfl, h, by omega, by omega, fun h => by omega⟩
  · by_cases h0 : 0 < cols
    · refine (row33 T cb i cols L L (i * cols) ((i + 1) * cols) w hT.cols hT.cells rfl rfl hi (by omega) hL hi1).mono ?_
      rintro e' w' ⟨rfl, h⟩
      have e2 : (i + 1) * cols - i * cols = cols := by omega
      exact ⟨_, _, by rw [e2], h, by omega, by omega, fun _ => ⟨rfl, hF, by omega⟩⟩
    · refine (row33_any' T cb i cols L (i * cols) ((i + 1) * cols) w hT.cols hT.cells rfl rfl hi (by omega) hL hi1).mono ?_
      rintro e' w' ⟨⟨q, rfl⟩, h⟩
      have e2 : (i + 1) * cols - i * cols = cols := by omega
      exact ⟨q, _, by rw [e2], h, by omega, by omega, fun h => absurd h h0⟩
end Go.Proofs.Qxb6605746aFmt.B3
