import Derived.Test.Qxb6605746aFmtA6
set_option linter.unusedVariables false
set_option linter.unusedSimpArgs false
namespace Go.Proofs.Qxb6605746aFmt.A7
open Go.RowKit Go.Proofs.Qxb6605746aFmt.P1 Go.Proofs.Qxb6605746aFmt.P3 Go.Proofs.Qxb6605746aFmt.P7 Go.Proofs.Qxb6605746aFmt.A1 Go.Proofs.Qxb6605746aFmt.A2 Go.Proofs.Qxb6605746aFmt.A3 Go.Proofs.Qxb6605746aFmt.A4 Go.Proofs.Qxb6605746aFmt.A5 Go.Proofs.Qxb6605746aFmt.A6

set_option maxHeartbeats 400000 in
theorem row33 (T cb i cols L C lo hi : Nat) (w : World) (h1 : w.cell? ⟨T, 1, none⟩ = some (.int .i64 (cols : Int))) (h2 : w.cell? ⟨T, 2, none⟩ = some (.slice (some ⟨cb, 0, none⟩) L C))
    (hlo : Hid (i * cols = lo)) (hhi : Hid ((i + 1) * cols = hi)) (h3 : hi ≤ C) (h4 : lo < hi) (hC : C ≤ 1048576) (hi1 : i ≤ 1048576) :
    Calls Tryf.prog 33 #[.pointer (some ⟨T, 0, none⟩), .int .i64 (i : Int)] w fun e w' => e = .returned (.slice (some ⟨cb, lo, none⟩) (hi - lo) (C - lo)) ∧ ∃ n, w' = w.drewN n := by
  have e1 : (i : Int) * (cols : Int) = (lo : Int) := by rw [← hlo.out]; simp
  have e2 : ((i : Int) + 1) * (cols : Int) = (hi : Int) := by rw [← hhi.out]; simp
  have e3 : IntKind.i64.wrap (lo : Int) = (lo : Int) := by rw [IntKind.wrap_i64] <;> omega
  have e4 : IntKind.i64.wrap (hi : Int) = (hi : Int) := by rw [IntKind.wrap_i64] <;> omega
  go_enter Tryf.func33, Tryf.ntmps33
  go_wp2
  go_quiet (fail)
  go_wp2
  go_ret
  exact ⟨rfl, _, rfl⟩

set_option maxHeartbeats 400000 in
theorem row33_nil (T i cols lo hi : Nat) (w : World) (h1 : w.cell? ⟨T, 1, none⟩ = some (.int .i64 (cols : Int))) (h2 : w.cell? ⟨T, 2, none⟩ = some (.slice none 0 0))
    (hlo : Hid (i * cols = 0)) (hhi : Hid ((i + 1) * cols = 0)) (hi1 : i ≤ 1048576) :
    Calls Tryf.prog 33 #[.pointer (some ⟨T, 0, none⟩), .int .i64 (i : Int)] w fun e w' => e = .returned (.slice none 0 0) ∧ ∃ n, w' = w.drewN n := by
  have e1 : (i : Int) * (cols : Int) = 0 := by have := hlo.out; rw [← Int.natCast_mul]; omega
  have e2 : ((i : Int) + 1) * (cols : Int) = 0 := by have := hhi.out; have h : (((i + 1) * cols : Nat) : Int) = 0 := by omega
                                                     simpa using h
  have e3 : IntKind.i64.wrap 0 = 0 := by rw [IntKind.wrap_i64] <;> omega
  go_enter Tryf.func33, Tryf.ntmps33
  go_wp2
  go_quiet (fail)
  go_wp2
  go_ret
  exact ⟨rfl, _, rfl⟩

set_option maxHeartbeats 400000 in
theorem row33_any (T cb i cols L C lo hi : Nat) (w : World) (h1 : w.cell? ⟨T, 1, none⟩ = some (.int .i64 (cols : Int))) (h2 : w.cell? ⟨T, 2, none⟩ = some (.slice (some ⟨cb, 0, none⟩) L C))
    (hlo : Hid (i * cols = lo)) (hhi : Hid ((i + 1) * cols = hi)) (h3 : hi ≤ C) (h4 : lo ≤ hi) (hC : C ≤ 1048576) (hi1 : i ≤ 1048576) :
    Calls Tryf.prog 33 #[.pointer (some ⟨T, 0, none⟩), .int .i64 (i : Int)] w fun e w' => (∃ q m c, e = .returned (.slice q m c) ∧ m ≤ c ∧ c ≤ 1048576) ∧ ∃ n, w' = w.drewN n := by
  have e1 : (i : Int) * (cols : Int) = (lo : Int) := by rw [← hlo.out]; simp
  have e2 : ((i : Int) + 1) * (cols : Int) = (hi : Int) := by rw [← hhi.out]; simp
  have e3 : IntKind.i64.wrap (lo : Int) = (lo : Int) := by rw [IntKind.wrap_i64] <;> omega
  have e4 : IntKind.i64.wrap (hi : Int) = (hi : Int) := by rw [IntKind.wrap_i64] <;> omega
  by_cases hlc : lo = C
  · have hhc : hi = C := by omega
    subst hlc
    subst hhc
    go_enter Tryf.func33, Tryf.ntmps33
    go_wp2
    go_quiet (fail)
    go_wp2
    go_ret
    refine ⟨⟨_, _, _, rfl, ?_, ?_⟩, _, rfl⟩ <;> omega
  · go_enter Tryf.func33, Tryf.ntmps33
    go_wp2
    go_quiet (fail)
    go_wp2
    go_ret
    refine ⟨⟨_, _, _, rfl, ?_, ?_⟩, _, rfl⟩ <;> omega
end Go.Proofs.Qxb6605746aFmt.A7
