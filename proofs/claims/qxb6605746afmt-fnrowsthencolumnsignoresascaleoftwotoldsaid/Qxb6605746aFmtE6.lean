import Derived.Test.Qxb6605746aFmtE4
set_option linter.unusedVariables false
set_option linter.unusedSimpArgs false
set_option exponentiation.threshold 4000
namespace Go.Proofs.Qxb6605746aFmt.E6
open Go.Proofs.Qxb6605746aFmt.P1 Go.Proofs.Qxb6605746aFmt.P3 Go.Proofs.Qxb6605746aFmt.P7 Go.Proofs.Qxb6605746aFmt.P8 Go.Proofs.Qxb6605746aFmt.A8 Go.Proofs.Qxb6605746aFmt.C5 Go.Proofs.Qxb6605746aFmt.E4

theorem rel_all {X ts : List Nat} {RN CN : List Int} {n0 R C f f2 : Nat} (hL : R * C = n0) (hC : C ≤ 65536) (hX : ∀ i, i < n0 → CellOk (X.getD i 0)) (ht : ∀ i, i < n0 → fnum (ts.getD i 0) = fop .mul (some P5.two) (fnum (X.getD i 0)))
    (hr : E1.RP R C (fun i j => fnum (X.getD (i * C + j) 0)) R 0 RN) (hf : f < 2 ^ 64) (hf2 : fnum f2 = fop .mul (some P5.two) (fnum f)) :
    ((rowsOk (XX ts C) (IN RN) R C (fnum f2) ∧ colsOk (XX ts C) (IN RN) (IN CN) R C) ↔ (rowsOk (XX X C) (IN RN) R C (fnum f) ∧ colsOk (XX X C) (IN RN) (IN CN) R C)) ∧
    (rowsOk (XX X C) (IN RN) R C (fnum f) → (∀ i, i < R → rsOf (XX ts C) (IN RN) C i = fop .mul (some P5.two) (rsOf (XX X C) (IN RN) C i)) ∧ (∀ j, j < C → csOf (XX ts C) (IN RN) (IN CN) R C j = csOf (XX X C) (IN RN) (IN CN) R C j) ∧
      ∀ i, i < R → ∀ j, j < C → outOf (XX ts C) (IN RN) (IN CN) R C i j = outOf (XX X C) (IN RN) (IN CN) R C i j) := by
  have idx : ∀ i, i < R → ∀ j, j < C → i * C + j < n0 := by
    intro i hi j hj
    have h1 : (i + 1) * C ≤ R * C := Nat.mul_le_mul_right _ hi
    have h2 : (i + 1) * C = i * C + C := by rw [Nat.add_mul, Nat.one_mul]
    omega
  have hSG : ∀ i, i < R → ∀ j, j < C → P2.SG 1 823 (2 ^ 1275) (XX X C i j) (XX ts C i j) := by
    intro i hi j hj
    have h := hX _ (idx i hi j hj)
    unfold CellOk at h
    rw [← ht _ (idx i hi j hj)] at h
    exact h
  have hcnt : ∀ i, i < R → 0 ≤ IN RN i ∧ IN RN i ≤ 65536 ∧ (IN RN i = 0 → ∀ j, j < C → XX X C i j = none) := by
    intro i hi
    obtain ⟨a, b, c⟩ := hr.2.1 i hi
    exact ⟨a, Int.le_trans b (by omega), c⟩
  obtain ⟨k1, k2⟩ := runs_rel (f := f) hSG hC hcnt hf
  rw [← hf2] at k1
  have cols : rowsOk (XX X C) (IN RN) R C (fnum f) → ∀ j, j < C → cmOf (XX ts C) (IN RN) (IN CN) R C j = cmOf (XX X C) (IN RN) (IN CN) R C j ∧ csOf (XX ts C) (IN RN) (IN CN) R C j = csOf (XX X C) (IN RN) (IN CN) R C j := fun h j hj => cols_rel (k2 h).2.1 j hj
  refine ⟨⟨fun h => ?_, fun h => ?_⟩, fun h => ⟨(k2 h).1, fun j hj => (cols h j hj).2, fun i hi j hj => ?_⟩⟩
  · have hr1 := k1.1 h.1
    refine ⟨hr1, fun j hj => ?_⟩
    have := h.2 j hj
    rwa [(cols hr1 j hj).2, (k2 hr1).2.2] at this
  · refine ⟨k1.2 h.1, fun j hj => ?_⟩
    rw [(cols h.1 j hj).2, (k2 h.1).2.2]
    exact h.2 j hj
  · unfold outOf
    rw [(k2 h).2.1 i hi j hj, (cols h j hj).1, (cols h j hj).2]
end Go.Proofs.Qxb6605746aFmt.E6
