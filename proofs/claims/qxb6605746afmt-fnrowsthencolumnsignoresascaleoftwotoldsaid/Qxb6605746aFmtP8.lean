import Derived.Test.Qxb6605746aFmtB1
set_option linter.unusedVariables false
set_option linter.unusedSimpArgs false
set_option exponentiation.threshold 4000
namespace Go.Proofs.Qxb6605746aFmt.P8
open Ieee Go.Proofs.Qxb6605746aFmt.P1 Go.Proofs.Qxb6605746aFmt.P2 Go.Proofs.Qxb6605746aFmt.P3 Go.Proofs.Qxb6605746aFmt.P4 Go.Proofs.Qxb6605746aFmt.P5 Go.Proofs.Qxb6605746aFmt.P6 Go.Proofs.Qxb6605746aFmt.P7 Go.Proofs.Qxb6605746aFmt.B1

section
variable (X : Nat → Nat → Option Nat) (rn cn : Nat → Int) (R C : Nat)
def rmOf (i : Nat) : Option Nat := fmean (X i) C (rn i)
def rsOf (i : Nat) : Option Nat := fsd (X i) (rmOf X rn C i) C (rn i)
def yOf (i j : Nat) : Option Nat := fscaled (X i j) (rmOf X rn C i) (rsOf X rn C i)
def cfOf : Nat → Option Nat
  | 0 => some 0
  | i + 1 => fmax (cfOf i) (fscal (rn i) (rmOf X rn C i) (rsOf X rn C i))
def cmOf (j : Nat) : Option Nat := fop .quo (fsum (fun i => yOf X rn C i j) R) (fcnt (cn j))
def csOf (j : Nat) : Option Nat := fsqrt (fop .quo (fsqs (fun i => yOf X rn C i j) (fun _ => cmOf X rn cn R C j) R) (fcnt (cn j)))
def outOf (i j : Nat) : Option Nat := fscaled (yOf X rn C i j) (cmOf X rn cn R C j) (csOf X rn cn R C j)
def rowsOk (f : Option Nat) : Prop := ∀ i, i < R → ok (rsOf X rn C i) f = true
def colsOk : Prop := ∀ j, j < C → ok (csOf X rn cn R C j) (cfOf X rn C R) = true
end

theorem fsum_congr {X Y : Nat → Option Nat} : ∀ n : Nat, (∀ i, i < n → X i = Y i) → fsum X n = fsum Y n
  | 0, _ => rfl
  | n + 1, h => by
    simp only [fsum]
    rw [fsum_congr n (fun i hi => h i (by omega)), h n (by omega)]
theorem fsqs_congr {X Y M N : Nat → Option Nat} : ∀ n : Nat, (∀ i, i < n → X i = Y i) → (∀ i, i < n → M i = N i) → fsqs X M n = fsqs Y N n
  | 0, _, _ => rfl
  | n + 1, h, k => by
    simp only [fsqs]
    rw [fsqs_congr n (fun i hi => h i (by omega)) (fun i hi => k i (by omega)), h n (by omega), k n (by omega)]

section
variable {X X' : Nat → Nat → Option Nat} {rn cn : Nat → Int} {R C : Nat} {f : Nat}

theorem runs_rel (hX : ∀ i, i < R → ∀ j, j < C → SG 1 823 (2 ^ 1275) (X i j) (X' i j)) (hC : C ≤ 65536) (h1 : ∀ i, i < R → 0 ≤ rn i ∧ rn i ≤ 65536 ∧ (rn i = 0 → ∀ j, j < C → X i j = none)) (hf : f < 2 ^ 64) :
    (rowsOk X' rn R C (fop .mul (some two) (fnum f)) ↔ rowsOk X rn R C (fnum f)) ∧
    (rowsOk X rn R C (fnum f) → (∀ i, i < R → rsOf X' rn C i = fop .mul (some two) (rsOf X rn C i)) ∧ (∀ i, i < R → ∀ j, j < C → yOf X' rn C i j = yOf X rn C i j) ∧ cfOf X' rn C R = cfOf X rn C R) := by
  have key := fun i (hi : i < R) => row_rel (hX i hi) hC (rn i) (h1 i hi).1 (h1 i hi).2.1 (h1 i hi).2.2 f hf
  refine ⟨⟨fun h i hi => ?_, fun h i hi => ?_⟩, fun h => ⟨fun i hi => ((key i hi).2 (h i hi)).1, fun i hi j hj => ((key i hi).2 (h i hi)).2.2 j hj, ?_⟩⟩
  · have := h i hi
    unfold rsOf rmOf at this ⊢
    rwa [(key i hi).1] at this
  · have := h i hi
    unfold rsOf rmOf at this ⊢
    rwa [(key i hi).1]
  · have : ∀ n, n ≤ R → cfOf X' rn C n = cfOf X rn C n := by
      intro n
      induction n with
      | zero => intro _; rfl
      | succ n ih =>
        intro hn
        simp only [cfOf]
        rw [ih (by omega)]
        congr 1
        exact ((key n (by omega)).2 (h n (by omega))).2.1
    exact this R (Nat.le_refl _)

theorem cols_rel (hy : ∀ i, i < R → ∀ j, j < C → yOf X' rn C i j = yOf X rn C i j) (j : Nat) (hj : j < C) : cmOf X' rn cn R C j = cmOf X rn cn R C j ∧ csOf X' rn cn R C j = csOf X rn cn R C j := by
  have e1 : cmOf X' rn cn R C j = cmOf X rn cn R C j := by
    unfold cmOf
    rw [fsum_congr R (fun i hi => hy i hi j hj)]
  refine ⟨e1, ?_⟩
  unfold csOf
  rw [fsqs_congr R (fun i hi => hy i hi j hj) (fun i hi => e1)]
end

theorem lt_one {m n : Nat} {i j : Int} (hm : m < 2 ^ 53) (hn : 2 ^ 52 ≤ n) (h : i + 1 ≤ j) : (Datum.number false m i).order (.number false n j) = some .lt := by
  simp only [Datum.order]
  congr 1
  apply cmp_lt
  have e1 : min i j = i := by omega
  have e2 : (i - i).toNat = 0 := by omega
  obtain ⟨u, hu⟩ : ∃ u, (j - i).toNat = u + 1 := ⟨(j - i).toNat - 1, by omega⟩
  rw [e1, e2, hu, sf, sf, Nat.pow_zero, Nat.mul_one]
  have : n * 2 ^ (u + 1) = (n * 2) * 2 ^ u := by rw [Nat.pow_add, Nat.mul_comm (2 ^ u), ← Nat.mul_assoc]
  have h2 : (n * 2) * 1 ≤ (n * 2) * 2 ^ u := Nat.mul_le_mul_left _ (Nat.two_pow_pos _)
  rw [this]
  generalize (n * 2) * 2 ^ u = z at *
  omega
theorem gt_one {m n : Nat} {i j : Int} (hm : 2 ^ 52 ≤ m) (hn : n < 2 ^ 53) (h : j + 1 ≤ i) : (Datum.number false m i).order (.number false n j) = some .gt := by
  simp only [Datum.order]
  congr 1
  apply cmp_gt
  have e1 : min i j = j := by omega
  have e2 : (j - j).toNat = 0 := by omega
  obtain ⟨u, hu⟩ : ∃ u, (i - j).toNat = u + 1 := ⟨(i - j).toNat - 1, by omega⟩
  rw [e1, e2, hu, sf, sf, Nat.pow_zero, Nat.mul_one]
  have : m * 2 ^ (u + 1) = (m * 2) * 2 ^ u := by rw [Nat.pow_add, Nat.mul_comm (2 ^ u), ← Nat.mul_assoc]
  have h2 : (m * 2) * 1 ≤ (m * 2) * 2 ^ u := Nat.mul_le_mul_left _ (Nat.two_pow_pos _)
  rw [this]
  generalize (m * 2) * 2 ^ u = z at *
  omega

theorem gt_same {m n : Nat} {i : Int} (h : n < m) : (Datum.number false m i).order (.number false n i) = some .gt := by
  simp only [Datum.order]
  congr 1
  apply cmp_gt
  have e1 : (i - min i i).toNat = 0 := by omega
  rw [e1, sf, sf, Nat.pow_zero, Nat.mul_one, Nat.mul_one]
  omega

/-- A cell that the law's own test lets by. -/
theorem cell_ok (s : Bool) (q : Nat) (hq : q ≤ 2047 * 2 ^ 52) (h0 : q ≠ 0) (h1 : Ieee.double.order (W false q) 3706462493325918208 ≠ some .lt) (h2 : Ieee.double.order (W false q) 5507902344274116608 ≠ some .gt) :
    SG 1 823 (2 ^ 1275) (some (W s q)) (fop .mul (some two) (some (W s q))) := by
  have r1 : Ieee.double.read 3706462493325918208 = .number false (2 ^ 52) (-252) := by decide +kernel
  have r2 : Ieee.double.read 5507902344274116608 = .number false (2 ^ 52) 148 := by decide +kernel
  unfold Ieee.Format.order at h1 h2
  rw [r1] at h1
  rw [r2] at h2
  by_cases q1 : q < 2 ^ 52
  · exfalso
    rw [read_sub false q q1] at h1
    exact h1 (lt_one (by omega) (by omega) (by omega))
  by_cases q2 : q = 2047 * 2 ^ 52
  · exfalso
    subst q2
    rw [read_inf] at h2
    simp [Datum.order] at h2
  have b1 : 1 ≤ q / 2 ^ 52 ∧ q / 2 ^ 52 ≤ 2046 := by omega
  have hr := read_W0 false q b1.1 b1.2
  rw [hr] at h1 h2
  have l1 : 823 ≤ q / 2 ^ 52 := by
    rcases Nat.lt_or_ge (q / 2 ^ 52) 823 with h | h
    · exfalso
      exact h1 (lt_one (by omega) (by omega) (by omega))
    · exact h
  have l2 : q / 2 ^ 52 ≤ 1223 := by
    rcases Nat.lt_or_ge 1223 (q / 2 ^ 52) with h | h
    · exfalso
      exact h2 (gt_one (by omega) (by omega) (by omega))
    · exact h
  refine .inr (.inr ⟨s, q, rfl, ?_, by omega, ?_, ?_⟩)
  · rw [keym, mul_two s q b1.1 b1.2, Nat.min_eq_left (by omega), Nat.one_mul]
  · unfold V
    exact Nat.dvd_trans (Nat.pow_dvd_pow 2 l1) (Nat.dvd_mul_left _ _)
  · by_cases e : q / 2 ^ 52 = 1223
    · have hm : 2 ^ 52 + q % 2 ^ 52 ≤ 2 ^ 52 := by
        rcases Nat.lt_or_ge (2 ^ 52) (2 ^ 52 + q % 2 ^ 52) with h | h
        · exfalso
          have ei : (((1223 : Nat) : Int) - 1075) = 148 := by decide
          rw [e, ei] at h2
          exact h2 (gt_same h)
        · exact h
      unfold V
      rw [e]
      have : (2 ^ 52 + q % 2 ^ 52) * 2 ^ 1223 ≤ 2 ^ 52 * 2 ^ 1223 := Nat.mul_le_mul_right _ hm
      rwa [pow_mul] at this
    · exact Nat.le_of_lt (Nat.lt_of_lt_of_le (V_high q) (Nat.pow_le_pow_right (by omega) (by omega)))
end Go.Proofs.Qxb6605746aFmt.P8
