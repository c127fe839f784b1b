import Derived.Test.Qxb6605746aFmtP5
set_option linter.unusedVariables false
set_option linter.unusedSimpArgs false
namespace Go.Proofs.Qxb6605746aFmt.P6
open Ieee Go.Proofs.Qxb6605746aFmt.P1 Go.Proofs.Qxb6605746aFmt.P2 Go.Proofs.Qxb6605746aFmt.P3 Go.Proofs.Qxb6605746aFmt.P4 Go.Proofs.Qxb6605746aFmt.P5

theorem sf (m u : Nat) : signed false m u = ((m * 2 ^ u : Nat) : Int) := by rw [signed_eq]; simp
theorem st (m u : Nat) : signed true m u = -((m * 2 ^ u : Nat) : Int) := by rw [signed_eq]; simp

theorem gt_pos {m n : Nat} {i j : Int} {t : Bool} (hm : 0 < m) (h : t = true ∨ n = 0) : (Datum.number false m i).order (.number t n j) = some .gt := by
  simp only [Datum.order]
  congr 1
  apply cmp_gt
  have hp : 0 < m * 2 ^ (i - min i j).toNat := Nat.mul_pos hm (Nat.two_pow_pos _)
  rw [sf]
  generalize m * 2 ^ (i - min i j).toNat = z at *
  rcases h with rfl | rfl
  · rw [st]; generalize n * 2 ^ (j - min i j).toNat = y; omega
  · rw [signed_zero]; omega
theorem gt_small {m n : Nat} {i j : Int} (hm : 2 ^ 52 ≤ m) (hn : n < 2 ^ 53) (h : j + 2 ≤ i) : (Datum.number false m i).order (.number false n j) = some .gt := by
  simp only [Datum.order]
  congr 1
  apply cmp_gt
  have e1 : min i j = j := by omega
  have e2 : (j - j).toNat = 0 := by omega
  obtain ⟨u, hu⟩ : ∃ u, (i - j).toNat = u + 2 := ⟨(i - j).toNat - 2, by omega⟩
  rw [e1, e2, hu, sf, sf, Nat.pow_zero, Nat.mul_one]
  have : m * 2 ^ (u + 2) = (m * 4) * 2 ^ u := by rw [Nat.pow_add, Nat.mul_comm (2 ^ u), ← Nat.mul_assoc]
  have h2 : (m * 4) * 1 ≤ (m * 4) * 2 ^ u := Nat.mul_le_mul_left _ (Nat.two_pow_pos _)
  rw [this]
  generalize (m * 4) * 2 ^ u = z at *
  omega
theorem lt_big {m n : Nat} {i j : Int} (hm : m < 2 ^ 53) (hn : 2 ^ 52 ≤ n) (h : i + 2 ≤ j) : (Datum.number false m i).order (.number false n j) = some .lt := by
  simp only [Datum.order]
  congr 1
  apply cmp_lt
  have e1 : min i j = i := by omega
  have e2 : (i - i).toNat = 0 := by omega
  obtain ⟨u, hu⟩ : ∃ u, (j - i).toNat = u + 2 := ⟨(j - i).toNat - 2, by omega⟩
  rw [e1, e2, hu, sf, sf, Nat.pow_zero, Nat.mul_one]
  have : n * 2 ^ (u + 2) = (n * 4) * 2 ^ u := by rw [Nat.pow_add, Nat.mul_comm (2 ^ u), ← Nat.mul_assoc]
  have h2 : (n * 4) * 1 ≤ (n * 4) * 2 ^ u := Nat.mul_le_mul_left _ (Nat.two_pow_pos _)
  rw [this]
  generalize (n * 4) * 2 ^ u = z at *
  omega
theorem order_shift (s t : Bool) (m n : Nat) (p p' k : Nat) : (Datum.number s m ((p + k : Nat) - 1075)).order (.number t n ((p' + k : Nat) - 1075)) = (Datum.number s m ((p : Nat) - 1075)).order (.number t n ((p' : Nat) - 1075)) := by
  simp only [Datum.order]
  have e1 : (((p + k : Nat) : Int) - 1075 - min (((p + k : Nat) : Int) - 1075) (((p' + k : Nat) : Int) - 1075)).toNat = (((p : Nat) : Int) - 1075 - min (((p : Nat) : Int) - 1075) (((p' : Nat) : Int) - 1075)).toNat := by omega
  have e2 : (((p' + k : Nat) : Int) - 1075 - min (((p + k : Nat) : Int) - 1075) (((p' + k : Nat) : Int) - 1075)).toNat = (((p' : Nat) : Int) - 1075 - min (((p : Nat) : Int) - 1075) (((p' : Nat) : Int) - 1075)).toNat := by omega
  rw [e1, e2]

theorem keyg (u v : Nat) : fgt (some u) (some v) = (Ieee.double.order u v == some .gt) := rfl
theorem fgt_none (x : Option Nat) : fgt x none = false := by cases x <;> rfl
theorem read_inf (t : Bool) : Ieee.double.read (W t (2047 * 2 ^ 52)) = .infinity t := by cases t <;> decide +kernel

theorem word_of (f : Nat) (hf : f < 2 ^ 64) (h : fnum f ≠ none) : ∃ t q, f = W t q ∧ q ≤ 2047 * 2 ^ 52 := by
  refine ⟨decide (2 ^ 63 ≤ f), f % 2 ^ 63, ?_, ?_⟩
  · unfold W Ieee.Format.word
    rw [dSign]
    by_cases hs : 2 ^ 63 ≤ f
    · simp [hs]; omega
    · simp [hs]; omega
  · by_cases hq : f % 2 ^ 63 ≤ 2047 * 2 ^ 52
    · exact hq
    · exfalso
      apply h
      apply fnum_none
      show (Ieee.double.read f).isNaN = true
      unfold Ieee.Format.read
      rw [dSign, dBin, dInf]
      dsimp only
      rw [if_neg (by omega), if_neg (by omega), if_neg (by omega)]
      rfl
theorem read_sub (t : Bool) (q : Nat) (h : q < 2 ^ 52) : Ieee.double.read (W t q) = .number t q (-1074) := by
  have hm : Ieee.double.word t q % Ieee.double.signWeight = q := by
    unfold Ieee.Format.word
    rw [dSign]
    cases t <;> simp <;> omega
  have hd : (Ieee.double.word t q / Ieee.double.signWeight % 2 == 1) = t := by
    unfold Ieee.Format.word
    rw [dSign]
    cases t
    · have : q / 2 ^ 63 % 2 = 0 := by omega
      simp [this]
    · have : (2 ^ 63 + q) / 2 ^ 63 % 2 = 1 := by omega
      rw [if_pos rfl, this]
      rfl
  unfold W Ieee.Format.read
  simp only [hm, hd]
  rw [if_pos (by rw [dBin]; exact h), dLeast]

/-- 'sd > floor' of a positive number, and of both doubled. -/
theorem fgt_dbl (r f : Nat) (h1 : 60 ≤ r / 2 ^ 52) (h2 : r / 2 ^ 52 ≤ 1900) (hf : f < 2 ^ 64) :
    fgt (some (W false (r + 1 * 2 ^ 52))) (fop .mul (some two) (fnum f)) = fgt (some (W false r)) (fnum f) := by
  cases hn : fnum f with
  | none => rw [none_r, fgt_none, fgt_none]
  | some f' =>
    have ef : f' = f := by unfold fnum at hn; split at hn <;> simp_all
    subst ef
    obtain ⟨t, q, rfl, hq⟩ := word_of f' hf (by rw [hn]; simp)
    have hr := read_W0 false r (by omega) (by omega)
    have hr' := read_W false r 1 (by omega) (by omega)
    have m1 : 2 ^ 52 ≤ 2 ^ 52 + r % 2 ^ 52 ∧ 2 ^ 52 + r % 2 ^ 52 < 2 ^ 53 := by omega
    generalize r + 1 * 2 ^ 52 = r' at *
    generalize 2 ^ 52 + r % 2 ^ 52 = m at *
    rw [keym]
    by_cases q0 : q = 0
    · subst q0
      rw [mul_two_zero, keyg, keyg]
      unfold Ieee.Format.order
      rw [hr, hr', read_zero, gt_pos (by omega) (.inr rfl), gt_pos (by omega) (.inr rfl)]
    by_cases q1 : q < 2 ^ 52
    · rw [mul_two_sub t q q0 q1, keyg, keyg]
      have hq1 := read_sub t q q1
      have hq2 : ∃ n j, Ieee.double.read (W t (2 * q)) = .number t n j ∧ n < 2 ^ 53 ∧ j ≤ -1074 := by
        by_cases q2 : 2 * q < 2 ^ 52
        · exact ⟨_, _, read_sub t _ q2, by omega, by omega⟩
        · exact ⟨_, _, read_W0 t (2 * q) (by omega) (by omega), by omega, by omega⟩
      obtain ⟨n, j, hq2, n1, j1⟩ := hq2
      unfold Ieee.Format.order
      rw [hr, hr', hq1, hq2]
      cases t with
      | true => rw [gt_pos (by omega) (.inl rfl), gt_pos (by omega) (.inl rfl)]
      | false => rw [gt_small m1.1 n1 (by omega), gt_small m1.1 (by omega) (by omega)]
    by_cases q2 : q = 2047 * 2 ^ 52
    · subst q2
      rw [mul_two_inf, keyg, keyg]
      unfold Ieee.Format.order
      rw [hr, hr', read_inf]
      rfl
    have b1 : 1 ≤ q / 2 ^ 52 ∧ q / 2 ^ 52 ≤ 2046 := by omega
    rw [mul_two t q b1.1 b1.2, keyg, keyg]
    have hq1 := read_W0 t q b1.1 b1.2
    by_cases q3 : q / 2 ^ 52 = 2046
    · rw [Nat.min_eq_right (by omega)]
      unfold Ieee.Format.order
      rw [hr, hr', read_inf, hq1]
      cases t with
      | true => rw [gt_pos (by omega) (.inl rfl)]; rfl
      | false => rw [lt_big m1.2 (by omega) (by omega)]; rfl
    · have e : min (q + 2 ^ 52) (2047 * 2 ^ 52) = q + 1 * 2 ^ 52 := by omega
      rw [e]
      have hq2 := read_W t q 1 b1.1 (by omega)
      unfold Ieee.Format.order
      rw [hr, hr', hq1, hq2, order_shift]

theorem read_max : Ieee.double.read 9218868437227405311 = .number false (2 ^ 53 - 1) 971 := by decide +kernel
theorem read_null : Ieee.double.read 0 = .number false 0 (-1074) := by decide +kernel

theorem ok_pos (r : Nat) (f : Option Nat) (h1 : 60 ≤ r / 2 ^ 52) (h2 : r / 2 ^ 52 ≤ 1950) : ok (some (W false r)) f = fgt (some (W false r)) f := by
  have hr := read_W0 false r (by omega) (by omega)
  have e1 : fgt (some (W false r)) (some 0) = true := by
    rw [keyg]
    unfold Ieee.Format.order
    rw [hr, read_null, gt_pos (by omega) (.inr rfl)]
    rfl
  have e2 : fle (some (W false r)) (some 9218868437227405311) = true := by
    show (Ieee.double.order (W false r) 9218868437227405311 == some .lt || Ieee.double.order (W false r) 9218868437227405311 == some .eq) = true
    have : Ieee.double.order (W false r) 9218868437227405311 = some .lt := by
      unfold Ieee.Format.order
      rw [hr, read_max, lt_big (by omega) (by omega) (by omega)]
    rw [this]
    rfl
  unfold ok
  rw [e1, e2, Bool.and_true, Bool.and_true]

theorem ok_neg (r : Nat) (f : Option Nat) (h1 : 1 ≤ r / 2 ^ 52) (h2 : r / 2 ^ 52 ≤ 2046) : ok (some (W true r)) f = false := by
  have hr := read_W0 true r (by omega) (by omega)
  have e1 : fgt (some (W true r)) (some 0) = false := by
    rw [keyg]
    unfold Ieee.Format.order
    rw [hr, read_null]
    simp only [Datum.order, signed_zero]
    rw [st]
    have hp : 0 < (2 ^ 52 + r % 2 ^ 52) * 2 ^ (((r / 2 ^ 52 : Nat) : Int) - 1075 - min (((r / 2 ^ 52 : Nat) : Int) - 1075) (-1074)).toNat := Nat.mul_pos (by omega) (Nat.two_pow_pos _)
    rw [cmp_lt (by omega)]
    rfl
  unfold ok
  rw [e1, Bool.and_false, Bool.false_and]
theorem ok_zero (s : Bool) (f : Option Nat) : ok (some (W s 0)) f = false := by
  have e1 : fgt (some (W s 0)) (some 0) = false := by cases s <;> decide +kernel
  unfold ok
  rw [e1, Bool.and_false, Bool.false_and]

/-- checkScale answers alike on a table and on the doubled one. -/
theorem ok_dbl {lo hi : Nat} {sd sd' : Option Nat} (f : Nat) (h : Sc 1 lo hi sd sd') (h1 : 60 ≤ lo) (h2 : hi ≤ 1900) (hf : f < 2 ^ 64) : ok sd' (fop .mul (some two) (fnum f)) = ok sd (fnum f) := by
  rcases h with ⟨rfl, rfl⟩ | ⟨s, rfl, rfl⟩ | ⟨s, r, rfl, rfl, a1, a2⟩
  · unfold ok fgt; rfl
  · rw [ok_zero, ok_zero]
  · cases s with
    | true => rw [ok_neg _ _ (by omega) (by omega), ok_neg _ _ (by omega) (by omega)]
    | false => rw [ok_pos _ _ (by omega) (by omega), ok_pos _ _ (by omega) (by omega), fgt_dbl r f (by omega) (by omega) hf]
end Go.Proofs.Qxb6605746aFmt.P6
