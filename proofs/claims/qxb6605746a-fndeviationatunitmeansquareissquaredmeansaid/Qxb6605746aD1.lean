import Derived.Test.Qxb6605746aA2
set_option linter.unusedVariables false
set_option linter.unusedSimpArgs false
namespace Go.Proofs.Qxb6605746a.D1
open Go.RowKit Go.Proofs.Qxb6605746a.A1 Ieee

theorem dSign : Ieee.double.signWeight = 2 ^ 63 := by decide
theorem dBin : Ieee.double.binade = 2 ^ 52 := by decide
theorem dInf : Ieee.double.infRung = 2047 * 2 ^ 52 := by decide
theorem dLeast : Ieee.double.leastPlace = -1074 := by decide
theorem dFrac : Ieee.double.fractionBits = 52 := rfl

theorem log2_shift (m : Nat) (hm : m ≠ 0) : ∀ k, (m * 2 ^ k).log2 = m.log2 + k
  | 0 => by simp
  | k + 1 => by
    have h0 : m * 2 ^ k ≠ 0 := Nat.mul_ne_zero hm (Nat.pos_iff_ne_zero.1 (Nat.two_pow_pos _))
    rw [Nat.pow_succ, ← Nat.mul_assoc, Nat.mul_comm, Nat.log2_two_mul h0, log2_shift m hm k, Nat.add_assoc]

theorem cut_zero (neg : Bool) (n : Nat) : Toward.even.cut neg n 0 = n := by
  unfold Toward.cut
  simp
  omega
/-- what is dropped is nought -/
theorem cut_exact (neg : Bool) (m k : Nat) (hm : m ≠ 0) : Toward.even.cut neg (m * 2 ^ k) k = m := by
  unfold Toward.cut
  rw [log2_shift m hm k, Nat.min_eq_left (by omega), Nat.one_shiftLeft]
  have h2 : 0 < 2 ^ k := Nat.two_pow_pos _
  simp only [Nat.mul_mod_left, Nat.mul_div_cancel _ h2]
  simp

theorem word_pos (k : Nat) : Ieee.double.word false k = k := rfl

theorem near_fit (neg : Bool) (m k : Nat) (hm : m ≠ 0) (h : m < 2 ^ 53) (hk : k = 0 ∨ 2 ^ 52 ≤ m) : Ieee.double.nearest neg (m * 2 ^ k) (-1074) = Ieee.double.word neg (min (k * 2 ^ 52 + m) Ieee.double.infRung) := by
  have h0 : m * 2 ^ k ≠ 0 := Nat.mul_ne_zero hm (Nat.pos_iff_ne_zero.1 (Nat.two_pow_pos _))
  have hl : m.log2 < 53 := (Nat.log2_lt hm).2 h
  unfold Ieee.Format.nearest
  rw [if_neg h0, dLeast, dFrac, log2_shift m hm k]
  have e1 : max ((-1074 : Int) + ((m.log2 + k : Nat) : Int) - ((52 : Nat) : Int)) (-1074) = -1074 + (k : Int) := by
    rcases hk with rfl | hk
    · omega
    · have := (Nat.le_log2 hm).2 hk
      omega
  simp only [e1]
  have e2 : ((-1074 : Int) - (-1074 + (k : Int))).toNat = 0 := by omega
  have e3 : ((-1074 : Int) + (k : Int) - -1074).toNat = k := by omega
  rw [e2, e3, Nat.shiftLeft_zero, cut_exact neg m k hm, dBin]

/-- A word that is not negative and no NaN, plus +0: itself. -/
theorem add_zero (x : Nat) (hx : x ≤ Ieee.double.infRung) : Ieee.double.add x 0 = some x := by
  rw [dInf] at hx
  have hm : x % Ieee.double.signWeight = x := by rw [dSign]; omega
  have hd : x / Ieee.double.signWeight % 2 = 0 := by rw [dSign]; omega
  have h0 : Ieee.double.read 0 = .number false 0 (-1074) := by decide +kernel
  unfold Ieee.Format.add
  rw [h0]
  unfold Ieee.Format.read
  simp only [hm, hd, dLeast]
  split
  · rename_i hlt
    rw [dBin] at hlt
    simp only [Datum.sum, signed, Option.map_some, Option.some.injEq, Ieee.Format.write]
    simp
    by_cases hx0 : x = 0
    · subst hx0; decide +kernel
    · have := near_fit false x 0 hx0 (by omega) (.inl rfl)
      rw [Nat.pow_zero, Nat.mul_one] at this
      rw [decide_eq_false (show ¬ ((x : Int) < 0) by omega), Bool.and_false, this, word_pos, dInf]
      omega
  · split
    · rename_i h1 h2
      rw [dBin] at h1
      rw [dInf] at h2
      simp only [Datum.sum, signed, Option.map_some, Option.some.injEq, Ieee.Format.write, dBin]
      have hq : 1 ≤ x / 2 ^ 52 := by omega
      obtain ⟨k, hk⟩ : ∃ k, k = x / 2 ^ 52 - 1 := ⟨_, rfl⟩
      obtain ⟨m, hm⟩ : ∃ m, m = 2 ^ 52 + x % 2 ^ 52 := ⟨_, rfl⟩
      rw [← hk, ← hm]
      have e1 : min ((-1074 : Int) + (k : Int)) (-1074) = -1074 := by omega
      rw [e1]
      have e2 : ((-1074 : Int) + (k : Int) - -1074).toNat = k := by omega
      have e3 : ((-1074 : Int) - -1074).toNat = 0 := by omega
      rw [e2, e3]
      have hm0 : m * 2 ^ k ≠ 0 := Nat.mul_ne_zero (by omega) (Nat.pos_iff_ne_zero.1 (Nat.two_pow_pos _))
      have := near_fit false m k (by omega) (by omega) (.inr (by omega))
      simp [Nat.shiftLeft_eq]
      have ec : (m : Int) * 2 ^ k = ((m * 2 ^ k : Nat) : Int) := by simp
      rw [ec, decide_eq_false (Int.not_lt.2 (Int.natCast_nonneg _)), Bool.and_false, Int.natAbs_natCast, this, word_pos, dInf]
      clear this hm0 ec e1 e2 e3 h0 hd
      omega
    · split
      · rename_i h
        simp [Datum.sum, Ieee.Format.write, word_pos, h]
      · rename_i h1 h2 h3
        rw [dInf] at h2 h3
        omega

theorem square_word (x r : Nat) (h : Ieee.double.mul x x = some r) : r ≤ Ieee.double.infRung := by
  unfold Ieee.Format.mul at h
  obtain ⟨d, hd, rfl⟩ := Option.map_eq_some_iff.1 h
  cases hr : Ieee.double.read x with
  | nan s t => rw [hr] at hd; simp [Datum.product] at hd
  | infinity s =>
    rw [hr] at hd
    simp [Datum.product] at hd
    subst hd
    simp [Ieee.Format.write, word_pos]
  | number s m e =>
    rw [hr] at hd
    simp [Datum.product] at hd
    subst hd
    simp only [Ieee.Format.write, Ieee.Format.nearest]
    split
    · rw [word_pos]; exact Nat.zero_le _
    · rw [word_pos]; exact Nat.min_le_right _ _

/-- A number by itself is 1. -/
theorem quo_self (x : Nat) (s : Bool) (m : Nat) (e : Int) (h : Ieee.double.read x = .number s m e) (hm : m ≠ 0) : Ieee.double.div x x = some 0x3FF0000000000000 := by
  unfold Ieee.Format.div
  rw [h]
  simp only [Datum.quotient]
  rw [if_neg hm]
  have e1 : Ieee.double.fractionBits + 2 + m.log2 - m.log2 = 54 := by rw [dFrac]; omega
  rw [e1, Nat.shiftLeft_eq, Nat.mul_div_cancel_left _ (by omega), Nat.mul_mod_right]
  have e2 : e - e - ((54 : Nat) : Int) - 1 = -55 := by omega
  rw [e2, Bool.xor_self]
  decide +kernel

theorem kept_bounds (neg : Bool) (mag : Nat) (h : mag ≠ 0) : 2 ^ 52 ≤ Toward.even.cut neg (mag <<< (52 - mag.log2)) (mag.log2 - 52) ∧ Toward.even.cut neg (mag <<< (52 - mag.log2)) (mag.log2 - 52) ≤ 2 ^ 53 := by
  obtain ⟨L, hL⟩ : ∃ L, mag.log2 = L := ⟨_, rfl⟩
  obtain ⟨b1, b2⟩ := (Nat.log2_eq_iff h).1 hL
  rw [hL]
  by_cases hc : L ≤ 52
  · have e1 : L - 52 = 0 := by omega
    rw [e1, cut_zero, Nat.shiftLeft_eq]
    have p1 : 2 ^ L * 2 ^ (52 - L) = 2 ^ 52 := by rw [← Nat.pow_add]; congr 1; omega
    have p2 : 2 ^ (L + 1) * 2 ^ (52 - L) = 2 ^ 53 := by rw [← Nat.pow_add]; congr 1; omega
    rw [← p1, ← p2]
    exact ⟨Nat.mul_le_mul_right _ b1, Nat.mul_le_mul_right _ (by omega)⟩
  · obtain ⟨d, rfl⟩ : ∃ d, L = 52 + d := ⟨L - 52, by omega⟩
    have e1 : 52 - (52 + d) = 0 := by omega
    have e2 : 52 + d - 52 = d := by omega
    rw [e1, e2, Nat.shiftLeft_zero]
    unfold Toward.cut
    rw [hL, Nat.min_eq_left (by omega), Nat.one_shiftLeft]
    have hp : 0 < 2 ^ d := Nat.two_pow_pos _
    have q1 : 2 ^ 52 ≤ mag / 2 ^ d := by
      rw [Nat.le_div_iff_mul_le hp, ← Nat.pow_add]
      exact b1
    have q2 : mag / 2 ^ d < 2 ^ 53 := by
      rw [Nat.div_lt_iff_lt_mul hp, ← Nat.pow_add]
      have : 53 + d = 52 + d + 1 := by omega
      rw [this]; exact b2
    exact ⟨Nat.le_trans q1 (Nat.le_add_right _ _), Nat.le_trans (Nat.add_le_add_left (Bool.toNat_le _) _) q2⟩

/-- A number that is neither too small nor too great: its word is a normal one. -/
theorem near_normal (neg : Bool) (mag : Nat) (place : Int) (h : mag ≠ 0) (h1 : -1022 ≤ place + mag.log2) (h2 : place + mag.log2 ≤ 1022) :
    ∃ k, Ieee.double.nearest neg mag place = Ieee.double.word neg k ∧ (place + mag.log2 + 1022).toNat * 2 ^ 52 + 2 ^ 52 ≤ k ∧ k ≤ (place + mag.log2 + 1022).toNat * 2 ^ 52 + 2 ^ 53 := by
  obtain ⟨b1, b2⟩ := kept_bounds neg mag h
  unfold Ieee.Format.nearest
  rw [if_neg h, dLeast, dFrac, dBin, dInf]
  have e1 : max (place + (mag.log2 : Int) - ((52 : Nat) : Int)) (-1074) = place + (mag.log2 : Int) - 52 := by omega
  simp only [e1]
  have e2 : (place - (place + (mag.log2 : Int) - 52)).toNat = 52 - mag.log2 := by omega
  have e3 : (place + (mag.log2 : Int) - 52 - place).toNat = mag.log2 - 52 := by omega
  have e4 : (place + (mag.log2 : Int) - 52 - -1074).toNat = (place + mag.log2 + 1022).toNat := by omega
  rw [e2, e3, e4]
  generalize Toward.even.cut neg (mag <<< (52 - mag.log2)) (mag.log2 - 52) = kept at *
  refine ⟨_, rfl, ?_⟩
  obtain ⟨t, ht⟩ : ∃ t, t = (place + mag.log2 + 1022).toNat := ⟨_, rfl⟩
  have ht2 : t ≤ 2044 := by omega
  rw [← ht]
  clear ht e4 e3 e2 e1 h1 h2
  omega

theorem read_normal (neg : Bool) (k : Nat) (h1 : 2 ^ 52 ≤ k) (h2 : k < 2047 * 2 ^ 52) : Ieee.double.read (Ieee.double.word neg k) = .number neg (2 ^ 52 + k % 2 ^ 52) (-1074 + (k / 2 ^ 52 - 1 : Nat)) := by
  have hm : Ieee.double.word neg k % Ieee.double.signWeight = k := by
    unfold Ieee.Format.word
    rw [dSign]
    cases neg <;> simp <;> omega
  have hd : (Ieee.double.word neg k / Ieee.double.signWeight % 2 == 1) = neg := by
    unfold Ieee.Format.word
    rw [dSign]
    cases neg
    · have : k / 2 ^ 63 % 2 = 0 := by omega
      simp [this]
    · have : (2 ^ 63 + k) / 2 ^ 63 % 2 = 1 := by omega
      rw [if_pos rfl, this]
      rfl
  unfold Ieee.Format.read
  simp only [hm, hd]
  rw [if_neg (by rw [dBin]; omega), if_pos (by rw [dInf]; exact h2), dBin, dLeast]

theorem read_int (n : Int) (h : n ≠ 0) (hb : n.natAbs < 2 ^ 64) : ∃ s m e, Ieee.double.read (floatOfInt .f64 n) = .number s m e ∧ m ≠ 0 := by
  have h0 : n.natAbs ≠ 0 := by omega
  have hl : n.natAbs.log2 < 64 := (Nat.log2_lt h0).2 hb
  obtain ⟨k, hk, k1, k2⟩ := near_normal (decide (n < 0)) n.natAbs 0 h0 (by omega) (by omega)
  have e : floatOfInt .f64 n = Ieee.double.word (decide (n < 0)) k := hk
  rw [e, read_normal _ k (by omega) (by omega)]
  exact ⟨_, _, _, rfl, by omega⟩
end Go.Proofs.Qxb6605746a.D1
