import Derived.Laws.FloatArith
import Derived.KernelRfl
set_option linter.unusedVariables false
set_option linter.unusedSimpArgs false
namespace Go.Proofs.Qxb6605746aFmt.P1
open Ieee

/-- The bits of a float64, or 'none' where they are a NaN's. -/
def fnum (x : Nat) : Option Nat := if (FloatKind.f64.format.read x).isNaN then none else some x

/-- An operation on such: 'none' where it is invalid. -/
def fop (op : BinOp) (a b : Option Nat) : Option Nat := a.bind fun x => b.bind fun y => floatBits op .f64 x y

theorem fnum_none {x : Nat} (h : (FloatKind.f64.format.read x).isNaN = true) : fnum x = none := by unfold fnum; rw [if_pos h]
theorem fnum_some {x : Nat} (h : (FloatKind.f64.format.read x).isNaN = false) : fnum x = some x := by unfold fnum; rw [if_neg (by simp [h])]

theorem order_self (d : Ieee.Datum) : d.order d = if d.isNaN then none else some .eq := by
  cases d with
  | number s m e => simp [Ieee.Datum.order, Ieee.Datum.isNaN]
  | infinity s => simp [Ieee.Datum.order, Ieee.Datum.isNaN]
  | nan s t => simp [Ieee.Datum.order, Ieee.Datum.isNaN]

theorem ord_self (x : Nat) : FloatKind.f64.format.order x x = (fnum x).map (fun _ => Ordering.eq) := by
  unfold Ieee.Format.order
  rw [order_self]
  cases h : (FloatKind.f64.format.read x).isNaN
  · rw [fnum_some h]; simp
  · rw [fnum_none h]; simp

theorem ord_none (x y : Nat) (h : fnum x = none) : FloatKind.f64.format.order x y = none := by
  unfold fnum at h
  split at h
  · rename_i hn
    unfold Ieee.Format.order
    generalize FloatKind.f64.format.read x = d at *
    cases d <;> simp_all [Ieee.Datum.isNaN, Ieee.Datum.order]
  · cases h

theorem sum_nan {a b : Ieee.Datum} (h : a.isNaN = true ∨ b.isNaN = true) : a.sum b = none := by
  cases a <;> cases b <;> simp_all [Ieee.Datum.isNaN, Ieee.Datum.sum]
theorem product_nan {a b : Ieee.Datum} (h : a.isNaN = true ∨ b.isNaN = true) : a.product b = none := by
  cases a <;> cases b <;> simp_all [Ieee.Datum.isNaN, Ieee.Datum.product]
theorem quotient_nan {n : Nat} {a b : Ieee.Datum} (h : a.isNaN = true ∨ b.isNaN = true) : a.quotient n b = none := by
  cases a <;> cases b <;> simp_all [Ieee.Datum.isNaN, Ieee.Datum.quotient]
theorem opp_nan (a : Ieee.Datum) : a.opposite.isNaN = a.isNaN := by cases a <;> rfl

theorem bits_nan (op : BinOp) (x y : Nat) (h : fnum x = none ∨ fnum y = none) : floatBits op .f64 x y = none := by
  have h' : (FloatKind.f64.format.read x).isNaN = true ∨ (FloatKind.f64.format.read y).isNaN = true := by
    rcases h with h | h
    · left; unfold fnum at h; split at h
      · assumption
      · cases h
    · right; unfold fnum at h; split at h
      · assumption
      · cases h
  unfold floatBits
  split
  · unfold Ieee.Format.add; rw [sum_nan h']; rfl
  · unfold Ieee.Format.sub; rw [sum_nan (by rw [opp_nan]; exact h')]; rfl
  · unfold Ieee.Format.mul; rw [product_nan h']; rfl
  · unfold Ieee.Format.div; rw [quotient_nan h']; rfl
  · rfl

theorem fop_bits (op : BinOp) (x y : Nat) : fop op (fnum x) (fnum y) = floatBits op .f64 x y := by
  unfold fop
  cases hx : fnum x with
  | none => rw [bits_nan op x y (.inl hx)]; rfl
  | some x' =>
    cases hy : fnum y with
    | none => rw [bits_nan op x y (.inr hy)]; rfl
    | some y' =>
      have e1 : x' = x := by unfold fnum at hx; split at hx <;> simp_all
      have e2 : y' = y := by unfold fnum at hy; split at hy <;> simp_all
      subst e1; subst e2; rfl

theorem read_word (s : Bool) (k : Nat) (hk : k ≤ Ieee.double.infRung) : (Ieee.double.read (Ieee.double.word s k)).isNaN = false := by
  have e1 : Ieee.double.signWeight = 9223372036854775808 := by decide
  have e3 : Ieee.double.infRung = 9218868437227405312 := by decide
  have hm : Ieee.double.word s k % Ieee.double.signWeight = k := by
    unfold Ieee.Format.word
    rw [e1]
    cases s <;> simp <;> omega
  unfold Ieee.Format.read
  simp only [hm]
  split
  · rfl
  · split
    · rfl
    · split
      · rfl
      · omega

theorem write_num (d : Ieee.Datum) (h : d.isNaN = false) : (Ieee.double.read (Ieee.double.write d)).isNaN = false := by
  cases d with
  | number s m e =>
    unfold Ieee.Format.write Ieee.Format.nearest
    dsimp only
    split
    · exact read_word _ _ (by omega)
    · exact read_word _ _ (Nat.min_le_right _ _)
  | infinity s => exact read_word _ _ (Nat.le_refl _)
  | nan s t => simp [Ieee.Datum.isNaN] at h

theorem sum_num {a b c : Ieee.Datum} (h : a.sum b = some c) : c.isNaN = false := by
  cases a <;> cases b <;> simp [Ieee.Datum.sum] at h
  · subst h; rfl
  · subst h; rfl
  · subst h; rfl
  · obtain ⟨_, rfl⟩ := h; rfl
theorem product_num {a b c : Ieee.Datum} (h : a.product b = some c) : c.isNaN = false := by
  cases a <;> cases b <;> simp [Ieee.Datum.product] at h
  · subst h; rfl
  · obtain ⟨_, rfl⟩ := h; rfl
  · obtain ⟨_, rfl⟩ := h; rfl
  · subst h; rfl
theorem quotient_num {n : Nat} {a b c : Ieee.Datum} (h : a.quotient n b = some c) : c.isNaN = false := by
  cases a <;> cases b <;> simp [Ieee.Datum.quotient] at h
  · split at h
    · split at h
      · cases h
      · cases h; rfl
    · simp at h; subst h; rfl
  · subst h; rfl
  · subst h; rfl

theorem bits_num {op : BinOp} {x y r : Nat} (h : floatBits op .f64 x y = some r) : fnum r = some r := by
  have hf : FloatKind.f64.format = Ieee.double := rfl
  refine fnum_some ?_
  rw [hf]
  unfold floatBits at h
  split at h
  · unfold Ieee.Format.add at h
    obtain ⟨d, hd, rfl⟩ := Option.map_eq_some_iff.1 h
    exact write_num d (sum_num hd)
  · unfold Ieee.Format.sub at h
    obtain ⟨d, hd, rfl⟩ := Option.map_eq_some_iff.1 h
    exact write_num d (sum_num hd)
  · unfold Ieee.Format.mul at h
    obtain ⟨d, hd, rfl⟩ := Option.map_eq_some_iff.1 h
    exact write_num d (product_num hd)
  · unfold Ieee.Format.div at h
    obtain ⟨d, hd, rfl⟩ := Option.map_eq_some_iff.1 h
    exact write_num d (quotient_num hd)
  · cases h

theorem dSign : Ieee.double.signWeight = 2 ^ 63 := by decide
theorem dBin : Ieee.double.binade = 2 ^ 52 := by decide
theorem dInf : Ieee.double.infRung = 2047 * 2 ^ 52 := by decide
theorem dLeast : Ieee.double.leastPlace = -1074 := by decide
theorem dFrac : Ieee.double.fractionBits = 52 := rfl

theorem log2_shift (m : Nat) (hm : m ≠ 0) : ∀ k, (m * 2 ^ k).log2 = m.log2 + k
  | 0 => by simp
  | k + 1 => by
    have h0 : m * 2 ^ k ≠ 0 := Nat.mul_ne_zero hm (Nat.pos_iff_ne_zero.1 (Nat.two_pow_pos _))
    rw [Nat.pow_succ, ← Nat.mul_assoc, Nat.mul_comm, Nat.log2_two_mul h0, log2_shift m hm k, Nat.add_assoc]

theorem cut_zero (neg : Bool) (n : Nat) : Toward.even.cut neg n 0 = n := by
  unfold Toward.cut
  simp
  omega
/-- what is dropped is nought -/
theorem cut_exact (neg : Bool) (m k : Nat) (hm : m ≠ 0) : Toward.even.cut neg (m * 2 ^ k) k = m := by
  unfold Toward.cut
  rw [log2_shift m hm k, Nat.min_eq_left (by omega), Nat.one_shiftLeft]
  have h2 : 0 < 2 ^ k := Nat.two_pow_pos _
  simp only [Nat.mul_mod_left, Nat.mul_div_cancel _ h2]
  simp

theorem word_pos (k : Nat) : Ieee.double.word false k = k := rfl

theorem kept_bounds (neg : Bool) (mag : Nat) (h : mag ≠ 0) : 2 ^ 52 ≤ Toward.even.cut neg (mag <<< (52 - mag.log2)) (mag.log2 - 52) ∧ Toward.even.cut neg (mag <<< (52 - mag.log2)) (mag.log2 - 52) ≤ 2 ^ 53 := by
  obtain ⟨L, hL⟩ : ∃ L, mag.log2 = L := ⟨_, rfl⟩
  obtain ⟨b1, b2⟩ := (Nat.log2_eq_iff h).1 hL
  rw [hL]
  by_cases hc : L ≤ 52
  · have e1 : L - 52 = 0 := by omega
    rw [e1, cut_zero, Nat.shiftLeft_eq]
    have p1 : 2 ^ L * 2 ^ (52 - L) = 2 ^ 52 := by rw [← Nat.pow_add]; congr 1; omega
    have p2 : 2 ^ (L + 1) * 2 ^ (52 - L) = 2 ^ 53 := by rw [← Nat.pow_add]; congr 1; omega
    rw [← p1, ← p2]
    exact ⟨Nat.mul_le_mul_right _ b1, Nat.mul_le_mul_right _ (by omega)⟩
  · obtain ⟨d, rfl⟩ : ∃ d, L = 52 + d := ⟨L - 52, by omega⟩
    have e1 : 52 - (52 + d) = 0 := by omega
    have e2 : 52 + d - 52 = d := by omega
    rw [e1, e2, Nat.shiftLeft_zero]
    unfold Toward.cut
    rw [hL, Nat.min_eq_left (by omega), Nat.one_shiftLeft]
    have hp : 0 < 2 ^ d := Nat.two_pow_pos _
    have q1 : 2 ^ 52 ≤ mag / 2 ^ d := by
      rw [Nat.le_div_iff_mul_le hp, ← Nat.pow_add]
      exact b1
    have q2 : mag / 2 ^ d < 2 ^ 53 := by
      rw [Nat.div_lt_iff_lt_mul hp, ← Nat.pow_add]
      have : 53 + d = 52 + d + 1 := by omega
      rw [this]; exact b2
    exact ⟨Nat.le_trans q1 (Nat.le_add_right _ _), Nat.le_trans (Nat.add_le_add_left (Bool.toNat_le _) _) q2⟩

theorem read_normal (neg : Bool) (k : Nat) (h1 : 2 ^ 52 ≤ k) (h2 : k < 2047 * 2 ^ 52) : Ieee.double.read (Ieee.double.word neg k) = .number neg (2 ^ 52 + k % 2 ^ 52) (-1074 + (k / 2 ^ 52 - 1 : Nat)) := by
  have hm : Ieee.double.word neg k % Ieee.double.signWeight = k := by
    unfold Ieee.Format.word
    rw [dSign]
    cases neg <;> simp <;> omega
  have hd : (Ieee.double.word neg k / Ieee.double.signWeight % 2 == 1) = neg := by
    unfold Ieee.Format.word
    rw [dSign]
    cases neg
    · have : k / 2 ^ 63 % 2 = 0 := by omega
      simp [this]
    · have : (2 ^ 63 + k) / 2 ^ 63 % 2 = 1 := by omega
      rw [if_pos rfl, this]
      rfl
  unfold Ieee.Format.read
  simp only [hm, hd]
  rw [if_neg (by rw [dBin]; omega), if_pos (by rw [dInf]; exact h2), dBin, dLeast]


/-- What a normal rung stands for, in units of 2^-1075. -/
def V (r : Nat) : Nat := (2 ^ 52 + r % 2 ^ 52) * 2 ^ (r / 2 ^ 52)

theorem cut_le (neg : Bool) (n d q : Nat) (hd : d ≤ n.log2 + 2) (h : n ≤ q * 2 ^ d) : Toward.even.cut neg n d ≤ q := by
  unfold Toward.cut
  rw [Nat.min_eq_left hd, Nat.one_shiftLeft]
  have hp : 0 < 2 ^ d := Nat.two_pow_pos _
  have h1 : n / 2 ^ d ≤ q := by
    have := Nat.div_le_div_right (c := 2 ^ d) h
    rwa [Nat.mul_div_cancel _ hp] at this
  have h2 := Nat.div_add_mod n (2 ^ d)
  have h3 := Nat.mod_lt n hp
  by_cases hr : n % 2 ^ d = 0
  · dsimp only
    have hz : (2 ^ d == 0) = false := beq_eq_false_iff_ne.2 (Nat.pos_iff_ne_zero.1 hp)
    rw [hr]
    simp [hz]
    exact h1
  · have h4 : n / 2 ^ d < q := by
      rcases Nat.lt_or_ge (n / 2 ^ d) q with h5 | h5
      · exact h5
      · exfalso
        have h6 : n / 2 ^ d = q := Nat.le_antisymm h1 h5
        rw [h6, Nat.mul_comm] at h2
        generalize q * 2 ^ d = z at *
        omega
    exact Nat.le_trans (Nat.add_le_add_left (Bool.toNat_le _) _) h4

/-- Rounding: the rung; that it goes up by one binade for each doubling; what it divides; what it stays below. -/
theorem round_spec (neg : Bool) (mag e0 : Nat) (h : mag ≠ 0) (h1 : 53 ≤ e0 + mag.log2) (h2 : e0 + mag.log2 ≤ 2090) :
    ∃ r, (∀ k, e0 + mag.log2 + k ≤ 2090 → Ieee.double.nearest neg mag ((e0 + k : Nat) - 1075) = Ieee.double.word neg (r + k * 2 ^ 52)) ∧
      e0 + mag.log2 - 52 ≤ r / 2 ^ 52 ∧ r / 2 ^ 52 ≤ e0 + mag.log2 - 51 ∧
      (∀ g, 2 ^ g ∣ mag * 2 ^ e0 → 2 ^ g ∣ V r) ∧ (∀ n b, n ≤ 2 ^ 52 → mag * 2 ^ e0 ≤ n * 2 ^ b → V r ≤ n * 2 ^ b) := by
  obtain ⟨b1, b2⟩ := kept_bounds neg mag h
  obtain ⟨L, hL⟩ : ∃ L, mag.log2 = L := ⟨_, rfl⟩
  obtain ⟨l1, l2⟩ := (Nat.log2_eq_iff h).1 hL
  rw [hL] at b1 b2 h1 h2 ⊢
  obtain ⟨kept, hk⟩ : ∃ kept, Toward.even.cut neg (mag <<< (52 - L)) (L - 52) = kept := ⟨_, rfl⟩
  rw [hk] at b1 b2
  obtain ⟨t, ht⟩ : ∃ t, e0 + L = t + 53 := ⟨e0 + L - 53, by omega⟩
  have hV : V (t * 2 ^ 52 + kept) = kept * 2 ^ (t + 1) ∧ t + 1 ≤ (t * 2 ^ 52 + kept) / 2 ^ 52 ∧ (t * 2 ^ 52 + kept) / 2 ^ 52 ≤ t + 2 := by
    unfold V
    by_cases hc : kept = 2 ^ 53
    · have e1 : (t * 2 ^ 52 + kept) / 2 ^ 52 = t + 2 := by omega
      have e2 : (t * 2 ^ 52 + kept) % 2 ^ 52 = 0 := by omega
      rw [e1, e2, hc]
      refine ⟨?_, by omega, by omega⟩
      have e3 : 2 ^ (t + 2) = 2 * 2 ^ (t + 1) := by rw [Nat.pow_succ]; omega
      rw [e3]
      generalize 2 ^ (t + 1) = z
      omega
    · have e1 : (t * 2 ^ 52 + kept) / 2 ^ 52 = t + 1 := by omega
      have e2 : 2 ^ 52 + (t * 2 ^ 52 + kept) % 2 ^ 52 = kept := by omega
      rw [e1, e2]
      exact ⟨rfl, by omega, by omega⟩
  obtain ⟨v1, v2, v3⟩ := hV
  -- exact where nothing is dropped
  have exact_ : (L ≤ 52 ∨ 2 ^ (L - 52) ∣ mag) → kept * 2 ^ (t + 1) = mag * 2 ^ e0 := by
    intro hx
    by_cases hc : L ≤ 52
    · have e1 : L - 52 = 0 := by omega
      rw [e1, cut_zero, Nat.shiftLeft_eq] at hk
      rw [← hk, Nat.mul_assoc, ← Nat.pow_add]
      congr 2
      omega
    · rcases hx with hx | ⟨q, hq⟩
      · omega
      · have e1 : 52 - L = 0 := by omega
        have hq0 : q ≠ 0 := by
          intro h0
          rw [h0, Nat.mul_zero] at hq
          exact h hq
        rw [e1, Nat.shiftLeft_zero, hq, Nat.mul_comm, cut_exact neg q _ hq0] at hk
        rw [← hk, hq, Nat.mul_comm (2 ^ (L - 52)) q, Nat.mul_assoc, ← Nat.pow_add]
        congr 2
        omega
  have low : 2 ^ (t + 53) ≤ mag * 2 ^ e0 := by
    have : 2 ^ (t + 53) = 2 ^ L * 2 ^ e0 := by rw [← Nat.pow_add]; congr 1; omega
    rw [this]
    exact Nat.mul_le_mul_right _ l1
  refine ⟨t * 2 ^ 52 + kept, ?_, by omega, by omega, ?_, ?_⟩
  · intro k hkk
    unfold Ieee.Format.nearest
    rw [if_neg h, dLeast, dFrac, dBin, dInf, hL]
    have e1 : max (((e0 + k : Nat) : Int) - 1075 + (L : Int) - ((52 : Nat) : Int)) (-1074) = ((e0 + k : Nat) : Int) - 1075 + (L : Int) - 52 := by omega
    simp only [e1]
    have e2 : (((e0 + k : Nat) : Int) - 1075 - (((e0 + k : Nat) : Int) - 1075 + (L : Int) - 52)).toNat = 52 - L := by omega
    have e3 : (((e0 + k : Nat) : Int) - 1075 + (L : Int) - 52 - (((e0 + k : Nat) : Int) - 1075)).toNat = L - 52 := by omega
    have e4 : (((e0 + k : Nat) : Int) - 1075 + (L : Int) - 52 - -1074).toNat = t + k := by omega
    rw [e2, e3, e4, hk]
    congr 1
    clear e1 e2 e3 e4 exact_ low v1 v2 v3 l1 l2 hk
    omega
  · intro g hg
    rw [v1]
    by_cases hd : g ≤ t + 1
    · exact Nat.dvd_trans (Nat.pow_dvd_pow 2 hd) (Nat.dvd_mul_left _ _)
    · rw [exact_ ?_]
      · exact hg
      · by_cases hc : L ≤ 52
        · exact .inl hc
        · right
          have e1 : L - 52 + e0 ≤ g := by omega
          have := Nat.dvd_trans (Nat.pow_dvd_pow 2 e1) hg
          rw [Nat.pow_add] at this
          exact Nat.dvd_of_mul_dvd_mul_right (Nat.two_pow_pos _) this
  · intro n b hn hle
    rw [v1]
    by_cases hc : L ≤ 52
    · rw [exact_ (.inl hc)]; exact hle
    · by_cases hb : t + 1 ≤ b
      · obtain ⟨c, rfl⟩ : ∃ c, b = t + 1 + c := ⟨b - (t + 1), by omega⟩
        have hq : mag ≤ (n * 2 ^ c) * 2 ^ (L - 52) := by
          have e1 : n * 2 ^ (t + 1 + c) = ((n * 2 ^ c) * 2 ^ (L - 52)) * 2 ^ e0 := by
            rw [Nat.mul_assoc (n * 2 ^ c), ← Nat.pow_add, Nat.mul_assoc n, ← Nat.pow_add]
            congr 2
            omega
          rw [e1] at hle
          exact Nat.le_of_mul_le_mul_right hle (Nat.two_pow_pos _)
        have e1 : 52 - L = 0 := by omega
        rw [e1, Nat.shiftLeft_zero] at hk
        have := cut_le neg mag (L - 52) (n * 2 ^ c) (by rw [hL]; omega) hq
        rw [hk] at this
        have e2 : n * 2 ^ (t + 1 + c) = (n * 2 ^ c) * 2 ^ (t + 1) := by
          rw [Nat.mul_assoc, ← Nat.pow_add]; congr 2; omega
        rw [e2]
        exact Nat.mul_le_mul_right _ this
      · exfalso
        have h5 : n * 2 ^ b ≤ 2 ^ 52 * 2 ^ t := Nat.mul_le_mul hn (Nat.pow_le_pow_right (by omega) (by omega))
        have h6 : 2 ^ 52 * 2 ^ t < 2 ^ (t + 53) := by
          rw [← Nat.pow_add]
          exact Nat.pow_lt_pow_right (by omega) (by omega)
        exact Nat.lt_irrefl _ (Nat.lt_of_lt_of_le h6 (Nat.le_trans low (Nat.le_trans hle h5)))
end Go.Proofs.Qxb6605746aFmt.P1
