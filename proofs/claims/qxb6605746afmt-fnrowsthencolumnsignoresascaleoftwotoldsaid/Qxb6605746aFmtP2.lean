import Derived.Test.Qxb6605746aFmtP1
set_option linter.unusedVariables false
set_option linter.unusedSimpArgs false
namespace Go.Proofs.Qxb6605746aFmt.P2
open Ieee Go.Proofs.Qxb6605746aFmt.P1

def W (s : Bool) (r : Nat) : Nat := Ieee.double.word s r

/-- y is x times 2^k: both NaN; the same zero; normal numbers, x's exponent between lo and hi. -/
def Sc (k lo hi : Nat) (x y : Option Nat) : Prop :=
  (x = none ∧ y = none) ∨ (∃ s, x = some (W s 0) ∧ y = some (W s 0)) ∨ ∃ s r, x = some (W s r) ∧ y = some (W s (r + k * 2 ^ 52)) ∧ lo ≤ r / 2 ^ 52 ∧ r / 2 ^ 52 ≤ hi

/-- The same, x's number known to be a multiple of 2^g and at most B (in units of 2^-1075). -/
def SG (k g B : Nat) (x y : Option Nat) : Prop :=
  (x = none ∧ y = none) ∨ (∃ s, x = some (W s 0) ∧ y = some (W s 0)) ∨ ∃ s r, x = some (W s r) ∧ y = some (W s (r + k * 2 ^ 52)) ∧ 1 ≤ r / 2 ^ 52 ∧ 2 ^ g ∣ V r ∧ V r ≤ B

theorem read_zero (s : Bool) : Ieee.double.read (W s 0) = .number s 0 (-1074) := by cases s <;> decide +kernel
theorem read_W (s : Bool) (r k : Nat) (h1 : 1 ≤ r / 2 ^ 52) (h2 : r / 2 ^ 52 + k ≤ 2046) : Ieee.double.read (W s (r + k * 2 ^ 52)) = .number s (2 ^ 52 + r % 2 ^ 52) ((r / 2 ^ 52 + k : Nat) - 1075) := by
  have e1 : (r + k * 2 ^ 52) % 2 ^ 52 = r % 2 ^ 52 := by omega
  have e2 : (r + k * 2 ^ 52) / 2 ^ 52 = r / 2 ^ 52 + k := by omega
  have := read_normal s (r + k * 2 ^ 52) (by omega) (by omega)
  rw [e1, e2] at this
  unfold W
  rw [this]
  congr 1
  omega
theorem read_W0 (s : Bool) (r : Nat) (h1 : 1 ≤ r / 2 ^ 52) (h2 : r / 2 ^ 52 ≤ 2046) : Ieee.double.read (W s r) = .number s (2 ^ 52 + r % 2 ^ 52) ((r / 2 ^ 52 : Nat) - 1075) := by
  have := read_W s r 0 h1 h2
  simpa using this

theorem mg_log (r : Nat) : (2 ^ 52 + r % 2 ^ 52).log2 = 52 := (Nat.log2_eq_iff (by omega)).2 ⟨by omega, by omega⟩

theorem V_low (r : Nat) : 2 ^ (52 + r / 2 ^ 52) ≤ V r := by
  unfold V
  rw [Nat.pow_add]
  exact Nat.mul_le_mul_right _ (by omega)
theorem V_high (r : Nat) : V r < 2 ^ (53 + r / 2 ^ 52) := by
  unfold V
  rw [Nat.pow_add]
  exact Nat.mul_lt_mul_of_pos_right (by omega) (Nat.two_pow_pos _)

theorem SG.sc {k g B c : Nat} {x y : Option Nat} (h : SG k g B x y) (hB : B ≤ 2 ^ c) : Sc k (g - 52) (c - 52) x y := by
  rcases h with h | h | ⟨s, r, h1, h2, h3, h4, h5⟩
  · exact .inl h
  · exact .inr (.inl h)
  · refine .inr (.inr ⟨s, r, h1, h2, ?_, ?_⟩)
    · have h6 : 2 ^ g ≤ V r := Nat.le_of_dvd (Nat.lt_of_lt_of_le (Nat.two_pow_pos _) (V_low r)) h4
      have h7 := Nat.lt_of_le_of_lt h6 (V_high r)
      have := (Nat.pow_lt_pow_iff_right (by omega : 1 < 2)).1 h7
      omega
    · have h6 := Nat.le_trans (V_low r) (Nat.le_trans h5 hB)
      have := (Nat.pow_le_pow_iff_right (by omega : 1 < 2)).1 h6
      omega
theorem Sc.sg {k lo hi : Nat} {x y : Option Nat} (h : Sc k lo hi x y) (h0 : 1 ≤ lo) : SG k lo (2 ^ (53 + hi)) x y := by
  rcases h with h | h | ⟨s, r, h1, h2, h3, h4⟩
  · exact .inl h
  · exact .inr (.inl h)
  · refine .inr (.inr ⟨s, r, h1, h2, by omega, ?_, ?_⟩)
    · unfold V
      exact Nat.dvd_trans (Nat.pow_dvd_pow 2 h3) (Nat.dvd_mul_left _ _)
    · exact Nat.le_of_lt (Nat.lt_of_lt_of_le (V_high r) (Nat.pow_le_pow_right (by omega) (by omega)))
theorem SG.mono {k g g' B B' : Nat} {x y : Option Nat} (h : SG k g B x y) (hg : g' ≤ g) (hB : B ≤ B') : SG k g' B' x y := by
  rcases h with h | h | ⟨s, r, h1, h2, h3, h4, h5⟩
  · exact .inl h
  · exact .inr (.inl h)
  · exact .inr (.inr ⟨s, r, h1, h2, h3, Nat.dvd_trans (Nat.pow_dvd_pow 2 hg) h4, Nat.le_trans h5 hB⟩)

theorem none_l (op : BinOp) (y : Option Nat) : fop op none y = none := rfl
theorem none_r (op : BinOp) (x : Option Nat) : fop op x none = none := by cases x <;> rfl

theorem word_zero (s : Bool) (e : Int) : Ieee.double.nearest s 0 e = W s 0 := rfl

/-- Products. -/
theorem Sc.mul {a b l1 h1 l2 h2 : Nat} {x x' y y' : Option Nat} (hx : Sc a l1 h1 x x') (hy : Sc b l2 h2 y y') (c1 : 1 ≤ l1) (c2 : 1 ≤ l2) (c3 : 1075 ≤ l1 + l2) (c4 : h1 + h2 + a + b ≤ 3000) (c5 : h1 + a ≤ 2046) (c6 : h2 + b ≤ 2046) :
    Sc (a + b) (l1 + l2 - 1023) (h1 + h2 - 1021) (fop .mul x y) (fop .mul x' y') := by
  rcases hx with ⟨rfl, rfl⟩ | hx
  · exact .inl ⟨rfl, rfl⟩
  rcases hy with ⟨rfl, rfl⟩ | hy
  · exact .inl ⟨none_r _ _, none_r _ _⟩
  have key : ∀ u v, fop .mul (some u) (some v) = Ieee.double.mul u v := fun u v => rfl
  rcases hx with ⟨s, rfl, rfl⟩ | ⟨s, r, rfl, rfl, a1, a2⟩
  · rcases hy with ⟨t, rfl, rfl⟩ | ⟨t, q, rfl, rfl, b1, b2⟩
    · refine .inr (.inl ⟨s ^^ t, ?_, ?_⟩) <;> (rw [key]; unfold Ieee.Format.mul; rw [read_zero, read_zero]; simp [Datum.product, Ieee.Format.write, word_zero])
    · refine .inr (.inl ⟨s ^^ t, ?_, ?_⟩)
      · rw [key]; unfold Ieee.Format.mul; rw [read_zero, read_W0 t q (by omega) (by omega)]; simp [Datum.product, Ieee.Format.write, word_zero]
      · rw [key]; unfold Ieee.Format.mul; rw [read_zero, read_W t q b (by omega) (by omega)]; simp [Datum.product, Ieee.Format.write, word_zero]
  · rcases hy with ⟨t, rfl, rfl⟩ | ⟨t, q, rfl, rfl, b1, b2⟩
    · refine .inr (.inl ⟨s ^^ t, ?_, ?_⟩)
      · rw [key]; unfold Ieee.Format.mul; rw [read_zero, read_W0 s r (by omega) (by omega)]; simp [Datum.product, Ieee.Format.write, word_zero]
      · rw [key]; unfold Ieee.Format.mul; rw [read_zero, read_W s r a (by omega) (by omega)]; simp [Datum.product, Ieee.Format.write, word_zero]
    · obtain ⟨m, hm⟩ : ∃ m, 2 ^ 52 + r % 2 ^ 52 = m := ⟨_, rfl⟩
      obtain ⟨n, hn⟩ : ∃ n, 2 ^ 52 + q % 2 ^ 52 = n := ⟨_, rfl⟩
      obtain ⟨p, hp⟩ : ∃ p, r / 2 ^ 52 = p := ⟨_, rfl⟩
      obtain ⟨p', hp'⟩ : ∃ p, q / 2 ^ 52 = p := ⟨_, rfl⟩
      have m1 : 2 ^ 52 ≤ m ∧ m < 2 ^ 53 := by omega
      have n1 : 2 ^ 52 ≤ n ∧ n < 2 ^ 53 := by omega
      have hne : m * n ≠ 0 := Nat.mul_ne_zero (by omega) (by omega)
      have lo : 2 ^ 104 ≤ m * n := by
        have := Nat.mul_le_mul m1.1 n1.1
        rwa [← Nat.pow_add] at this
      have hi : m * n < 2 ^ 106 := by
        have := Nat.mul_lt_mul'' m1.2 n1.2
        rwa [← Nat.pow_add] at this
      have lg1 := (Nat.le_log2 hne).2 lo
      have lg2 := (Nat.log2_lt hne).2 hi
      obtain ⟨e0, he0⟩ : ∃ e0, p + p' = e0 + 1075 := ⟨p + p' - 1075, by omega⟩
      obtain ⟨z, z1, z2, z3, _, _⟩ := round_spec (s ^^ t) (m * n) e0 hne (by omega) (by omega)
      refine .inr (.inr ⟨s ^^ t, z, ?_, ?_, by omega, by omega⟩)
      · rw [key]; unfold Ieee.Format.mul; rw [read_W0 s r (by omega) (by omega), read_W0 t q (by omega) (by omega), hm, hn, hp, hp']
        simp only [Datum.product, Option.map_some, Ieee.Format.write]
        have e : ((p : Nat) : Int) - 1075 + ((p' : Nat) - 1075) = ((e0 + 0 : Nat) : Int) - 1075 := by omega
        rw [e, z1 0 (by omega), Nat.zero_mul, Nat.add_zero]; rfl
      · rw [key]; unfold Ieee.Format.mul; rw [read_W s r a (by omega) (by omega), read_W t q b (by omega) (by omega), hm, hn, hp, hp']
        simp only [Datum.product, Option.map_some, Ieee.Format.write]
        have e : ((p + a : Nat) : Int) - 1075 + (((p' + b : Nat) : Int) - 1075) = ((e0 + (a + b) : Nat) : Int) - 1075 := by omega
        rw [e, z1 (a + b) (by omega)]; rfl
end Go.Proofs.Qxb6605746aFmt.P2
