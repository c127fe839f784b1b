import Derived.Test.Qxb6605746aFmtP4
set_option linter.unusedVariables false
set_option linter.unusedSimpArgs false
namespace Go.Proofs.Qxb6605746aFmt.P5
open Ieee Go.Proofs.Qxb6605746aFmt.P1 Go.Proofs.Qxb6605746aFmt.P2 Go.Proofs.Qxb6605746aFmt.P3 Go.Proofs.Qxb6605746aFmt.P4

def two : Nat := 4611686018427387904
theorem two_W : two = W false (1024 * 2 ^ 52) := by decide
theorem read_two : Ieee.double.read two = .number false (2 ^ 52) (-51) := by decide +kernel
theorem keym (u v : Nat) : fop .mul (some u) (some v) = Ieee.double.mul u v := rfl

/-- Twice a normal number. -/
theorem mul_two (s : Bool) (q : Nat) (h1 : 1 ≤ q / 2 ^ 52) (h2 : q / 2 ^ 52 ≤ 2046) : Ieee.double.mul two (W s q) = some (W s (min (q + 2 ^ 52) (2047 * 2 ^ 52))) := by
  have hr := read_W0 s q h1 h2
  obtain ⟨n, hn⟩ : ∃ n, 2 ^ 52 + q % 2 ^ 52 = n := ⟨_, rfl⟩
  obtain ⟨e, he⟩ : ∃ e, q / 2 ^ 52 = e := ⟨_, rfl⟩
  have ln : n.log2 = 52 := by rw [← hn]; exact mg_log q
  have hq : q + 2 ^ 52 = e * 2 ^ 52 + n := by omega
  have hn0 : n ≠ 0 := by omega
  rw [hn, he] at hr
  unfold Ieee.Format.mul
  rw [read_two, hr]
  simp only [Datum.product, Option.map_some, Ieee.Format.write, Bool.false_xor]
  congr 1
  unfold Ieee.Format.nearest
  have hne : 2 ^ 52 * n ≠ 0 := by omega
  rw [if_neg hne, dLeast, dFrac, dBin, dInf, Nat.mul_comm, log2_shift n hn0, ln]
  have e1 : max ((-51 : Int) + (((e : Nat) : Int) - 1075) + ((52 + 52 : Nat) : Int) - ((52 : Nat) : Int)) (-1074) = ((e : Nat) : Int) - 1074 := by omega
  simp only [e1]
  have e2 : ((-51 : Int) + (((e : Nat) : Int) - 1075) - (((e : Nat) : Int) - 1074)).toNat = 0 := by omega
  have e3 : (((e : Nat) : Int) - 1074 - ((-51 : Int) + (((e : Nat) : Int) - 1075))).toNat = 52 := by omega
  have e4 : (((e : Nat) : Int) - 1074 - -1074).toNat = e := by omega
  rw [e2, e3, e4, Nat.shiftLeft_zero, cut_exact s n 52 hn0, hq]
  rfl
theorem mul_two_sub (s : Bool) (q : Nat) (h0 : q ≠ 0) (h1 : q < 2 ^ 52) : Ieee.double.mul two (W s q) = some (W s (2 * q)) := by
  have hr : Ieee.double.read (W s q) = .number s q (-1074) := by
    have hm : Ieee.double.word s q % Ieee.double.signWeight = q := by
      unfold Ieee.Format.word
      rw [dSign]
      cases s <;> simp <;> omega
    have hd : (Ieee.double.word s q / Ieee.double.signWeight % 2 == 1) = s := by
      unfold Ieee.Format.word
      rw [dSign]
      cases s
      · have : q / 2 ^ 63 % 2 = 0 := by omega
        simp [this]
      · have : (2 ^ 63 + q) / 2 ^ 63 % 2 = 1 := by omega
        rw [if_pos rfl, this]
        rfl
    unfold W Ieee.Format.read
    simp only [hm, hd]
    rw [if_pos (by rw [dBin]; exact h1), dLeast]
  unfold Ieee.Format.mul
  rw [read_two, hr]
  simp only [Datum.product, Option.map_some, Ieee.Format.write, Bool.false_xor]
  congr 1
  have hl : q.log2 < 52 := (Nat.log2_lt h0).2 h1
  unfold Ieee.Format.nearest
  have hne : 2 ^ 52 * q ≠ 0 := by omega
  rw [if_neg hne, dLeast, dFrac, dBin, dInf, Nat.mul_comm, log2_shift q h0]
  have e1 : max ((-51 : Int) + -1074 + ((q.log2 + 52 : Nat) : Int) - ((52 : Nat) : Int)) (-1074) = -1074 := by omega
  simp only [e1]
  have e2 : ((-51 : Int) + -1074 - -1074).toNat = 0 := by omega
  have e3 : ((-1074 : Int) - ((-51 : Int) + -1074)).toNat = 51 := by omega
  have e4 : ((-1074 : Int) - -1074).toNat = 0 := by omega
  have e5 : q * 2 ^ 52 = (2 * q) * 2 ^ 51 := by omega
  rw [e2, e3, e4, Nat.shiftLeft_zero, e5, cut_exact s (2 * q) 51 (by omega), Nat.zero_mul, Nat.zero_add, Nat.min_eq_left (by omega)]
  rfl
theorem mul_two_zero (s : Bool) : Ieee.double.mul two (W s 0) = some (W s 0) := by cases s <;> decide +kernel
theorem mul_two_inf (s : Bool) : Ieee.double.mul two (W s (2047 * 2 ^ 52)) = some (W s (2047 * 2 ^ 52)) := by cases s <;> decide +kernel

def fgt (x y : Option Nat) : Bool := match x, y with
  | some u, some v => Ieee.double.order u v == some .gt
  | _, _ => false
def fle (x y : Option Nat) : Bool := match x, y with
  | some u, some v => Ieee.double.order u v == some .lt || Ieee.double.order u v == some .eq
  | _, _ => false
/-- checkScale lets it by. -/
def ok (sd f : Option Nat) : Bool := fgt sd f && fgt sd (some 0) && fle sd (some 9218868437227405311)

theorem cmp_gt {a b : Int} (h : b < a) : compare a b = Ordering.gt := by
  rw [compare, instOrdInt]
  show compareOfLessAndEq a b = _
  unfold compareOfLessAndEq
  rw [if_neg (by omega), if_neg (by omega)]
theorem cmp_lt {a b : Int} (h : a < b) : compare a b = Ordering.lt := by
  rw [compare, instOrdInt]
  show compareOfLessAndEq a b = _
  unfold compareOfLessAndEq
  rw [if_pos h]
end Go.Proofs.Qxb6605746aFmt.P5
