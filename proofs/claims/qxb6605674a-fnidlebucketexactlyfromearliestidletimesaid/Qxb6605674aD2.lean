import Derived.Test.Qxb6605674aD1
set_option linter.unusedVariables false
set_option linter.unusedSimpArgs false
namespace Go.Proofs.Qxb6605674a.D2
open Go.RowKit Go.Lib Go.Proofs.Qxb6605674a.D1

theorem and30 (a : Int) (h0 : 0 ≤ a) (h : a < 1073741824) : bits .and .u64 a 1073741823 = a := by
  obtain ⟨a, rfl⟩ := Int.eq_ofNat_of_zero_le h0
  have h1 := bits_and_u64_nat a 1073741823 (by omega) (by omega)
  rw [show a &&& 1073741823 = a % 1073741824 from Nat.and_two_pow_sub_one_eq_mod a 30, Nat.mod_eq_of_lt (by omega)] at h1
  exact h1
theorem and_hi (a m : Nat) (ha : a < 2 ^ 30) (hm : m % 2 ^ 30 = 0) : a &&& m = 0 := by
  have h1 : a &&& m ≤ a := Nat.and_le_left
  have h2 : (a &&& m) % 2 ^ 30 = (a % 2 ^ 30) &&& (m % 2 ^ 30) := Nat.and_mod_two_pow
  rw [hm, Nat.and_zero, Nat.mod_eq_of_lt (by omega)] at h2
  exact h2
theorem and63 (a : Int) (h0 : 0 ≤ a) (h : a < 1073741824) : bits .and .u64 a 9223372036854775808 = 0 := by
  obtain ⟨a, rfl⟩ := Int.eq_ofNat_of_zero_le h0
  have h1 := bits_and_u64_nat a 9223372036854775808 (by omega) (by omega)
  rw [and_hi a 9223372036854775808 (by omega) (by omega)] at h1
  simpa using h1
theorem or0 (a : Int) (h0 : 0 ≤ a) (h : a < 1073741824) : bits .or .u64 0 a = a := by
  obtain ⟨a, rfl⟩ := Int.eq_ofNat_of_zero_le h0
  have h1 := bits_or_u64_nat 0 a (by omega) (by omega)
  simpa using h1
theorem andnot30 (a : Int) (h0 : 0 ≤ a) (h : a < 1073741824) : bits .andNot .u64 a 1073741823 = 0 := by
  have h1 := u64_andNot a 1073741823 (by omega) (by omega) (by omega) (by omega)
  rw [h1, and_hi a.toNat _ (by omega) (by omega)]
  rfl

theorem nsec52 (b : Nat) (W : Int) (w : World) (h0 : 0 ≤ W) (h1 : W < 1073741824) (hc : w.cell? ⟨b, 0, none⟩ = some (.int .u64 W)) :
    Calls Try.prog 52 #[.pointer (some ⟨b, 0, none⟩)] w fun e w' => e = .returned (.int .i32 W) ∧ w' = w := by
  have ha := and30 W h0 h1
  go_enter Try.func52, Try.ntmps52
  go_wp2
  go_ret
  exact ⟨rfl, rfl⟩
theorem sec55 (b : Nat) (W E : Int) (w : World) (h0 : 0 ≤ W) (h1 : W < 1073741824) (hc : w.cell? ⟨b, 0, none⟩ = some (.int .u64 W)) (hc1 : w.cell? ⟨b, 1, none⟩ = some (.int .i64 E)) :
    Calls Try.prog 55 #[.pointer (some ⟨b, 0, none⟩)] w fun e w' => e = .returned (.int .i64 E) ∧ w' = w := by
  have ha := and63 W h0 h1
  go_enter Try.func55, Try.ntmps55
  go_wp2
  go_ret
  exact ⟨rfl, rfl⟩

/-- The time x nanoseconds after the zero time. -/
def tm (x : Int) : Value := .agg #[.int .u64 (x % 1000000000), .int .i64 (x / 1000000000), .pointer none]

set_option maxHeartbeats 400000 in
/-- addSec: no monotonic reading; no overflow. -/
theorem addsec53 (b : Nat) (W E d : Int) (w : World) (h0 : 0 ≤ W) (h1 : W < 1073741824) (hE : -100000000000 ≤ E ∧ E ≤ 100000000000) (hd : -100000000000 ≤ d ∧ d ≤ 100000000000) (hc : w.cell? ⟨b, 0, none⟩ = some (.int .u64 W)) (hc1 : w.cell? ⟨b, 1, none⟩ = some (.int .i64 E)) (hf : w.frozen? ⟨b, 1, none⟩ = false) :
    Calls Try.prog 53 #[.pointer (some ⟨b, 0, none⟩), .int .i64 d] w fun e w' => e = .returned (.tuple #[]) ∧ w' = w.setCell ⟨b, 1, none⟩ (.int .i64 (E + d)) := by
  have ha := and63 W h0 h1
  obtain ⟨e1, e2⟩ := hE
  obtain ⟨d1, d2⟩ := hd
  by_cases hp : 0 < d
  · have t1 : E < E + d := by omega
    go_enter Try.func53, Try.ntmps53
    go_wp2
    go_end0
    exact ⟨rfl, rfl⟩
  · have t1 : ¬ E < E + d := by omega
    go_enter Try.func53, Try.ntmps53
    go_wp2
    go_end0
    exact ⟨rfl, rfl⟩
end Go.Proofs.Qxb6605674a.D2
