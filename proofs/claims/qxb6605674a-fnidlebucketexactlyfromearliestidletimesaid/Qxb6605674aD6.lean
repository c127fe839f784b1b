import Derived.Test.Qxb6605674aD5
set_option linter.unusedVariables false
set_option linter.unusedSimpArgs false
namespace Go.Proofs.Qxb6605674a.D6
open Go.RowKit Go.Lib Go.Proofs.Qxb6605674a.D1 Go.Proofs.Qxb6605674a.D2 Go.Proofs.Qxb6605674a.D3 Go.Proofs.Qxb6605674a.D4 Go.Proofs.Qxb6605674a.D5

/-- What 'zzDiv128' has after k rounds: the quotient and the remainder of the first k bits of N. -/
theorem top_step (N r k : Nat) (hk : k < 128) :
    N / 2 ^ (127 - k) = 2 * (N / 2 ^ (128 - k)) + N / 2 ^ (127 - k) % 2 := by
  have : N / 2 ^ (128 - k) = N / 2 ^ (127 - k) / 2 := by
    rw [Nat.div_div_eq_div_mul, ← Nat.pow_succ, show (127 - k).succ = 128 - k by omega]
  omega

theorem div_step (M r b : Nat) (hr : 0 < r) (hb : b < 2) :
    (2 * M + b) / r = 2 * (M / r) + (if r ≤ 2 * (M % r) + b then 1 else 0) ∧ (2 * M + b) % r = if r ≤ 2 * (M % r) + b then 2 * (M % r) + b - r else 2 * (M % r) + b := by
  have h1 := Nat.div_add_mod M r
  have h2 := Nat.mod_lt M hr
  generalize M / r = q at *
  generalize M % r = s at *
  subst h1
  split
  · rename_i h
    have e : 2 * (r * q + s) + b = (2 * s + b - r) + (2 * q + 1) * r := by
      have : (2 * q + 1) * r = 2 * (r * q) + r := by rw [Nat.add_mul, Nat.mul_comm r q, Nat.mul_assoc]; omega
      omega
    rw [e, Nat.add_mul_div_right _ _ hr, Nat.add_mul_mod_self_right, Nat.div_eq_of_lt (by omega), Nat.mod_eq_of_lt (by omega)]
    omega
  · rename_i h
    have e : 2 * (r * q + s) + b = (2 * s + b) + (2 * q) * r := by
      have : (2 * q) * r = 2 * (r * q) := by rw [Nat.mul_comm r q, Nat.mul_assoc]
      omega
    rw [e, Nat.add_mul_div_right _ _ hr, Nat.add_mul_mod_self_right, Nat.div_eq_of_lt (by omega), Nat.mod_eq_of_lt (by omega)]
    omega

theorem or_even (a b : Nat) (ha : 2 * a < 18446744073709551616) (hb : b < 2) : bits .or .u64 (2 * (a : Int)) (b : Int) = 2 * (a : Int) + b := by
  have h := bits_or_u64_nat (2 * a) b ha (by omega)
  have e : 2 * a ||| b = 2 * a + b := by
    have := Nat.two_pow_add_eq_or_of_lt (i := 1) (b := b) (by omega) a
    simpa using this.symm
  rw [e] at h
  rw [show ((2 : Int) * (a : Int)) = ((2 * a : Nat) : Int) by omega, h]
  omega
theorem and_one (a : Nat) (ha : a < 18446744073709551616) : bits .and .u64 (a : Int) 1 = ((a % 2 : Nat) : Int) := by
  have h := bits_and_u64_nat a 1 ha (by omega)
  rw [Nat.and_one_is_mod] at h
  exact h
theorem rnd {N r k M qh ql rm bt : Nat} (hr : 0 < r) (hk : k < 128) (hN : N < 340282366920938463463374607431768211456) (hM : N / 2 ^ (128 - k) = M) (h1 : M / r / 18446744073709551616 = qh) (h2 : M / r % 18446744073709551616 = ql) (h3 : M % r = rm) (h4 : N / 2 ^ (127 - k) % 2 = bt) :
    qh < 9223372036854775808 ∧ N / 2 ^ (128 - (k + 1)) / r / 18446744073709551616 = 2 * qh + ql / 9223372036854775808 ∧ N / 2 ^ (128 - (k + 1)) / r % 18446744073709551616 = 2 * ql % 18446744073709551616 + (if r ≤ 2 * rm + bt then 1 else 0) ∧ N / 2 ^ (128 - (k + 1)) % r = if r ≤ 2 * rm + bt then 2 * rm + bt - r else 2 * rm + bt := by
  have e0 : 128 - (k + 1) = 127 - k := by omega
  have e1 := top_step N r k hk
  rw [hM, h4] at e1
  have e2 := div_step M r bt hr (by omega)
  rw [← e1, h3, ← e0] at e2
  have hMb : M < 170141183460469231731687303715884105728 := by
    rw [← hM]
    apply (Nat.div_lt_iff_lt_mul (Nat.two_pow_pos _)).2
    have : 2 ≤ 2 ^ (128 - k) := by
      calc 2 = 2 ^ 1 := rfl
        _ ≤ 2 ^ (128 - k) := Nat.pow_le_pow_right (by omega) (by omega)
    omega
  have hq : M / r ≤ M := Nat.div_le_self _ _
  rw [e2.1, e2.2]
  refine ⟨by omega, ?_, ?_, rfl⟩
  · split <;> omega
  · split <;> omega
set_option maxHeartbeats 1000000 in
theorem div47 (N r : Nat) (hN : N < 340282366920938463463374607431768211456) (hr : 0 < r) (hr' : r < 9223372036854775808) (w : World) :
    Calls Try.prog 47 #[.int .u64 ((N / 18446744073709551616 : Nat) : Int), .int .u64 ((N % 18446744073709551616 : Nat) : Int), .int .u64 r] w fun e w' => e = .returned (.tuple #[.int .u64 ((N / r / 18446744073709551616 : Nat) : Int), .int .u64 ((N / r % 18446744073709551616 : Nat) : Int), .int .u64 ((N % r : Nat) : Int)]) ∧ w' = w := by
  obtain ⟨hi, hhi⟩ : ∃ hi, N / 18446744073709551616 = hi := ⟨_, rfl⟩
  obtain ⟨lo, hlo⟩ : ∃ lo, N % 18446744073709551616 = lo := ⟨_, rfl⟩
  rw [hhi, hlo]
  have HH : Hid (N / 18446744073709551616 = hi ∧ N % 18446744073709551616 = lo) := ⟨hhi, hlo⟩
  have hh1 : hi < 18446744073709551616 := by omega
  have hl1 : lo < 18446744073709551616 := by omega
  have HN : Hid (N < 340282366920938463463374607431768211456) := hN
  clear hhi hlo hN
  go_enter Try.func47, Try.ntmps47
  go_wp2
  go_loop [9, 10, 11, 12] (fun qh ql rm b => ∃ k : Nat, k ≤ 128 ∧ b = .int .i64 (127 - (k : Int)) ∧ qh = .int .u64 ((N / 2 ^ (128 - k) / r / 18446744073709551616 : Nat) : Int) ∧ ql = .int .u64 ((N / 2 ^ (128 - k) / r % 18446744073709551616 : Nat) : Int) ∧ rm = .int .u64 ((N / 2 ^ (128 - k) % r : Nat) : Int)) (fun _ _ _ b => (intOf b + 1).toNat)
  case atStart =>
    have h0 : N / 2 ^ (128 - 0) = 0 := Nat.div_eq_of_lt HN.out
    exact ⟨0, by omega, by simp, by rw [h0]; simp, by rw [h0]; simp, by rw [h0]; simp⟩
  case round =>
    obtain ⟨k, hk, rfl, rfl, rfl, rfl⟩ := hrel
    by_cases hend : k < 128
    · obtain ⟨M, hM⟩ : ∃ q, N / 2 ^ (128 - k) = q := ⟨_, rfl⟩
      rw [hM]
      obtain ⟨qh, hqh⟩ : ∃ q, M / r / 18446744073709551616 = q := ⟨_, rfl⟩
      obtain ⟨ql, hql⟩ : ∃ q, M / r % 18446744073709551616 = q := ⟨_, rfl⟩
      obtain ⟨rm, hrm⟩ : ∃ q, M % r = q := ⟨_, rfl⟩
      obtain ⟨bt, hbt⟩ : ∃ q, N / 2 ^ (127 - k) % 2 = q := ⟨_, rfl⟩
      have HR := rnd hr hend HN.out hM hqh hql hrm hbt
      have hb2 : bt < 2 := by omega
      have hql2 : ql < 18446744073709551616 := by omega
      have hrm2 : rm < r := by rw [← hrm]; exact Nat.mod_lt _ hr
      have hqh2 : qh < 9223372036854775808 := HR.1
      rw [hqh, hql, hrm]
      have w1 : IntKind.u64.wrap ((rm : Int) * 2) = 2 * (rm : Int) := by rw [IntKind.wrap_u64]; omega
      have w2 : IntKind.u64.wrap ((qh : Int) * 2) = 2 * (qh : Int) := by rw [IntKind.wrap_u64]; omega
      have o1 := or_even rm bt (by omega) hb2
      have o2 := or_even qh (ql / 9223372036854775808) (by omega) (by omega)
      have o3 := or_even (ql % 9223372036854775808) 1 (by omega) (by omega)
      have w3 : IntKind.u64.wrap ((ql : Int) * 2) = 2 * ((ql % 9223372036854775808 : Nat) : Int) := by rw [IntKind.wrap_u64]; omega
      rw [show ((ql / 9223372036854775808 : Nat) : Int) = (ql : Int) / 9223372036854775808 by omega] at o2
      have o3' : bits .or .u64 (2 * ((ql : Int) % 9223372036854775808)) 1 = 2 * ((ql : Int) % 9223372036854775808) + 1 := by
        have := o3
        rw [show (((ql % 9223372036854775808 : Nat)) : Int) = (ql : Int) % 9223372036854775808 by omega] at this
        exact this
      rw [show (((ql % 9223372036854775808 : Nat)) : Int) = (ql : Int) % 9223372036854775808 by omega] at w3
      have HQ : Hid (N / 2 ^ (128 - (k + 1)) / r / 18446744073709551616 = 2 * qh + ql / 9223372036854775808 ∧ N / 2 ^ (128 - (k + 1)) / r % 18446744073709551616 = 2 * ql % 18446744073709551616 + (if r ≤ 2 * rm + bt then 1 else 0) ∧ N / 2 ^ (128 - (k + 1)) % r = if r ≤ 2 * rm + bt then 2 * rm + bt - r else 2 * rm + bt) := HR.2
      clear hqh hql hrm hM HR o3
      by_cases hlt : k < 64
      · have hbit : bits .and .u64 ((hi : Int) / 2 ^ (127 - k - 64)) 1 = (bt : Int) := by
          have e : N / 2 ^ (127 - k) = hi / 2 ^ (127 - k - 64) := by
            rw [← HH.out.1, show (18446744073709551616 : Nat) = 2 ^ 64 from rfl, Nat.div_div_eq_div_mul, ← Nat.pow_add, show 64 + (127 - k - 64) = 127 - k by omega]
          have := and_one (hi / 2 ^ (127 - k - 64)) (Nat.lt_of_le_of_lt (Nat.div_le_self _ _) hh1)
          rw [← e, hbt, e] at this
          rw [← this]
          norm_cast
        clear hbt
        by_cases hge : r ≤ 2 * rm + bt
        · have hge' : (r : Int) ≤ 2 * (rm : Int) + (bt : Int) := by omega
          go_wp2
          go_round
          case rel => exact ⟨k + 1, by omega, congrArg (Value.int .i64) (by omega), by rw [HQ.out.1]; exact congrArg (Value.int .u64) (by omega), by rw [HQ.out.2.1, if_pos hge]; exact congrArg (Value.int .u64) (by omega), by rw [HQ.out.2.2, if_pos hge]; exact congrArg (Value.int .u64) (by omega)⟩
          case measure => simp [intOf]; omega
        · have hge' : 2 * (rm : Int) + (bt : Int) < (r : Int) := by omega
          go_wp2
          go_round
          case rel => exact ⟨k + 1, by omega, congrArg (Value.int .i64) (by omega), by rw [HQ.out.1]; exact congrArg (Value.int .u64) (by omega), by rw [HQ.out.2.1, if_neg hge]; exact congrArg (Value.int .u64) (by omega), by rw [HQ.out.2.2, if_neg hge]; exact congrArg (Value.int .u64) (by omega)⟩
          case measure => simp [intOf]; omega
      · have hbit : bits .and .u64 ((lo : Int) / 2 ^ (127 - k)) 1 = (bt : Int) := by
          have e : lo / 2 ^ (127 - k) % 2 = N / 2 ^ (127 - k) % 2 := by
            rw [← HH.out.2, show (18446744073709551616 : Nat) = 2 ^ (127 - k) * 2 ^ (k - 63) by rw [← Nat.pow_add, show 127 - k + (k - 63) = 64 by omega], Nat.mod_mul_right_div_self]
            have : 2 ∣ 2 ^ (k - 63) := by
              obtain ⟨m, hm⟩ : ∃ m, k - 63 = m + 1 := ⟨k - 64, by omega⟩
              rw [hm, Nat.pow_succ]
              exact Nat.dvd_mul_left _ _
            exact Nat.mod_mod_of_dvd _ this
          have := and_one (lo / 2 ^ (127 - k)) (Nat.lt_of_le_of_lt (Nat.div_le_self _ _) hl1)
          rw [e, hbt] at this
          rw [← this]
          norm_cast
        clear hbt
        by_cases hge : r ≤ 2 * rm + bt
        · have hge' : (r : Int) ≤ 2 * (rm : Int) + (bt : Int) := by omega
          go_wp2
          go_round
          case rel => exact ⟨k + 1, by omega, congrArg (Value.int .i64) (by omega), by rw [HQ.out.1]; exact congrArg (Value.int .u64) (by omega), by rw [HQ.out.2.1, if_pos hge]; exact congrArg (Value.int .u64) (by omega), by rw [HQ.out.2.2, if_pos hge]; exact congrArg (Value.int .u64) (by omega)⟩
          case measure => simp [intOf]; omega
        · have hge' : 2 * (rm : Int) + (bt : Int) < (r : Int) := by omega
          go_wp2
          go_round
          case rel => exact ⟨k + 1, by omega, congrArg (Value.int .i64) (by omega), by rw [HQ.out.1]; exact congrArg (Value.int .u64) (by omega), by rw [HQ.out.2.1, if_neg hge]; exact congrArg (Value.int .u64) (by omega), by rw [HQ.out.2.2, if_neg hge]; exact congrArg (Value.int .u64) (by omega)⟩
          case measure => simp [intOf]; omega
    · obtain rfl : k = 128 := by omega
      have HE : Hid (N / 2 ^ (128 - 128) = N) := by show N / 2 ^ 0 = N; simp
      rw [HE.out]
      go_wp2
      go_ret3
      exact ⟨rfl, rfl⟩
end Go.Proofs.Qxb6605674a.D6
