import Derived.Test.Qxb6605674aD6
set_option linter.unusedVariables false
set_option linter.unusedSimpArgs false
namespace Go.Proofs.Qxb6605674a.D7
open Go.RowKit Go.Lib Go.Proofs.Qxb6605674a.D1 Go.Proofs.Qxb6605674a.D2 Go.Proofs.Qxb6605674a.D3 Go.Proofs.Qxb6605674a.D4 Go.Proofs.Qxb6605674a.D5 Go.Proofs.Qxb6605674a.D6

/-- When a bucket that lacks N units since 'last', refilled r units a nanosecond and locked till 'lock', is idle. -/
def mdl (last : Int) (N r : Nat) (lock at_ : Int) : Bool := decide (lock ≤ at_ ∧ (N = 0 ∨ last ≤ at_ ∧ (N : Int) ≤ el at_ last * r))

theorem ceil_le (N r e : Nat) (hr : 0 < r) : (N ≤ e * r ↔ if N % r = 0 then N / r ≤ e else N / r + 1 ≤ e) := by
  have h1 := Nat.div_add_mod N r
  have h2 := Nat.mod_lt N hr
  constructor
  · intro h
    split
    · exact (Nat.div_le_iff_le_mul_add_pred hr).2 (by rw [Nat.mul_comm] at h; omega)
    · rename_i hne
      apply (Nat.div_lt_iff_lt_mul hr).2
      rcases Nat.lt_or_eq_of_le h with h' | h'
      · exact h'
      · exfalso
        rw [h', Nat.mul_mod_left] at hne
        exact hne rfl
  · intro h
    split at h
    · rename_i he
      have := Nat.mul_le_mul_right r h
      rw [Nat.mul_comm (N / r) r] at this
      omega
    · have := Nat.mul_le_mul_right r h
      rw [Nat.add_mul, Nat.mul_comm (N / r) r] at this
      omega
theorem el_nat (x y : Int) (h : y ≤ x) : ∃ e : Nat, el x y = (e : Int) ∧ e ≤ 9223372036854775807 ∧ ((x - y).toNat ≤ 9223372036854775807 → e = (x - y).toNat) ∧ (9223372036854775807 < (x - y).toNat → e = 9223372036854775807) := by
  unfold el
  split
  · exact ⟨(x - y).toNat, by omega, by omega, fun _ => rfl, by omega⟩
  · exact ⟨9223372036854775807, rfl, by omega, by omega, fun _ => rfl⟩

set_option maxHeartbeats 2000000 in
theorem m37_tail (last : Int) (hi lo r qh ql rm e : Nat) (lock at_ : Int) (res b1 b2 : Bool) (h1 : -9223372036854775808 ≤ last ∧ last ≤ 9223372036854775807) (h2 : -9223372036854775808 ≤ at_ ∧ at_ ≤ 9223372036854775807) (hlock : lock ≤ at_) (hlast : last ≤ at_)
    (z1 : ((hi : Int) == 0) = b1) (z2 : ((lo : Int) == 0) = b2) (z : (b1 && b2) = false) (hrr : r < 18446744073709551616)
    (hdiv : Hid (∀ w, Calls Try.prog 47 #[.int .u64 (hi : Int), .int .u64 (lo : Int), .int .u64 (r : Int)] w fun e w' => e = .returned (.tuple #[.int .u64 (qh : Int), .int .u64 (ql : Int), .int .u64 (rm : Int)]) ∧ w' = w))
    (hqh : rm ≠ 0 → qh < 9223372036854775808) (hql : ql < 18446744073709551616) (he : e ≤ 9223372036854775807) (e1 : (at_ - last).toNat ≤ 9223372036854775807 → e = (at_ - last).toNat) (e2 : 9223372036854775807 < (at_ - last).toNat → e = 9223372036854775807)
    (hres : Hid (res = decide (if rm = 0 then qh = 0 ∧ ql ≤ e else qh = 0 ∧ ql + 1 ≤ e))) (w : World) :
    Calls Try.prog 37 #[.int .i64 last, .int .u64 (hi : Int), .int .u64 (lo : Int), .int .u64 (r : Int), .int .i64 lock, .int .i64 at_] w fun e w' => e = .returned (.bool res) ∧ w' = w := by
  have hw : IntKind.u64.wrap (IntKind.u64.wrap at_ - IntKind.u64.wrap last) = at_ - last := by rw [IntKind.wrap_u64, IntKind.wrap_u64, IntKind.wrap_u64]; omega
  have hw2 : IntKind.u64.wrap (at_ - IntKind.u64.wrap last) = at_ - last := by rw [IntKind.wrap_u64, IntKind.wrap_u64]; omega
  have hE : Hid ((at_ - last ≤ 9223372036854775807 → (e : Int) = at_ - last) ∧ (9223372036854775807 < at_ - last → (e : Int) = 9223372036854775807)) := by constructor <;> omega
  clear e1 e2
  obtain ⟨c1, hc1⟩ : ∃ c, ((rm : Int) != 0) = c := ⟨_, rfl⟩
  obtain ⟨c3, hc3⟩ : ∃ c, ((qh : Int) == 0) = c := ⟨_, rfl⟩
  have hl1 : ¬ at_ < lock := by omega
  have hl2 : ¬ at_ < last := by omega
  have HC : Hid ((c1 = true ↔ rm ≠ 0) ∧ (c3 = true ↔ qh = 0)) := by
    refine ⟨?_, ?_⟩
    · rw [← hc1, bne_iff_ne]; omega
    · rw [← hc3, beq_iff_eq]; omega
  by_cases hrm : rm = 0
  · have hcf : c1 = false := by
      cases c1
      · rfl
      · exact absurd hrm (HC.out.1.1 rfl)
    subst hcf
    have HQ : Hid True := trivial
    clear hqh hrm
    by_cases hm : at_ - last ≤ 9223372036854775807
    all_goals
      cases b1 <;> cases b2 <;> simp at z
    all_goals
      cases c3
    all_goals
      go_enter Try.func37, Try.ntmps37
      go_wp2_with (go_at_call 47; refine (hdiv.out _).mono ?_; rintro e w' ⟨rfl, rfl⟩)
      all_goals go_ret
    all_goals refine ⟨congrArg (fun b => Ending.returned (Value.bool b)) ?_, rfl⟩
    all_goals
      have hcc := HC.out
      have hee := hE.out
      have hqq := HQ.out
      simp only [Bool.false_eq_true, false_iff, true_iff, Classical.not_not, ne_eq] at hcc
      obtain ⟨k1, k2⟩ := hcc
    all_goals first
      | (refine Eq.trans (decide_eq_decide.2 ?_) hres.out.symm; split <;> omega)
      | (refine Eq.trans (Eq.symm (decide_eq_false ?_)) hres.out.symm; split <;> omega)
  · have hct : c1 = true := HC.out.1.2 hrm
    subst hct
    have hqh' : qh < 9223372036854775808 := hqh hrm
    clear hqh hrm
    by_cases hov : ql + 1 = 18446744073709551616
    · have w1 : IntKind.u64.wrap ((ql : Int) + 1) = 0 := by rw [IntKind.wrap_u64]; omega
      have w2 : IntKind.u64.wrap ((qh : Int) + 1) = (qh : Int) + 1 := by rw [IntKind.wrap_u64]; omega
      have w3 : ((qh : Int) + 1 == 0) = false := beq_eq_false_iff_ne.2 (by omega)
      have HQ : Hid (ql + 1 = 18446744073709551616) := hov
      clear hov
      by_cases hm : at_ - last ≤ 9223372036854775807
      all_goals
        cases b1 <;> cases b2 <;> simp at z
      all_goals
        cases c3
      all_goals
        go_enter Try.func37, Try.ntmps37
        go_wp2_with (go_at_call 47; refine (hdiv.out _).mono ?_; rintro e w' ⟨rfl, rfl⟩)
        all_goals go_ret
      all_goals refine ⟨congrArg (fun b => Ending.returned (Value.bool b)) ?_, rfl⟩
      all_goals
        have hcc := HC.out
        have hee := hE.out
        have hqq := HQ.out
        simp only [Bool.false_eq_true, false_iff, true_iff, Classical.not_not, ne_eq] at hcc
        obtain ⟨k1, k2⟩ := hcc
      all_goals first
        | (refine Eq.trans (decide_eq_decide.2 ?_) hres.out.symm; split <;> omega)
        | (refine Eq.trans (Eq.symm (decide_eq_false ?_)) hres.out.symm; split <;> omega)

    · have w1 : IntKind.u64.wrap ((ql : Int) + 1) = (ql : Int) + 1 := by rw [IntKind.wrap_u64]; omega
      have w3 : ((ql : Int) + 1 == 0) = false := beq_eq_false_iff_ne.2 (by omega)
      have HQ : Hid (¬ ql + 1 = 18446744073709551616) := hov
      clear hov
      by_cases hm : at_ - last ≤ 9223372036854775807
      all_goals
        cases b1 <;> cases b2 <;> simp at z
      all_goals
        cases c3
      all_goals
        go_enter Try.func37, Try.ntmps37
        go_wp2_with (go_at_call 47; refine (hdiv.out _).mono ?_; rintro e w' ⟨rfl, rfl⟩)
        all_goals go_ret
      all_goals refine ⟨congrArg (fun b => Ending.returned (Value.bool b)) ?_, rfl⟩
      all_goals
        have hcc := HC.out
        have hee := hE.out
        have hqq := HQ.out
        simp only [Bool.false_eq_true, false_iff, true_iff, Classical.not_not, ne_eq] at hcc
        obtain ⟨k1, k2⟩ := hcc
      all_goals first
        | (refine Eq.trans (decide_eq_decide.2 ?_) hres.out.symm; split <;> omega)
        | (refine Eq.trans (Eq.symm (decide_eq_false ?_)) hres.out.symm; split <;> omega)

end Go.Proofs.Qxb6605674a.D7
