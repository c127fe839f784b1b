import Derived.Test.Qxb6605674aD7
set_option linter.unusedVariables false
set_option linter.unusedSimpArgs false
namespace Go.Proofs.Qxb6605674a.D8
open Go.RowKit Go.Lib Go.Proofs.Qxb6605674a.D1 Go.Proofs.Qxb6605674a.D2 Go.Proofs.Qxb6605674a.D3 Go.Proofs.Qxb6605674a.D4 Go.Proofs.Qxb6605674a.D5 Go.Proofs.Qxb6605674a.D6 Go.Proofs.Qxb6605674a.D7

set_option maxHeartbeats 2000000 in
theorem model37 (last : Int) (N r : Nat) (lock at_ : Int) (hN : N < 340282366920938463463374607431768211456) (hr : 0 < r) (hr' : r < 9223372036854775808) (h1 : -9223372036854775808 ≤ last ∧ last ≤ 9223372036854775807) (h2 : -9223372036854775808 ≤ at_ ∧ at_ ≤ 9223372036854775807) (w : World) :
    Calls Try.prog 37 #[.int .i64 last, .int .u64 ((N / 18446744073709551616 : Nat) : Int), .int .u64 ((N % 18446744073709551616 : Nat) : Int), .int .u64 r, .int .i64 lock, .int .i64 at_] w fun e w' => e = .returned (.bool (mdl last N r lock at_)) ∧ w' = w := by
  obtain ⟨res, hres⟩ : ∃ res, mdl last N r lock at_ = res := ⟨_, rfl⟩
  rw [hres]
  unfold mdl at hres
  by_cases hlock : at_ < lock
  · have HR : Hid (res = false) := by rw [← hres]; exact decide_eq_false (by omega)
    clear hres
    go_enter Try.func37, Try.ntmps37
    go_wp2
    go_ret
    exact ⟨by rw [HR.out]; rfl, rfl⟩
  · by_cases hN0 : N = 0
    · subst hN0
      have HR : Hid (res = true) := by rw [← hres]; exact decide_eq_true (by omega)
      clear hres
      go_enter Try.func37, Try.ntmps37
      go_wp2
      go_ret
      exact ⟨by rw [HR.out]; rfl, rfl⟩
    · have HDIV := div47 N r hN hr hr'
      obtain ⟨hi, hhi⟩ : ∃ hi, N / 18446744073709551616 = hi := ⟨_, rfl⟩
      obtain ⟨lo, hlo⟩ : ∃ lo, N % 18446744073709551616 = lo := ⟨_, rfl⟩
      rw [hhi, hlo] at HDIV ⊢
      have hz : ¬ (hi = 0 ∧ lo = 0) := by omega
      obtain ⟨b1, z1⟩ : ∃ b, ((hi : Int) == 0) = b := ⟨_, rfl⟩
      obtain ⟨b2, z2⟩ : ∃ b, ((lo : Int) == 0) = b := ⟨_, rfl⟩
      have z : (b1 && b2) = false := by
        rw [← z1, ← z2, Bool.and_eq_false_iff, beq_eq_false_iff_ne, beq_eq_false_iff_ne]
        omega
      by_cases hlast : at_ < last
      · have HR : Hid (res = false) := by rw [← hres]; exact decide_eq_false (by omega)
        clear hres hhi hlo hz HDIV
        cases b1 <;> cases b2 <;> simp at z
        all_goals
          go_enter Try.func37, Try.ntmps37
          go_wp2
          go_ret
          exact ⟨by rw [HR.out]; rfl, rfl⟩
      · obtain ⟨e, he0, he, e1, e2⟩ := el_nat at_ last (by omega)
        have hQ : N / r ≤ N := Nat.div_le_self _ _
        have hq2 : N % r ≠ 0 → N / r < 170141183460469231731687303715884105728 := by
          intro h
          have hr2 : 2 ≤ r := by
            rcases Nat.lt_or_ge 1 r with h' | h'
            · exact h'
            · have : r = 1 := by omega
              subst this
              exact absurd (Nat.mod_one N) h
          exact (Nat.div_lt_iff_lt_mul hr).2 (by omega)
        have hcl := ceil_le N r e hr
        have hcast : ((N : Int) ≤ (e : Int) * (r : Int)) ↔ N ≤ e * r := by
          rw [← Int.natCast_mul]; omega
        have HRES : Hid (res = decide (if N % r = 0 then N / r / 18446744073709551616 = 0 ∧ N / r % 18446744073709551616 ≤ e else N / r / 18446744073709551616 = 0 ∧ N / r % 18446744073709551616 + 1 ≤ e)) := by
          show res = _
          rw [← hres, decide_eq_decide, he0, hcast, hcl]
          clear hres hcast hcl HDIV hq2 hQ
          generalize N / r = Q
          generalize N % r = R
          constructor
          · rintro ⟨_, h | ⟨_, h⟩⟩
            · exact absurd h hN0
            · split at h
              · rename_i h0; rw [if_pos h0]; omega
              · rename_i h0; rw [if_neg h0]; omega
          · intro h
            refine ⟨by omega, .inr ⟨by omega, ?_⟩⟩
            split at h
            · rename_i h0; rw [if_pos h0]; omega
            · rename_i h0; rw [if_neg h0]; omega
        refine m37_tail last hi lo r (N / r / 18446744073709551616) (N / r % 18446744073709551616) (N % r) e lock at_ res b1 b2 h1 h2 (by omega) (by omega) z1 z2 z (by omega) (fun w => HDIV w) ?_ (Nat.mod_lt _ (by omega)) he e1 e2 HRES w
        intro h
        have := hq2 h
        clear HDIV HRES hcl hcast
        omega
end Go.Proofs.Qxb6605674a.D8
