import Derived.Test.Qxb6605674aD2
set_option linter.unusedVariables false
set_option linter.unusedSimpArgs false
namespace Go.Proofs.Qxb6605674a.D3
open Go.RowKit Go.Lib Go.Proofs.Qxb6605674a.D1 Go.Proofs.Qxb6605674a.D2

theorem tdm (d : Int) (h : -9223372036854775808 ≤ d ∧ d ≤ 9223372036854775807) : ∃ q r : Int, d.tdiv 1000000000 = q ∧ d.tmod 1000000000 = r ∧ d = q * 1000000000 + r ∧ -999999999 ≤ r ∧ r ≤ 999999999 ∧ -9223372037 ≤ q ∧ q ≤ 9223372037 := by
  refine ⟨_, _, rfl, rfl, ?_⟩
  have h1 := Int.tdiv_mul_add_tmod d 1000000000
  rcases Int.le_total 0 d with h0 | h0
  · rw [Int.tdiv_eq_ediv_of_nonneg h0, Int.tmod_eq_emod_of_nonneg h0]
    omega
  · obtain ⟨e, rfl⟩ : ∃ e, d = -e := ⟨-d, by omega⟩
    rw [Int.neg_tdiv, Int.neg_tmod, Int.tdiv_eq_ediv_of_nonneg (by omega), Int.tmod_eq_emod_of_nonneg (by omega)]
    omega

set_option maxHeartbeats 1000000 in
theorem add39 (x d : Int) (hx : -36893488147419103232 ≤ x ∧ x ≤ 36893488147419103232) (hd : -9223372036854775808 ≤ d ∧ d ≤ 9223372036854775807) (w : World) :
    Calls Try.prog 39 #[tm x, .int .i64 d] w fun e w' => e = .returned (tm (x + d)) ∧ Below w.heap.size w w' := by
  obtain ⟨q, r, hq, hr, hdq, r1, r2, q1, q2⟩ := tdm d hd
  obtain ⟨W, hW⟩ : ∃ W, x % 1000000000 = W := ⟨_, rfl⟩
  obtain ⟨E, hE⟩ : ∃ E, x / 1000000000 = E := ⟨_, rfl⟩
  have w1 : 0 ≤ W := by omega
  have w2 : W ≤ 999999999 := by omega
  have E1 : -40000000000 ≤ E := by omega
  have E2 : E ≤ 40000000000 := by omega
  have HF : Hid (∀ W' E' : Int, 0 ≤ W' → W' < 1000000000 → W' + E' * 1000000000 = W + E * 1000000000 + d → tm (x + d) = .agg #[.int .u64 W', .int .i64 E', .pointer none]) := by
    intro W' E' a b c
    unfold tm
    have e1 : (x + d) % 1000000000 = W' := by omega
    have e2 : (x + d) / 1000000000 = E' := by omega
    rw [e1, e2]
  have HD : Hid (d = q * 1000000000 + r) := hdq
  unfold tm
  rw [hW, hE]
  clear hW hE hdq hx
  rcases (show W + r < 0 ∨ (0 ≤ W + r ∧ W + r < 1000000000) ∨ 1000000000 ≤ W + r by omega) with hs | ⟨hs, hs'⟩ | hs
  · have ha := andnot30 W (by omega) (by omega)
    have ho := or0 (W + r + 1000000000) (by omega) (by omega)
    have h63 := and63 (W + r + 1000000000) (by omega) (by omega)
    go_enter Try.func39, Try.ntmps39
    go_wp2_with (first
      | (go_at_call 52; refine (nsec52 _ W _ (by omega) (by omega) ?_).mono ?_; simp; rintro e w' ⟨rfl, rfl⟩)
      | (go_at_call 53; refine (addsec53 _ (W + r + 1000000000) E (q - 1) _ (by omega) (by omega) (by omega) (by omega) ?_ ?_ ?_).mono ?_; simp; simp; simp; rintro e w' ⟨rfl, rfl⟩))
    refine bodyPost_ret (v := .agg #[.int .u64 (W + r + 1000000000), .int .i64 (E + (q - 1)), .pointer none]) (by simp [results, Try.results39, go_sem]) rfl ⟨?_, ?_⟩
    · have hdd := HD.out
      clear ho ha h63
      exact congrArg Ending.returned (HF.out (W + r + 1000000000) (E + (q - 1)) (by omega) (by omega) (by omega)).symm
    · repeat (first | exact Below.refl _ _ | apply bel_alloc | refine Below.setCell ?_ (by simp) _)
  · have ha := andnot30 W (by omega) (by omega)
    have ho := or0 (W + r) (by omega) (by omega)
    have h63 := and63 (W + r) (by omega) (by omega)
    go_enter Try.func39, Try.ntmps39
    go_wp2_with (first
      | (go_at_call 52; refine (nsec52 _ W _ (by omega) (by omega) ?_).mono ?_; simp; rintro e w' ⟨rfl, rfl⟩)
      | (go_at_call 53; refine (addsec53 _ (W + r) E (q) _ (by omega) (by omega) (by omega) (by omega) ?_ ?_ ?_).mono ?_; simp; simp; simp; rintro e w' ⟨rfl, rfl⟩))
    refine bodyPost_ret (v := .agg #[.int .u64 (W + r), .int .i64 (E + (q)), .pointer none]) (by simp [results, Try.results39, go_sem]) rfl ⟨?_, ?_⟩
    · have hdd := HD.out
      clear ho ha h63
      exact congrArg Ending.returned (HF.out (W + r) (E + (q)) (by omega) (by omega) (by omega)).symm
    · repeat (first | exact Below.refl _ _ | apply bel_alloc | refine Below.setCell ?_ (by simp) _)
  · have ha := andnot30 W (by omega) (by omega)
    have ho := or0 (W + r - 1000000000) (by omega) (by omega)
    have h63 := and63 (W + r - 1000000000) (by omega) (by omega)
    go_enter Try.func39, Try.ntmps39
    go_wp2_with (first
      | (go_at_call 52; refine (nsec52 _ W _ (by omega) (by omega) ?_).mono ?_; simp; rintro e w' ⟨rfl, rfl⟩)
      | (go_at_call 53; refine (addsec53 _ (W + r - 1000000000) E (q + 1) _ (by omega) (by omega) (by omega) (by omega) ?_ ?_ ?_).mono ?_; simp; simp; simp; rintro e w' ⟨rfl, rfl⟩))
    refine bodyPost_ret (v := .agg #[.int .u64 (W + r - 1000000000), .int .i64 (E + (q + 1)), .pointer none]) (by simp [results, Try.results39, go_sem]) rfl ⟨?_, ?_⟩
    · have hdd := HD.out
      clear ho ha h63
      exact congrArg Ending.returned (HF.out (W + r - 1000000000) (E + (q + 1)) (by omega) (by omega) (by omega)).symm
    · repeat (first | exact Below.refl _ _ | apply bel_alloc | refine Below.setCell ?_ (by simp) _)
end Go.Proofs.Qxb6605674a.D3
