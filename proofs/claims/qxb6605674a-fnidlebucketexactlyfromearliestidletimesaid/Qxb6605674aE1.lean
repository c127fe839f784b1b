import Derived.Test.Qxb6605674aD8
set_option linter.unusedVariables false
set_option linter.unusedSimpArgs false
namespace Go.Proofs.Qxb6605674a.E1
open Go.RowKit Go.Lib Go.Proofs.Qxb6605674a.D1 Go.Proofs.Qxb6605674a.D2 Go.Proofs.Qxb6605674a.D3 Go.Proofs.Qxb6605674a.D4 Go.Proofs.Qxb6605674a.D5 Go.Proofs.Qxb6605674a.D6 Go.Proofs.Qxb6605674a.D7

theorem eqg45 : Try.prog.eqGuardType Try.prog.depth 45 = false := by kernel_rfl
theorem held45 : Try.prog.stoodInHeld 45 = false := by kernel_rfl
theorem eql45 (hi lo : Int) (b : Bool) (hb : b = decide (hi = 0 ∧ lo = 0)) (w : World) : (binOp .eql 45 (.agg #[.int .u64 hi, .int .u64 lo]) (.agg #[.int .u64 0, .int .u64 0])).run Try.prog w = .ok (.bool b) w := by
  have h45 := Try.underlying45
  have h39 := Try.underlying39
  have hh := held45
  subst hb
  simp [go_sem, h45, h39, hh]
  by_cases e0 : hi = 0 <;> by_cases e1 : lo = 0 <;> simp [e0, e1]

set_option maxHeartbeats 1000000 in
theorem refilled_raw (hi lo r e : Nat) (p b : Int) (m : Value) (res : Bool) (hr : r < 9223372036854775808) (w : World)
    (H33 : Hid (∀ w, Calls Try.prog 33 #[.int .u64 (e : Int), .int .u64 (r : Int)] w fun e' w' => e' = .returned m ∧ Below w.heap.size w w'))
    (H56 : Hid (∀ w, Calls Try.prog 56 #[m, .agg #[.int .u64 (hi : Int), .int .u64 (lo : Int)]] w fun e w' => e = .returned (.bool res) ∧ Below w.heap.size w w')) :
    Calls Try.prog 41 #[.agg #[.int .u64 (hi : Int), .int .u64 (lo : Int)], .agg #[.int .i64 (r : Int), .int .i64 p, .int .i64 b], .int .u64 (e : Int)] w fun e' w' => e' = .returned (.bool (!res)) ∧ Below w.heap.size w w' := by
  have hwr : IntKind.u64.wrap (r : Int) = (r : Int) := by rw [IntKind.wrap_u64]; omega
  go_enter Try.func41, Try.ntmps41
  go_wp2
  refine wp_gen (fun W => Below w.heap.size w W ∧ W.heap[w.heap.size]? = some (.cells #[.int .u64 (hi : Int), .int .u64 (lo : Int)] 45 (0, 0)) ∧ W.heap[w.heap.size + 1]? = some (.cells #[.int .i64 (r : Int), .int .i64 p, .int .i64 b] 49 (0, 0))) ⟨bel_alloc (bel_alloc (Below.refl _ _)), heap_alloc2_old _ _ _, heap_alloc2_new _ _ _⟩ ?_
  intro W hW
  obtain ⟨hbW, hA, hB⟩ := hW
  obtain ⟨c0, c1, f0, f1⟩ := two hA
  obtain ⟨e0, e1, e2, f3, f4, f5⟩ := three hB
  have HBW : Hid (Below w.heap.size w W) := hbW
  have hAl := lt_of_block hA
  have hBl := lt_of_block hB
  have HA : Hid (W.heap[w.heap.size]? = some (.cells #[.int .u64 (hi : Int), .int .u64 (lo : Int)] 45 (0, 0))) := hA
  have HB : Hid (W.heap[w.heap.size + 1]? = some (.cells #[.int .i64 (r : Int), .int .i64 p, .int .i64 b] 49 (0, 0))) := hB
  clear hbW hA hB f0 f1 f3 f4 f5 e1 e2
  go_region_held3 (fun w' => w'.cell? ⟨w.heap.size, 0, none⟩ = some (.int .u64 (hi : Int)) ∧ w'.cell? ⟨w.heap.size, 1, none⟩ = some (.int .u64 (lo : Int)) ∧ w'.cell? ⟨w.heap.size + 1, 0, none⟩ = some (.int .i64 (r : Int))) (go_keep)
    (first
      | (go_at_call 33; refine (H33.out _).mono ?_; rintro e w1 ⟨rfl, hb1⟩; have k1 := two ((hb1.block _ (by exact hAl)).trans HA.out); have k2 := three ((hb1.block _ (by exact hBl)).trans HB.out); have hb1' : Below W.heap.size W w1 := ⟨hb1.os, hb1.tape, hb1.output, hb1.size, hb1.block⟩; obtain ⟨c0, c1, _⟩ := k1; obtain ⟨e0, _⟩ := k2)
      | (go_at_call 56; refine (H56.out _).mono ?_; rintro e w2 ⟨rfl, hb2⟩; have k1 := two ((bel_trans hb1' hb2).block _ hAl |>.trans HA.out); have k2 := three ((bel_trans hb1' hb2).block _ hBl |>.trans HB.out); obtain ⟨g0, g1, _⟩ := k1; obtain ⟨j0, _⟩ := k2))
  go_wp2
  go_ret
  exact ⟨rfl, bel_trans HBW.out (bel_trans hb1' hb2)⟩

theorem refilled41 (N r e : Nat) (p b : Int) (hr : r < 9223372036854775808) (he : e < 18446744073709551616) (w : World) :
    Calls Try.prog 41 #[u128 N, .agg #[.int .i64 r, .int .i64 p, .int .i64 b], .int .u64 e] w fun e' w' => e' = .returned (.bool (decide (N ≤ e * r))) ∧ Below w.heap.size w w' := by
  have HR : decide (N ≤ e * r) = !(decide (e * r < N)) := by
    by_cases h : e * r < N
    · rw [decide_eq_true h, decide_eq_false (by omega)]; rfl
    · rw [decide_eq_false h, decide_eq_true (by omega)]; rfl
  rw [HR]
  exact refilled_raw (N / 18446744073709551616) (N % 18446744073709551616) r e p b (u128 (e * r)) _ hr w (fun w => mul33 e r he (by omega) w) (fun w => less56 (e * r) N w)
end Go.Proofs.Qxb6605674a.E1
