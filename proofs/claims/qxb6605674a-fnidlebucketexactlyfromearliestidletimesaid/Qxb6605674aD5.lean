import Derived.Test.Qxb6605674aD4
set_option linter.unusedVariables false
set_option linter.unusedSimpArgs false
namespace Go.Proofs.Qxb6605674a.D5
open Go.RowKit Go.Lib Go.Proofs.Qxb6605674a.D1 Go.Proofs.Qxb6605674a.D2 Go.Proofs.Qxb6605674a.D3 Go.Proofs.Qxb6605674a.D4

/-- The nanoseconds from y to x, at most as many as a Duration counts. -/
def el (x y : Int) : Int := if x - y ≤ 9223372036854775807 then x - y else 9223372036854775807

theorem wp_gen {P : Program} {c : Code} {Q : Exit → Act → World → Prop} {a : Act} {w : World} (R : World → Prop) (hR : R w) (h : ∀ W, R W → c.wp P Q a W) : c.wp P Q a w := h w hR

set_option maxHeartbeats 1000000 in
theorem sub42 (x y : Int) (hx : -9223372036854775808 ≤ x ∧ x ≤ 9223372036854775807) (hy : -9223372036854775808 ≤ y ∧ y ≤ 9223372036854775807) (hxy : y ≤ x) (w : World) :
    Calls Try.prog 42 #[tm x, tm y] w fun e w' => e = .returned (.int .i64 (el x y)) ∧ Below w.heap.size w w' := by
  obtain ⟨Wx, hWx⟩ : ∃ W, x % 1000000000 = W := ⟨_, rfl⟩
  obtain ⟨Ex, hEx⟩ : ∃ E, x / 1000000000 = E := ⟨_, rfl⟩
  obtain ⟨Wy, hWy⟩ : ∃ W, y % 1000000000 = W := ⟨_, rfl⟩
  obtain ⟨Ey, hEy⟩ : ∃ E, y / 1000000000 = E := ⟨_, rfl⟩
  have a1 : 0 ≤ Wx ∧ Wx ≤ 999999999 := by omega
  have a2 : 0 ≤ Wy ∧ Wy ≤ 999999999 := by omega
  have b1 : -9223372037 ≤ Ex ∧ Ex ≤ 9223372036 := by omega
  have b2 : -9223372037 ≤ Ey ∧ Ey ≤ 9223372036 := by omega
  obtain ⟨p1, p2⟩ := a1
  obtain ⟨p3, p4⟩ := a2
  obtain ⟨q1, q2⟩ := b1
  obtain ⟨q3, q4⟩ := b2
  have hand : bits .and .u64 (bits .and .u64 Wx Wy) 9223372036854775808 = 0 := and_and Wx Wy (by omega) (by omega) (by omega) (by omega)
  have htx : tm x = .agg #[.int .u64 Wx, .int .i64 Ex, .pointer none] := by unfold tm; rw [hWx, hEx]
  have hty : tm y = .agg #[.int .u64 Wy, .int .i64 Ey, .pointer none] := by unfold tm; rw [hWy, hEy]
  rw [htx, hty]
  have HX : Hid (tm x = .agg #[.int .u64 Wx, .int .i64 Ex, .pointer none]) := htx
  have HY : Hid (tm y = .agg #[.int .u64 Wy, .int .i64 Ey, .pointer none]) := hty
  have HE : Hid (x = Ex * 1000000000 + Wx ∧ y = Ey * 1000000000 + Wy) := by constructor <;> omega
  clear hWx hEx hWy hEy htx hty
  go_enter Try.func42, Try.ntmps42
  go_wp2_with (first
      | (go_at_call_of 55 (Value.pointer (some { block := w.heap.size, off := 0 })); refine (sec55 _ Wx Ex _ (by omega) (by omega) ?_ ?_).mono ?_; simp; simp; rintro e w' ⟨rfl, rfl⟩)
      | (go_at_call_of 55 (Value.pointer (some { block := w.heap.size + 1, off := 0 })); refine (sec55 _ Wy Ey _ (by omega) (by omega) ?_ ?_).mono ?_; simp; simp; rintro e w' ⟨rfl, rfl⟩)
      | (go_at_call_of 52 (Value.pointer (some { block := w.heap.size, off := 0 })); refine (nsec52 _ Wx _ (by omega) (by omega) ?_).mono ?_; simp; rintro e w' ⟨rfl, rfl⟩)
      | (go_at_call_of 52 (Value.pointer (some { block := w.heap.size + 1, off := 0 })); refine (nsec52 _ Wy _ (by omega) (by omega) ?_).mono ?_; simp; rintro e w' ⟨rfl, rfl⟩))
  obtain ⟨d, hd⟩ : ∃ d, wrap64 (wrap64 ((Ex - Ey) * 1000000000) + (Wx - Wy)) = d := ⟨_, rfl⟩
  rw [hd]
  have hdd : (x - y ≤ 9223372036854775807 → d = x - y) ∧ (9223372036854775807 < x - y → d = x - y - 18446744073709551616) := by
    obtain ⟨e1, e2⟩ := HE.out
    have e3 : x - y = (Ex - Ey) * 1000000000 + (Wx - Wy) := by omega
    rw [← hd]
    unfold wrap64
    omega
  have hdb : -9223372036854775808 ≤ d ∧ d ≤ 9223372036854775807 := by
    rcases Int.lt_or_le 9223372036854775807 (x - y) with h | h
    · have := hdd.2 h; omega
    · have := hdd.1 h; omega
  have H39 : Hid (∀ w, Calls Try.prog 39 #[.agg #[.int .u64 Wy, .int .i64 Ey, .pointer none], .int .i64 d] w fun e w' => e = .returned (tm (y + d)) ∧ Below w.heap.size w w') := fun w => by
    rw [← HY.out]; exact add39 y d (by omega) hdb w
  have H40 : Hid (∀ w, Calls Try.prog 40 #[.agg #[.int .u64 Wx, .int .i64 Ex, .pointer none], .agg #[.int .u64 Wy, .int .i64 Ey, .pointer none]] w fun e w' => e = .returned (.bool false) ∧ Below w.heap.size w w') := fun w => by
    rw [← HX.out, ← HY.out]
    have := before40 x y w
    rwa [decide_eq_false (by omega)] at this
  refine wp_gen (fun W => Below w.heap.size w W ∧ W.heap[w.heap.size]? = some (.cells #[.int .u64 Wx, .int .i64 Ex, .pointer none] 42 (0, 0)) ∧ W.heap[w.heap.size + 1]? = some (.cells #[.int .u64 Wy, .int .i64 Ey, .pointer none] 42 (0, 0))) ⟨bel_alloc (bel_alloc (Below.refl _ _)), heap_alloc2_old _ _ _, heap_alloc2_new _ _ _⟩ ?_
  intro W hW
  obtain ⟨hbW, hA, hB⟩ := hW
  obtain ⟨c0, c1, c2, f0, f1, f2⟩ := three hA
  obtain ⟨e0, e1, e2, f3, f4, f5⟩ := three hB
  have HBW : Hid (Below w.heap.size w W) := hbW
  have hAl := lt_of_block hA
  have hBl := lt_of_block hB
  have HA : Hid (W.heap[w.heap.size]? = some (.cells #[.int .u64 Wx, .int .i64 Ex, .pointer none] 42 (0, 0))) := hA
  have HB : Hid (W.heap[w.heap.size + 1]? = some (.cells #[.int .u64 Wy, .int .i64 Ey, .pointer none] 42 (0, 0))) := hB
  clear hd hbW hA hB f0 f1 f2 f3 f4 f5 hand
  by_cases hc : x - y ≤ 9223372036854775807
  · have H58 : Hid (∀ w, Calls Try.prog 58 #[tm (y + d), .agg #[.int .u64 Wx, .int .i64 Ex, .pointer none]] w fun e w' => e = .returned (.bool true) ∧ Below w.heap.size w w') := fun w => by
      rw [← HX.out]
      have := equal58 (y + d) x w
      rwa [decide_eq_true (by have := hdd.1 hc; omega)] at this
    have HD : Hid (d = x - y) := hdd.1 hc
    have HC : Hid (x - y ≤ 9223372036854775807) := hc
    clear hdd hc
    go_region_held3 (fun w' => w'.cell? ⟨w.heap.size, 0, none⟩ = some (.int .u64 Wx) ∧ w'.cell? ⟨w.heap.size, 1, none⟩ = some (.int .i64 Ex) ∧ w'.cell? ⟨w.heap.size, 2, none⟩ = some (.pointer none) ∧ w'.cell? ⟨w.heap.size + 1, 0, none⟩ = some (.int .u64 Wy) ∧ w'.cell? ⟨w.heap.size + 1, 1, none⟩ = some (.int .i64 Ey) ∧ w'.cell? ⟨w.heap.size + 1, 2, none⟩ = some (.pointer none)) (go_keep)
      (first
        | (go_at_call 39; refine (H39.out _).mono ?_; rintro e w1 ⟨rfl, hb1⟩; have k1 := three ((hb1.block _ (by exact hAl)).trans HA.out); have k2 := three ((hb1.block _ (by exact hBl)).trans HB.out); have hb1' : Below W.heap.size W w1 := ⟨hb1.os, hb1.tape, hb1.output, hb1.size, hb1.block⟩; obtain ⟨c0, c1, c2, _⟩ := k1; obtain ⟨e0, e1, e2, _⟩ := k2)
        | (go_at_call 58; refine (H58.out _).mono ?_; rintro e w2 ⟨rfl, hb2⟩; have k1 := three ((bel_trans hb1' hb2).block _ hAl |>.trans HA.out); have k2 := three ((bel_trans hb1' hb2).block _ hBl |>.trans HB.out); obtain ⟨g0, g1, g2, _⟩ := k1; obtain ⟨j0, j1, j2, _⟩ := k2))
    go_wp2
    go_ret
    have eF : el x y = d := by unfold el; rw [if_pos HC.out]; exact HD.out.symm
    exact ⟨by rw [eF]; rfl, bel_trans HBW.out (bel_trans hb1' hb2)⟩
  · have H58 : Hid (∀ w, Calls Try.prog 58 #[tm (y + d), .agg #[.int .u64 Wx, .int .i64 Ex, .pointer none]] w fun e w' => e = .returned (.bool false) ∧ Below w.heap.size w w') := fun w => by
      rw [← HX.out]
      have := equal58 (y + d) x w
      rwa [decide_eq_false (by have := hdd.2 (by omega); omega)] at this
    have HC : Hid (¬ x - y ≤ 9223372036854775807) := hc
    clear hdd hc
    go_region_held3 (fun w' => w'.cell? ⟨w.heap.size, 0, none⟩ = some (.int .u64 Wx) ∧ w'.cell? ⟨w.heap.size, 1, none⟩ = some (.int .i64 Ex) ∧ w'.cell? ⟨w.heap.size, 2, none⟩ = some (.pointer none) ∧ w'.cell? ⟨w.heap.size + 1, 0, none⟩ = some (.int .u64 Wy) ∧ w'.cell? ⟨w.heap.size + 1, 1, none⟩ = some (.int .i64 Ey) ∧ w'.cell? ⟨w.heap.size + 1, 2, none⟩ = some (.pointer none)) (go_keep)
      (first
        | (go_at_call 39; refine (H39.out _).mono ?_; rintro e w1 ⟨rfl, hb1⟩; have k1 := three ((hb1.block _ (by exact hAl)).trans HA.out); have k2 := three ((hb1.block _ (by exact hBl)).trans HB.out); have hb1' : Below W.heap.size W w1 := ⟨hb1.os, hb1.tape, hb1.output, hb1.size, hb1.block⟩; obtain ⟨c0, c1, c2, _⟩ := k1; obtain ⟨e0, e1, e2, _⟩ := k2)
        | (go_at_call 58; refine (H58.out _).mono ?_; rintro e w2 ⟨rfl, hb2⟩; have k1 := three ((bel_trans hb1' hb2).block _ hAl |>.trans HA.out); have k2 := three ((bel_trans hb1' hb2).block _ hBl |>.trans HB.out); obtain ⟨g0, g1, g2, _⟩ := k1; obtain ⟨j0, j1, j2, _⟩ := k2))
    go_wp2_with (go_at_call 40; refine (H40.out _).mono ?_; rintro e w3 ⟨rfl, hb3⟩)
    go_ret
    have eF : el x y = 9223372036854775807 := by unfold el; rw [if_neg (by have := HC.out; omega)]
    exact ⟨by rw [eF]; rfl, bel_trans HBW.out (bel_trans (bel_trans hb1' hb2) hb3)⟩
end Go.Proofs.Qxb6605674a.D5
