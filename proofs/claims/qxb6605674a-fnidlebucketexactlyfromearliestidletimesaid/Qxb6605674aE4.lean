import Derived.Test.Qxb6605674aE3
import Derived.Test.Qxb6605674aD8
import Derived.Deep.RegionWith
set_option linter.unusedVariables false
set_option linter.unusedSimpArgs false
namespace Go.Proofs.Qxb6605674a.E4
open Go.RowKit Go.Lib Go.Proofs.Qxb6605674a.D1 Go.Proofs.Qxb6605674a.D2 Go.Proofs.Qxb6605674a.D3 Go.Proofs.Qxb6605674a.D4 Go.Proofs.Qxb6605674a.D5 Go.Proofs.Qxb6605674a.D6 Go.Proofs.Qxb6605674a.D7 Go.Proofs.Qxb6605674a.D8 Go.Proofs.Qxb6605674a.E1 Go.Proofs.Qxb6605674a.E2 Go.Proofs.Qxb6605674a.E3

theorem lim21 (r p b : Int) (w : World) : Calls Try.prog 21 #[.int .i64 r, .int .i64 p, .int .i64 b] w fun e w' => e = .returned (.agg #[.int .i64 r, .int .i64 p, .int .i64 b]) ∧ Below w.heap.size w w' := by
  go_enter Try.func21, Try.ntmps21
  go_wp2
  exact bodyPost_ret (v := .agg #[.int .i64 r, .int .i64 p, .int .i64 b]) (by simp [results, Try.results21, go_sem]) rfl ⟨rfl, (Below.refl _ _).alloc (Nat.le_refl _) _⟩

set_option maxHeartbeats 2000000 in
theorem walk_raw (last hi lo p bu lock at_ : Int) (r : Nat) (live res : Bool) (m1 m0 n1 n0 k1 k0 d1 d0 Wl El Wk Ek Wa Ea : Int) (hr : 0 < r) (hr' : r < 9223372036854775808) (w : World)
    (H33 : Hid (∀ w, Calls Try.prog 33 #[.int .u64 hi, .int .u64 9223372036854775808] w fun e w' => e = .returned (.agg #[.int .u64 m1, .int .u64 m0]) ∧ Below w.heap.size w w'))
    (H34a : Hid (∀ w, Calls Try.prog 34 #[.agg #[.int .u64 m1, .int .u64 m0], .agg #[.int .u64 m1, .int .u64 m0]] w fun e w' => e = .returned (.agg #[.int .u64 n1, .int .u64 n0]) ∧ Below w.heap.size w w'))
    (H20 : Hid (∀ w, Calls Try.prog 20 #[.int .u64 lo] w fun e w' => e = .returned (.agg #[.int .u64 k1, .int .u64 k0]) ∧ Below w.heap.size w w'))
    (H34b : Hid (∀ w, Calls Try.prog 34 #[.agg #[.int .u64 n1, .int .u64 n0], .agg #[.int .u64 k1, .int .u64 k0]] w fun e w' => e = .returned (.agg #[.int .u64 d1, .int .u64 d0]) ∧ Below w.heap.size w w'))
    (H19a : Hid (∀ w, Calls Try.prog 19 #[.int .i64 last] w fun e w' => e = .returned (.agg #[.int .u64 Wl, .int .i64 El, .pointer none]) ∧ Below w.heap.size w w'))
    (H19b : Hid (∀ w, Calls Try.prog 19 #[.int .i64 lock] w fun e w' => e = .returned (.agg #[.int .u64 Wk, .int .i64 Ek, .pointer none]) ∧ Below w.heap.size w w'))
    (H19c : Hid (∀ w, Calls Try.prog 19 #[.int .i64 at_] w fun e w' => e = .returned (.agg #[.int .u64 Wa, .int .i64 Ea, .pointer none]) ∧ Below w.heap.size w w'))
    (H36 : Hid (∀ b w, w.heap[b]? = some (.cells #[.int .u64 Wl, .int .i64 El, .pointer none, .int .u64 d1, .int .u64 d0, .int .i64 (r : Int), .int .i64 p, .int .i64 bu] 52 (0, 0)) → Calls Try.prog 36 #[.agg #[.pointer (some ⟨b, 0, none⟩), .pointer none, .int .u64 Wk, .int .i64 Ek, .pointer none, .bool live], .agg #[.int .u64 Wa, .int .i64 Ea, .pointer none]] w fun e w' => e = .returned (.bool res) ∧ Below w.heap.size w w'))
    (H37 : Hid (∀ w, Calls Try.prog 37 #[.int .i64 last, .int .u64 hi, .int .u64 lo, .int .u64 (r : Int), .int .i64 lock, .int .i64 at_] w fun e w' => e = .returned (.bool res) ∧ w' = w)) :
    Calls Try.prog 7 #[.int .i64 last, .int .u64 hi, .int .u64 lo, .int .i64 (r : Int), .int .i64 p, .int .i64 bu, .int .i64 lock, .bool live, .int .i64 at_] w fun e w' => e = .returned (.bool true) ∧ Below w.heap.size w w' := by
  have hwr : IntKind.u64.wrap (r : Int) = (r : Int) := by rw [IntKind.wrap_u64]; omega
  have hr2 : (0 : Int) < r := by omega
  go_enter Try.func7, Try.ntmps7
  go_wp2_with (first
    | (go_at_call 33; refine (H33.out _).mono ?_; rintro e w1 ⟨rfl, hb1⟩)
    | (go_at_call 34; refine (H34a.out _).mono ?_; rintro e w2 ⟨rfl, hb2⟩; have k := two (kept_new hb2); obtain ⟨c0, c1, f0, f1⟩ := k))
  have hs1 := hb1.size
  refine wp_gen (fun W => Below w.heap.size w W ∧ W.heap[w1.heap.size]? = some (.cells #[.int .u64 n1, .int .u64 n0] 45 (0, 0))) ⟨?_, ?_⟩ ?_
  · exact ((bel_trans (bel_trans hb1 (bel_alloc (Below.refl _ _))) hb2).setCell (by simp; omega) _).setCell (by simp; omega) _
  · exact heap_setCell_same _ _ _ _ _ _ (heap_setCell_same _ _ _ _ _ _ (kept_new hb2))
  generalize w1.heap.size = B at *
  intro W hW
  obtain ⟨hbW, hA⟩ := hW
  clear hb1 hb2 c0 c1 f0 f1
  obtain ⟨c0, c1, f0, f1⟩ := two hA
  have HBW : Hid (Below w.heap.size w W) := hbW
  have HA : Hid _ := hA
  have hAl := lt_of_block hA
  clear hbW hA
  go_region_with
    (first
      | (go_at_call 20; refine (H20.out _).mono ?_; rintro e w3 ⟨rfl, hb3⟩; have hb3' : Below W.heap.size W w3 := ⟨hb3.os, hb3.tape, hb3.output, hb3.size, hb3.block⟩; have k1 := two ((hb3'.block _ hAl).trans HA.out); obtain ⟨g0, g1, _⟩ := k1)
      | (go_at_call 34; refine (H34b.out _).mono ?_; rintro e w4 ⟨rfl, hb4⟩; have hb4' := bel_trans hb3' hb4; have k1 := two ((hb4'.block _ hAl).trans HA.out); obtain ⟨j0, j1, jf0, jf1⟩ := k1))
  all_goals go_wp2
  all_goals (
    have HB5 : Hid (Below w.heap.size w ((w4.setCell ⟨B, 0, none⟩ (.int .u64 d1)).setCell ⟨B, 1, none⟩ (.int .u64 d0))) := ((bel_trans HBW.out hb4').setCell (by simp; omega) _).setCell (by simp; omega) _
    have HC5 : Hid (((w4.setCell ⟨B, 0, none⟩ (.int .u64 d1)).setCell ⟨B, 1, none⟩ (.int .u64 d0)).heap[B]? = some (.cells #[.int .u64 d1, .int .u64 d0] 45 (0, 0))) := heap_setCell_same _ _ _ _ _ _ (heap_setCell_same _ _ _ _ _ _ ((hb4'.block _ hAl).trans HA.out))
    refine wp_gen (fun W => Below w.heap.size w W ∧ W.heap[B]? = some (.cells #[.int .u64 d1, .int .u64 d0] 45 (0, 0))) ⟨HB5.out, HC5.out⟩ ?_
    clear HB5 HC5
    intro W5 hW5
    obtain ⟨hbW5, hA5⟩ := hW5
    clear hb3 hb4 hb3' hb4' g0 g1 j0 j1 jf0 jf1 c0 c1 f0 f1
    obtain ⟨c0, c1, f0, f1⟩ := two hA5
    have HBW5 : Hid (Below w.heap.size w W5) := hbW5
    have HA5 : Hid _ := hA5
    have hAl5 := lt_of_block hA5
    clear hbW5 hA5
    go_region_held3 (fun w' => w'.cell? ⟨B, 0, none⟩ = some (.int .u64 d1) ∧ w'.cell? ⟨B, 1, none⟩ = some (.int .u64 d0)) (go_keep)
      (first
        | (go_at_call 19; refine (H19a.out _).mono ?_; rintro e w6 ⟨rfl, hb6⟩; have hb6' : Below W5.heap.size W5 w6 := ⟨hb6.os, hb6.tape, hb6.output, hb6.size, hb6.block⟩; have k1 := two ((hb6'.block _ hAl5).trans HA5.out); obtain ⟨g0, g1, _⟩ := k1)
        | (go_at_call 21; refine (lim21 _ _ _ _).mono ?_; rintro e w7 ⟨rfl, hb7⟩; have hb7' := bel_trans hb6' hb7; have k1 := two ((hb7'.block _ hAl5).trans HA5.out); obtain ⟨j0, j1, jf0, jf1⟩ := k1; have hB7 : B < w7.heap.size := Nat.lt_of_lt_of_le hAl5 hb7'.size))
    go_wp2_with (first
      | (go_at_call 19; refine (H19b.out _).mono ?_; rintro e w8 ⟨rfl, hb8⟩)
      | (go_at_call 35; refine (state35 _ _ _ _ _).mono ?_; rintro e w9 ⟨rfl, hb9⟩))
    have H8 := kept_new hb8
    have H9 := (hb9.block _ (lt_of_block H8)).trans H8
    have HB9 : Below w.heap.size w w9 := bel_trans (bel_trans (bel_alloc (bel_trans HBW5.out hb7')) hb8) hb9
    have hl9 := lt_of_block H9
    refine wp_gen (fun W => Below w.heap.size w W ∧ W.heap[w7.heap.size]? = some (.cells #[.int .u64 Wl, .int .i64 El, .pointer none, .int .u64 d1, .int .u64 d0, .int .i64 (r : Int), .int .i64 p, .int .i64 bu] 52 (0, 0)) ∧ W.heap[w9.heap.size]? = some (.cells #[.pointer (some ⟨w7.heap.size, 0, none⟩), .pointer none, .int .u64 Wk, .int .i64 Ek, .pointer none, .bool live] 74 (0, 0))) ⟨bel_alloc HB9, (heap_alloc_old _ _ hl9).trans H9, heap_alloc_new _ _⟩ ?_
    intro WA hWA
    obtain ⟨hbA, hA7, hA9⟩ := hWA
    clear HB9 H9 H8 hl9 hb8 hb9
    generalize w7.heap.size = b7 at *
    generalize w9.heap.size = b9 at *
    obtain ⟨e0, e1, e2, e3, e4, e5⟩ := six hA9
    have HBA : Hid (Below w.heap.size w WA) := hbA
    have HA7 : Hid _ := hA7
    have hl7 := lt_of_block hA7
    have HA9 : Hid _ := hA9
    have hl9 := lt_of_block hA9
    clear hbA hA7 hA9
    go_region_held3 (fun w' => w'.cell? ⟨b9, 0, none⟩ = some (.pointer (some ⟨b7, 0, none⟩)) ∧ w'.cell? ⟨b9, 1, none⟩ = some (.pointer none) ∧ w'.cell? ⟨b9, 2, none⟩ = some (.int .u64 Wk) ∧ w'.cell? ⟨b9, 3, none⟩ = some (.int .i64 Ek) ∧ w'.cell? ⟨b9, 4, none⟩ = some (.pointer none) ∧ w'.cell? ⟨b9, 5, none⟩ = some (.bool live)) (go_keep)
      (first
        | (go_at_call 19; refine (H19c.out _).mono ?_; rintro e wB ⟨rfl, hbB⟩; have hbB' : Below WA.heap.size WA wB := ⟨hbB.os, hbB.tape, hbB.output, hbB.size, hbB.block⟩; have k1 := six ((hbB'.block _ hl9).trans HA9.out); obtain ⟨g0, g1, g2, g3, g4, g5⟩ := k1)
        | (go_at_call 36; refine (H36.out b7 _ ((hbB'.block _ hl7).trans HA7.out)).mono ?_; rintro e wC ⟨rfl, hbC⟩; have hbC' := bel_trans hbB' hbC; have k1 := six ((hbC'.block _ hl9).trans HA9.out); obtain ⟨i0, i1, i2, i3, i4, i5⟩ := k1))
    go_wp2_with (go_at_call 37; refine (H37.out _).mono ?_; rintro e wD ⟨rfl, rfl⟩)
    go_ret
    exact ⟨by simp, bel_trans HBA.out hbC'⟩)

theorem walk_pos (last p bu lock at_ : Int) (hi lo r : Nat) (live : Bool) (hr : 0 < r) (hr' : r < 9223372036854775808) (hhi : hi < 18446744073709551616) (hlo : lo < 18446744073709551616)
    (h1 : -9223372036854775808 ≤ last ∧ last ≤ 9223372036854775807) (h2 : -9223372036854775808 ≤ at_ ∧ at_ ≤ 9223372036854775807) (h3 : -9223372036854775808 ≤ lock ∧ lock ≤ 9223372036854775807) (w : World) :
    Calls Try.prog 7 #[.int .i64 last, .int .u64 (hi : Int), .int .u64 (lo : Int), .int .i64 (r : Int), .int .i64 p, .int .i64 bu, .int .i64 lock, .bool live, .int .i64 at_] w fun e w' => e = .returned (.bool true) ∧ Below w.heap.size w w' := by
  obtain ⟨C, hC⟩ : ∃ C : Nat, 9223372036854775808 = C := ⟨_, rfl⟩
  obtain ⟨M, hM⟩ : ∃ M, hi * C = M := ⟨_, rfl⟩
  obtain ⟨S, hS⟩ : ∃ S, M + M = S := ⟨_, rfl⟩
  obtain ⟨N, hN⟩ : ∃ N, S + lo = N := ⟨_, rfl⟩
  have hm : M = hi * 9223372036854775808 := by rw [← hM, ← hC]
  have hn : N = hi * 18446744073709551616 + lo := by omega
  have hN' : N < 340282366920938463463374607431768211456 := by omega
  have e1 : N / 18446744073709551616 = hi := by omega
  have e2 : N % 18446744073709551616 = lo := by omega
  have hC' : C < 18446744073709551616 := by omega
  have A33 : ∀ w, Calls Try.prog 33 #[.int .u64 (hi : Int), .int .u64 9223372036854775808] w fun e w' => e = .returned (u128 M) ∧ Below w.heap.size w w' := fun w => by
    have := mul33 hi C hhi hC' w
    rw [hM, ← hC] at this
    exact this
  have A34 : ∀ w, Calls Try.prog 34 #[u128 M, u128 M] w fun e w' => e = .returned (u128 S) ∧ Below w.heap.size w w' := fun w => by
    have := add34 M M (by omega) w
    rw [hS] at this
    exact this
  have B34 : ∀ w, Calls Try.prog 34 #[u128 S, u128 lo] w fun e w' => e = .returned (u128 N) ∧ Below w.heap.size w w' := fun w => by
    have := add34 S lo (by omega) w
    rw [hN] at this
    exact this
  have A37 : ∀ w, Calls Try.prog 37 #[.int .i64 last, .int .u64 (hi : Int), .int .u64 (lo : Int), .int .u64 (r : Int), .int .i64 lock, .int .i64 at_] w fun e w' => e = .returned (.bool (mdl last N r lock at_)) ∧ w' = w := fun w => by
    have := model37 last N r lock at_ hN' hr hr' h1 h2 w
    rw [e1, e2] at this
    exact this
  have A20 := fun w => from20 lo hlo w
  have A19a := fun w => time19 last h1 w
  have A19b := fun w => time19 lock h3 w
  have A19c := fun w => time19 at_ h2 w
  have A36 := fun b w hb => zzidle36 b N r last at_ lock p bu live hr' h1 h2 w hb
  clear hm hn hN' e1 e2 hC' hM hS hN hC
  unfold u128 at A33 A34 B34 A20
  unfold tm at A19a A19b A19c A36
  exact walk_raw last hi lo p bu lock at_ r live (mdl last N r lock at_) ((M / 18446744073709551616 : Nat) : Int) ((M % 18446744073709551616 : Nat) : Int) ((S / 18446744073709551616 : Nat) : Int) ((S % 18446744073709551616 : Nat) : Int) ((lo / 18446744073709551616 : Nat) : Int) ((lo % 18446744073709551616 : Nat) : Int) ((N / 18446744073709551616 : Nat) : Int) ((N % 18446744073709551616 : Nat) : Int) (last % 1000000000) (last / 1000000000) (lock % 1000000000) (lock / 1000000000) (at_ % 1000000000) (at_ / 1000000000) hr hr' w A33 A34 A20 B34 A19a A19b A19c A36 A37

theorem walk_neg (last p bu lock at_ hi lo r : Int) (live : Bool) (hr : r ≤ 0) (w : World) :
    Calls Try.prog 7 #[.int .i64 last, .int .u64 hi, .int .u64 lo, .int .i64 r, .int .i64 p, .int .i64 bu, .int .i64 lock, .bool live, .int .i64 at_] w fun e w' => e = .returned (.bool true) ∧ Below w.heap.size w w' := by
  go_enter Try.func7, Try.ntmps7
  go_wp2_with (fail)
  go_ret
  exact ⟨rfl, Below.refl _ _⟩
end Go.Proofs.Qxb6605674a.E4
