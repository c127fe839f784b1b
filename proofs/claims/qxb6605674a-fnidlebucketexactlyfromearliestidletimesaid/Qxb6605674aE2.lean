import Derived.Test.Qxb6605674aE1
set_option linter.unusedVariables false
set_option linter.unusedSimpArgs false
namespace Go.Proofs.Qxb6605674a.E2
open Go.RowKit Go.Lib Go.Proofs.Qxb6605674a.D1 Go.Proofs.Qxb6605674a.D2 Go.Proofs.Qxb6605674a.D3 Go.Proofs.Qxb6605674a.D4 Go.Proofs.Qxb6605674a.D5 Go.Proofs.Qxb6605674a.D6 Go.Proofs.Qxb6605674a.D7 Go.Proofs.Qxb6605674a.E1

theorem eight {w : World} {b : Nat} {x0 x1 x2 x3 x4 x5 x6 x7 : Value} {e : TypeId} (h : w.heap[b]? = some (.cells #[x0, x1, x2, x3, x4, x5, x6, x7] e (0, 0))) :
    w.cell? ⟨b, 0, none⟩ = some x0 ∧ w.cell? ⟨b, 1, none⟩ = some x1 ∧ w.cell? ⟨b, 2, none⟩ = some x2 ∧ w.cell? ⟨b, 3, none⟩ = some x3 ∧ w.cell? ⟨b, 4, none⟩ = some x4 ∧ w.cell? ⟨b, 5, none⟩ = some x5 ∧ w.cell? ⟨b, 6, none⟩ = some x6 ∧ w.cell? ⟨b, 7, none⟩ = some x7 := by
  refine ⟨?_, ?_, ?_, ?_, ?_, ?_, ?_, ?_⟩ <;> rw [cell_of_row w b _ _ _ _ h] <;> rfl

set_option maxHeartbeats 2000000 in
theorem full_raw (b hi lo r : Nat) (Wa Ea Wl El p bu e : Int) (before res : Bool) (w : World) (he0 : 0 ≤ e) (he : e ≤ 9223372036854775807)
    (hblk : w.heap[b]? = some (.cells #[.int .u64 Wl, .int .i64 El, .pointer none, .int .u64 (hi : Int), .int .u64 (lo : Int), .int .i64 (r : Int), .int .i64 p, .int .i64 bu] 52 (0, 0)))
    (H40 : Hid (∀ w, Calls Try.prog 40 #[.agg #[.int .u64 Wa, .int .i64 Ea, .pointer none], .agg #[.int .u64 Wl, .int .i64 El, .pointer none]] w fun e w' => e = .returned (.bool before) ∧ Below w.heap.size w w'))
    (H42 : Hid (before = false → ∀ w, Calls Try.prog 42 #[.agg #[.int .u64 Wa, .int .i64 Ea, .pointer none], .agg #[.int .u64 Wl, .int .i64 El, .pointer none]] w fun e' w' => e' = .returned (.int .i64 e) ∧ Below w.heap.size w w'))
    (H41 : Hid (before = false → ∀ w, Calls Try.prog 41 #[.agg #[.int .u64 (hi : Int), .int .u64 (lo : Int)], .agg #[.int .i64 (r : Int), .int .i64 p, .int .i64 bu], .int .u64 e] w fun e' w' => e' = .returned (.bool res) ∧ Below w.heap.size w w'))
    (hres : Hid (before = true → res = decide ((hi : Int) = 0 ∧ (lo : Int) = 0))) :
    Calls Try.prog 22 #[.pointer (some ⟨b, 0, none⟩), .agg #[.int .u64 Wa, .int .i64 Ea, .pointer none]] w fun e' w' => e' = .returned (.bool res) ∧ Below w.heap.size w w' := by
  have hwe : IntKind.u64.wrap e = e := by rw [IntKind.wrap_u64]; omega
  have hbl := lt_of_block hblk
  have HBK : Hid (w.heap[b]? = some (.cells #[.int .u64 Wl, .int .i64 El, .pointer none, .int .u64 (hi : Int), .int .u64 (lo : Int), .int .i64 (r : Int), .int .i64 p, .int .i64 bu] 52 (0, 0))) := hblk
  have hgd := eqg45
  clear hblk
  cases before with
  | true =>
    have heq := fun wx => eql45 (hi : Int) (lo : Int) res (hres.out rfl) wx
    go_enter Try.func22, Try.ntmps22
    go_wp2
    refine wp_gen (fun W => Below w.heap.size w W ∧ W.heap[w.heap.size]? = some (.cells #[.int .u64 Wa, .int .i64 Ea, .pointer none] 42 (0, 0))) ⟨bel_alloc (Below.refl _ _), heap_alloc_new _ _⟩ ?_
    intro W hW
    obtain ⟨hbW, hA⟩ := hW
    have hB := (hbW.block b hbl).trans HBK.out
    obtain ⟨c0, c1, c2, f0, f1, f2⟩ := three hA
    obtain ⟨d0, d1, d2, d3, d4, d5, d6, d7⟩ := eight hB
    have HBW : Hid (Below w.heap.size w W) := hbW
    have HB : Hid _ := hB
    have hBl := lt_of_block hB
    have HA : Hid _ := hA
    have hAl := lt_of_block hA
    clear hbW hA hB f0 f1 f2 d5 d6 d7
    go_region_held3 (fun w' => w'.cell? ⟨w.heap.size, 0, none⟩ = some (.int .u64 Wa) ∧ w'.cell? ⟨w.heap.size, 1, none⟩ = some (.int .i64 Ea) ∧ w'.cell? ⟨w.heap.size, 2, none⟩ = some (.pointer none) ∧ w'.cell? ⟨b, 0, none⟩ = some (.int .u64 Wl) ∧ w'.cell? ⟨b, 1, none⟩ = some (.int .i64 El) ∧ w'.cell? ⟨b, 2, none⟩ = some (.pointer none)) (go_keep)
      (first
        | (go_at_call 40; refine (H40.out _).mono ?_; rintro e w1 ⟨rfl, hb1⟩; have hb1' : Below W.heap.size W w1 := ⟨hb1.os, hb1.tape, hb1.output, hb1.size, hb1.block⟩; have k1 := three ((hb1'.block _ hAl).trans HA.out); have k2 := eight ((hb1'.block _ hBl).trans HB.out); obtain ⟨g0, g1, g2, _⟩ := k1; obtain ⟨j0, j1, j2, j3, j4, _⟩ := k2))
    clear c0 c1 c2 d0 d1 d2 d3 d4
    go_wp2
    go_ret
    exact ⟨rfl, bel_trans HBW.out hb1'⟩
  | false =>
    have H42' : Hid (∀ w, Calls Try.prog 42 #[.agg #[.int .u64 Wa, .int .i64 Ea, .pointer none], .agg #[.int .u64 Wl, .int .i64 El, .pointer none]] w fun e' w' => e' = .returned (.int .i64 e) ∧ Below w.heap.size w w') := H42.out rfl
    have H41' : Hid (∀ w, Calls Try.prog 41 #[.agg #[.int .u64 (hi : Int), .int .u64 (lo : Int)], .agg #[.int .i64 (r : Int), .int .i64 p, .int .i64 bu], .int .u64 e] w fun e' w' => e' = .returned (.bool res) ∧ Below w.heap.size w w') := H41.out rfl
    clear H42 H41 hres
    go_enter Try.func22, Try.ntmps22
    go_wp2
    refine wp_gen (fun W => Below w.heap.size w W ∧ W.heap[w.heap.size]? = some (.cells #[.int .u64 Wa, .int .i64 Ea, .pointer none] 42 (0, 0))) ⟨bel_alloc (Below.refl _ _), heap_alloc_new _ _⟩ ?_
    intro W hW
    obtain ⟨hbW, hA⟩ := hW
    have hB := (hbW.block b hbl).trans HBK.out
    obtain ⟨c0, c1, c2, f0, f1, f2⟩ := three hA
    obtain ⟨d0, d1, d2, d3, d4, d5, d6, d7⟩ := eight hB
    have HBW : Hid (Below w.heap.size w W) := hbW
    have HB : Hid _ := hB
    have hBl := lt_of_block hB
    have HA : Hid _ := hA
    have hAl := lt_of_block hA
    clear hbW hA hB f0 f1 f2 d3 d4 d5 d6 d7
    go_region_held3 (fun w' => w'.cell? ⟨w.heap.size, 0, none⟩ = some (.int .u64 Wa) ∧ w'.cell? ⟨w.heap.size, 1, none⟩ = some (.int .i64 Ea) ∧ w'.cell? ⟨w.heap.size, 2, none⟩ = some (.pointer none) ∧ w'.cell? ⟨b, 0, none⟩ = some (.int .u64 Wl) ∧ w'.cell? ⟨b, 1, none⟩ = some (.int .i64 El) ∧ w'.cell? ⟨b, 2, none⟩ = some (.pointer none)) (go_keep)
      (first
        | (go_at_call 40; refine (H40.out _).mono ?_; rintro e w1 ⟨rfl, hb1⟩; have hb1' : Below W.heap.size W w1 := ⟨hb1.os, hb1.tape, hb1.output, hb1.size, hb1.block⟩; have k1 := three ((hb1'.block _ hAl).trans HA.out); have k2 := eight ((hb1'.block _ hBl).trans HB.out); obtain ⟨g0, g1, g2, _⟩ := k1; obtain ⟨j0, j1, j2, _⟩ := k2))
    clear c0 c1 c2 d0 d1 d2
    go_wp2
    refine wp_gen (fun W1 => Below W.heap.size W W1) hb1' ?_
    intro W1 hW1
    obtain ⟨c0, c1, c2, _⟩ := three ((hW1.block _ hAl).trans HA.out)
    obtain ⟨d0, d1, d2, d3, d4, d5, d6, d7⟩ := eight ((hW1.block _ hBl).trans HB.out)
    have HW1 : Hid (Below W.heap.size W W1) := hW1
    have hs1 := hW1.size
    clear hW1 hb1' hb1 g0 g1 g2 j0 j1 j2
    go_region_held3 (fun w' => w'.cell? ⟨w.heap.size, 0, none⟩ = some (.int .u64 Wa) ∧ w'.cell? ⟨w.heap.size, 1, none⟩ = some (.int .i64 Ea) ∧ w'.cell? ⟨w.heap.size, 2, none⟩ = some (.pointer none) ∧ w'.cell? ⟨b, 0, none⟩ = some (.int .u64 Wl) ∧ w'.cell? ⟨b, 1, none⟩ = some (.int .i64 El) ∧ w'.cell? ⟨b, 2, none⟩ = some (.pointer none) ∧ w'.cell? ⟨b, 3, none⟩ = some (.int .u64 (hi : Int)) ∧ w'.cell? ⟨b, 4, none⟩ = some (.int .u64 (lo : Int)) ∧ w'.cell? ⟨b, 5, none⟩ = some (.int .i64 (r : Int)) ∧ w'.cell? ⟨b, 6, none⟩ = some (.int .i64 p) ∧ w'.cell? ⟨b, 7, none⟩ = some (.int .i64 bu)) (go_keep)
      (first
        | (go_at_call 42; refine (H42'.out _).mono ?_; rintro e w3 ⟨rfl, hb3⟩; have hb3' : Below W.heap.size W w3 := bel_trans HW1.out ⟨hb3.os, hb3.tape, hb3.output, hb3.size, hb3.block⟩; have k1 := three ((hb3'.block _ hAl).trans HA.out); have k2 := eight ((hb3'.block _ hBl).trans HB.out); obtain ⟨g0, g1, g2, _⟩ := k1; obtain ⟨j0, j1, j2, j3, j4, j5, j6, j7⟩ := k2)
        | (go_at_call 41; refine (H41'.out _).mono ?_; rintro e w4 ⟨rfl, hb4⟩; have hb4' := bel_trans hb3' hb4; have k1 := three ((hb4'.block _ hAl).trans HA.out); have k2 := eight ((hb4'.block _ hBl).trans HB.out); obtain ⟨q0, q1, q2, _⟩ := k1; obtain ⟨r0, r1, r2, r3, r4, r5, r6, r7⟩ := k2))
    go_wp2
    go_ret
    exact ⟨rfl, bel_trans HBW.out hb4'⟩
end Go.Proofs.Qxb6605674a.E2
