import Derived.Test.Qxb6605674aE2
set_option linter.unusedVariables false
set_option linter.unusedSimpArgs false
namespace Go.Proofs.Qxb6605674a.E3
open Go.RowKit Go.Lib Go.Proofs.Qxb6605674a.D1 Go.Proofs.Qxb6605674a.D2 Go.Proofs.Qxb6605674a.D3 Go.Proofs.Qxb6605674a.D4 Go.Proofs.Qxb6605674a.D5 Go.Proofs.Qxb6605674a.D6 Go.Proofs.Qxb6605674a.D7 Go.Proofs.Qxb6605674a.E1 Go.Proofs.Qxb6605674a.E2

def fl (last : Int) (N r : Nat) (at_ : Int) : Bool := decide (N = 0 ∨ last ≤ at_ ∧ (N : Int) ≤ el at_ last * r)

theorem full22 (b N r : Nat) (last at_ p bu : Int) (hr' : r < 9223372036854775808) (h1 : -9223372036854775808 ≤ last ∧ last ≤ 9223372036854775807) (h2 : -9223372036854775808 ≤ at_ ∧ at_ ≤ 9223372036854775807) (w : World)
    (hblk : w.heap[b]? = some (.cells #[.int .u64 (last % 1000000000), .int .i64 (last / 1000000000), .pointer none, .int .u64 ((N / 18446744073709551616 : Nat) : Int), .int .u64 ((N % 18446744073709551616 : Nat) : Int), .int .i64 (r : Int), .int .i64 p, .int .i64 bu] 52 (0, 0))) :
    Calls Try.prog 22 #[.pointer (some ⟨b, 0, none⟩), tm at_] w fun e' w' => e' = .returned (.bool (fl last N r at_)) ∧ Below w.heap.size w w' := by
  by_cases hc : last ≤ at_
  · obtain ⟨e, he, hle, _⟩ := el_nat at_ last hc
    have hf : fl last N r at_ = decide (N ≤ e * r) := by
      unfold fl
      rw [he]
      have : (e : Int) * (r : Int) = ((e * r : Nat) : Int) := (Int.natCast_mul e r).symm
      rw [this]
      by_cases hn : N ≤ e * r
      · rw [decide_eq_true hn, decide_eq_true]; exact Or.inr ⟨hc, by omega⟩
      · rw [decide_eq_false hn, decide_eq_false]
        rintro (h | ⟨_, h⟩)
        · exact hn (by omega)
        · exact hn (by omega)
    rw [hf]
    refine full_raw b _ _ r _ _ _ _ p bu e false _ w (by omega) (by omega) hblk (fun w => ?_) (fun _ w => ?_) (fun _ w => ?_) (fun h => by cases h)
    · have := before40 at_ last w
      rw [decide_eq_false (by omega)] at this
      exact this
    · have := sub42 at_ last h2 h1 hc w
      rw [he] at this
      exact this
    · exact refilled41 N r e p bu hr' (by omega) w
  · refine full_raw b _ _ r _ _ _ _ p bu 0 true _ w (by omega) (by omega) hblk (fun w => ?_) (fun h => by cases h) (fun h => by cases h) (fun _ => ?_)
    · have := before40 at_ last w
      rw [decide_eq_true (by omega)] at this
      exact this
    · unfold fl
      congr 1
      apply propext
      constructor
      · rintro (h | ⟨h, _⟩)
        · subst h; exact ⟨rfl, rfl⟩
        · exact absurd h hc
      · intro h; exact Or.inl (by omega)

theorem six {w : World} {b : Nat} {x0 x1 x2 x3 x4 x5 : Value} {e : TypeId} (h : w.heap[b]? = some (.cells #[x0, x1, x2, x3, x4, x5] e (0, 0))) :
    w.cell? ⟨b, 0, none⟩ = some x0 ∧ w.cell? ⟨b, 1, none⟩ = some x1 ∧ w.cell? ⟨b, 2, none⟩ = some x2 ∧ w.cell? ⟨b, 3, none⟩ = some x3 ∧ w.cell? ⟨b, 4, none⟩ = some x4 ∧ w.cell? ⟨b, 5, none⟩ = some x5 := by
  refine ⟨?_, ?_, ?_, ?_, ?_, ?_⟩ <;> rw [cell_of_row w b _ _ _ _ h] <;> rfl

set_option maxHeartbeats 2000000 in
theorem idle_raw (b : Nat) (Wa Ea Wk Ek : Int) (live before res : Bool) (w : World)
    (H40 : Hid (∀ w, Calls Try.prog 40 #[.agg #[.int .u64 Wa, .int .i64 Ea, .pointer none], .agg #[.int .u64 Wk, .int .i64 Ek, .pointer none]] w fun e w' => e = .returned (.bool before) ∧ Below w.heap.size w w'))
    (H22 : Hid (before = false → ∀ w1, Below w.heap.size w w1 → Calls Try.prog 22 #[(.pointer (some ⟨b, 0, none⟩)), .agg #[.int .u64 Wa, .int .i64 Ea, .pointer none]] w1 fun e w' => e = .returned (.bool res) ∧ Below w1.heap.size w1 w'))
    (hres : Hid (before = true → res = false)) :
    Calls Try.prog 46 #[.agg #[(.pointer (some ⟨b, 0, none⟩)), .pointer none, .int .u64 Wk, .int .i64 Ek, .pointer none, .bool live], .agg #[.int .u64 Wa, .int .i64 Ea, .pointer none]] w fun e' w' => e' = .returned (.bool res) ∧ Below w.heap.size w w' := by
  cases before with
  | true =>
    obtain rfl : res = false := hres.out rfl
    clear H22 hres
    go_enter Try.func46, Try.ntmps46
    go_wp2_with (go_at_call 40; refine (H40.out _).mono ?_; rintro e w1 ⟨rfl, hb1⟩)
    go_ret
    exact ⟨rfl, bel_trans (bel_alloc (bel_alloc (Below.refl _ _))) hb1⟩
  | false =>
    have H22' : Hid (∀ w1, Below w.heap.size w w1 → Calls Try.prog 22 #[(.pointer (some ⟨b, 0, none⟩)), .agg #[.int .u64 Wa, .int .i64 Ea, .pointer none]] w1 fun e w' => e = .returned (.bool res) ∧ Below w1.heap.size w1 w') := H22.out rfl
    clear H22 hres
    go_enter Try.func46, Try.ntmps46
    go_wp2_with (first | (go_at_call 22; refine (H22'.out _ hw1).mono ?_; rintro e w2 ⟨rfl, hb2⟩) | (go_at_call 40; refine (H40.out _).mono ?_; rintro e w1 ⟨rfl, hb1⟩; have hw1 : Below w.heap.size w w1 := bel_trans (bel_alloc (bel_alloc (Below.refl _ _))) hb1; have ka := six ((hb1.block w.heap.size (by simp [go_sem] <;> omega)).trans (heap_alloc2_old _ _ _)); have kb := three ((hb1.block (w.heap.size + 1) (by simp [go_sem])).trans (heap_alloc2_new _ _ _)); obtain ⟨c0, c1, c2, c3, c4, c5⟩ := ka; obtain ⟨d0, d1, d2, _⟩ := kb))
    go_ret
    exact ⟨rfl, bel_trans hw1 hb2⟩

theorem idle46 (b N r : Nat) (last at_ lock p bu : Int) (live : Bool) (hr' : r < 9223372036854775808) (h1 : -9223372036854775808 ≤ last ∧ last ≤ 9223372036854775807) (h2 : -9223372036854775808 ≤ at_ ∧ at_ ≤ 9223372036854775807) (w : World)
    (hblk : w.heap[b]? = some (.cells #[.int .u64 (last % 1000000000), .int .i64 (last / 1000000000), .pointer none, .int .u64 ((N / 18446744073709551616 : Nat) : Int), .int .u64 ((N % 18446744073709551616 : Nat) : Int), .int .i64 (r : Int), .int .i64 p, .int .i64 bu] 52 (0, 0))) :
    Calls Try.prog 46 #[.agg #[.pointer (some ⟨b, 0, none⟩), .pointer none, .int .u64 (lock % 1000000000), .int .i64 (lock / 1000000000), .pointer none, .bool live], tm at_] w fun e' w' => e' = .returned (.bool (mdl last N r lock at_)) ∧ Below w.heap.size w w' := by
  refine idle_raw _ _ _ _ _ live (decide (at_ < lock)) _ w (fun w => before40 at_ lock w) (fun h w1 hw1 => ?_) (fun h => ?_)
  · have hl : lock ≤ at_ := by have := of_decide_eq_false h; omega
    have hm : mdl last N r lock at_ = fl last N r at_ := by
      unfold mdl fl
      congr 1
      apply propext
      exact ⟨fun h => h.2, fun h => ⟨hl, h⟩⟩
    rw [hm]
    exact full22 b N r last at_ p bu hr' h1 h2 w1 ((hw1.block b (lt_of_block hblk)).trans hblk)
  · unfold mdl
    have := of_decide_eq_true h
    exact decide_eq_false (by omega)

set_option maxHeartbeats 1000000 in
theorem zzidle_raw (b : Nat) (live : Bool) (Wk Ek Wa Ea : Int) (res : Bool) (w : World)
    (H46 : Hid (∀ w1, Below w.heap.size w w1 → Calls Try.prog 46 #[.agg #[(.pointer (some ⟨b, 0, none⟩)), .pointer none, .int .u64 Wk, .int .i64 Ek, .pointer none, .bool live], .agg #[.int .u64 Wa, .int .i64 Ea, .pointer none]] w1 fun e w' => e = .returned (.bool res) ∧ Below w1.heap.size w1 w')) :
    Calls Try.prog 36 #[.agg #[(.pointer (some ⟨b, 0, none⟩)), .pointer none, .int .u64 Wk, .int .i64 Ek, .pointer none, .bool live], .agg #[.int .u64 Wa, .int .i64 Ea, .pointer none]] w fun e' w' => e' = .returned (.bool res) ∧ Below w.heap.size w w' := by
  go_enter Try.func36, Try.ntmps36
  go_wp2_with (go_at_call 46; refine (H46.out _ (bel_alloc (bel_alloc (Below.refl _ _)))).mono ?_; rintro e w1 ⟨rfl, hb1⟩)
  go_ret
  exact ⟨rfl, bel_trans (bel_alloc (bel_alloc (Below.refl _ _))) hb1⟩

theorem zzidle36 (b N r : Nat) (last at_ lock p bu : Int) (live : Bool) (hr' : r < 9223372036854775808) (h1 : -9223372036854775808 ≤ last ∧ last ≤ 9223372036854775807) (h2 : -9223372036854775808 ≤ at_ ∧ at_ ≤ 9223372036854775807) (w : World)
    (hblk : w.heap[b]? = some (.cells #[.int .u64 (last % 1000000000), .int .i64 (last / 1000000000), .pointer none, .int .u64 ((N / 18446744073709551616 : Nat) : Int), .int .u64 ((N % 18446744073709551616 : Nat) : Int), .int .i64 (r : Int), .int .i64 p, .int .i64 bu] 52 (0, 0))) :
    Calls Try.prog 36 #[.agg #[.pointer (some ⟨b, 0, none⟩), .pointer none, .int .u64 (lock % 1000000000), .int .i64 (lock / 1000000000), .pointer none, .bool live], tm at_] w fun e' w' => e' = .returned (.bool (mdl last N r lock at_)) ∧ Below w.heap.size w w' :=
  zzidle_raw _ _ _ _ _ _ _ w (fun w1 hw1 => idle46 b N r last at_ lock p bu live hr' h1 h2 w1 ((hw1.block b (lt_of_block hblk)).trans hblk))

set_option maxHeartbeats 1000000 in
theorem state35 (b : Nat) (W E : Int) (live : Bool) (w : World) :
    Calls Try.prog 35 #[(.pointer (some ⟨b, 0, none⟩)), .agg #[.int .u64 W, .int .i64 E, .pointer none], .bool live] w fun e' w' => e' = .returned (.agg #[(.pointer (some ⟨b, 0, none⟩)), .pointer none, .int .u64 W, .int .i64 E, .pointer none, .bool live]) ∧ Below w.heap.size w w' := by
  go_enter Try.func35, Try.ntmps35
  go_wp2
  refine bodyPost_ret (v := .agg #[.pointer (some ⟨b, 0, none⟩), .pointer none, .int .u64 W, .int .i64 E, .pointer none, .bool live]) (by simp [results, Try.results35, go_sem]) rfl ⟨rfl, ?_⟩
  exact bel_alloc (bel_alloc (Below.refl _ _))
end Go.Proofs.Qxb6605674a.E3
