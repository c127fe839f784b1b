import Derived.Test.Qxb6605674aD3
set_option linter.unusedVariables false
set_option linter.unusedSimpArgs false
namespace Go.Proofs.Qxb6605674a.D4
open Go.RowKit Go.Lib Go.Proofs.Qxb6605674a.D1 Go.Proofs.Qxb6605674a.D2 Go.Proofs.Qxb6605674a.D3

theorem three {w : World} {b : Nat} {x y z : Value} {e : TypeId} (h : w.heap[b]? = some (.cells #[x, y, z] e (0, 0))) :
    w.cell? ⟨b, 0, none⟩ = some x ∧ w.cell? ⟨b, 1, none⟩ = some y ∧ w.cell? ⟨b, 2, none⟩ = some z ∧ w.frozen? ⟨b, 0, none⟩ = false ∧ w.frozen? ⟨b, 1, none⟩ = false ∧ w.frozen? ⟨b, 2, none⟩ = false :=
  ⟨by rw [cell_of_row w b 0 _ _ _ h]; rfl, by rw [cell_of_row w b 1 _ _ _ h]; rfl, by rw [cell_of_row w b 2 _ _ _ h]; rfl, frozen_of_row w b 0 _ _ h, frozen_of_row w b 1 _ _ h, frozen_of_row w b 2 _ _ h⟩
theorem two {w : World} {b : Nat} {x y : Value} {e : TypeId} (h : w.heap[b]? = some (.cells #[x, y] e (0, 0))) :
    w.cell? ⟨b, 0, none⟩ = some x ∧ w.cell? ⟨b, 1, none⟩ = some y ∧ w.frozen? ⟨b, 0, none⟩ = false ∧ w.frozen? ⟨b, 1, none⟩ = false :=
  ⟨by rw [cell_of_row w b 0 _ _ _ h]; rfl, by rw [cell_of_row w b 1 _ _ _ h]; rfl, frozen_of_row w b 0 _ _ h, frozen_of_row w b 1 _ _ h⟩
/-- A block laid just ahead of a call is there behind it. -/
theorem kept_new {w w1 : World} {o : Obj} (hb : Below (w.alloc o).heap.size (w.alloc o) w1) : w1.heap[w.heap.size]? = some o :=
  (hb.block _ (by simp)).trans (heap_alloc_new w o)
theorem and_and (a b : Int) (h0 : 0 ≤ a) (h : a < 1073741824) (k0 : 0 ≤ b) (k : b < 1073741824) : bits .and .u64 (bits .and .u64 a b) 9223372036854775808 = 0 := by
  obtain ⟨a, rfl⟩ := Int.eq_ofNat_of_zero_le h0
  obtain ⟨b, rfl⟩ := Int.eq_ofNat_of_zero_le k0
  rw [bits_and_u64_nat a b (by omega) (by omega)]
  have h1 : a &&& b ≤ a := Nat.and_le_left
  exact and63 _ (by omega) (by omega)
theorem time19 (n : Int) (hn : -9223372036854775808 ≤ n ∧ n ≤ 9223372036854775807) (w : World) :
    Calls Try.prog 19 #[.int .i64 n] w fun e w' => e = .returned (tm n) ∧ Below w.heap.size w w' := by
  have H : Hid (∀ w, Calls Try.prog 39 #[.agg #[.int .u64 0, .int .i64 0, .pointer none], .int .i64 n] w fun e w' => e = .returned (tm n) ∧ Below w.heap.size w w') := fun w => by
    have := add39 0 n (by omega) hn w
    simpa [tm] using this
  unfold tm at *
  generalize n % 1000000000 = W at *
  generalize n / 1000000000 = E at *
  go_enter Try.func19, Try.ntmps19
  go_wp2_with (go_at_call 39; refine (H.out _).mono ?_; rintro e w1 ⟨rfl, hb⟩; have h3 := three (kept_new hb); obtain ⟨c0, c1, c2, f0, f1, f2⟩ := h3)
  refine bodyPost_ret (v := .agg #[.int .u64 W, .int .i64 E, .pointer none]) (by simp [results, Try.results19, go_sem, c0, c1, c2]) rfl ⟨rfl, ?_⟩
  exact (((bel_trans (bel_alloc (Below.refl _ _)) hb).setCell (by simp) _).setCell (by simp) _).setCell (by simp) _

set_option maxHeartbeats 1000000 in
theorem before40 (x y : Int) (w : World) : Calls Try.prog 40 #[tm x, tm y] w fun e w' => e = .returned (.bool (decide (x < y))) ∧ Below w.heap.size w w' := by
  obtain ⟨Wx, hWx⟩ : ∃ W, x % 1000000000 = W := ⟨_, rfl⟩
  obtain ⟨Ex, hEx⟩ : ∃ E, x / 1000000000 = E := ⟨_, rfl⟩
  obtain ⟨Wy, hWy⟩ : ∃ W, y % 1000000000 = W := ⟨_, rfl⟩
  obtain ⟨Ey, hEy⟩ : ∃ E, y / 1000000000 = E := ⟨_, rfl⟩
  have a1 : 0 ≤ Wx ∧ Wx ≤ 999999999 := by omega
  have a2 : 0 ≤ Wy ∧ Wy ≤ 999999999 := by omega
  obtain ⟨p1, p2⟩ := a1
  obtain ⟨p3, p4⟩ := a2
  obtain ⟨r, hr⟩ : ∃ r, decide (x < y) = r := ⟨_, rfl⟩
  have HR : Hid (r = decide (Ex < Ey ∨ Ex = Ey ∧ Wx < Wy)) := by
    show r = _
    rw [← hr, decide_eq_decide]
    omega
  rw [hr]
  unfold tm
  rw [hWx, hEx, hWy, hEy]
  have h63 := and63 (0 : Int) (by omega) (by omega)
  have hand : bits .and .u64 (bits .and .u64 Wx Wy) 9223372036854775808 = 0 := and_and Wx Wy (by omega) (by omega) (by omega) (by omega)
  clear hr hWx hEx hWy hEy h63
  rcases Int.lt_trichotomy Ex Ey with h | h | h
  · go_enter Try.func40, Try.ntmps40
    go_wp2_with (first
      | (go_at_call_of 55 (Value.pointer (some { block := w.heap.size, off := 0 })); refine (sec55 _ Wx Ex _ (by omega) (by omega) ?_ ?_).mono ?_; simp; simp; rintro e w' ⟨rfl, rfl⟩)
      | (go_at_call_of 55 (Value.pointer (some { block := w.heap.size + 1, off := 0 })); refine (sec55 _ Wy Ey _ (by omega) (by omega) ?_ ?_).mono ?_; simp; simp; rintro e w' ⟨rfl, rfl⟩)
      | (go_at_call_of 52 (Value.pointer (some { block := w.heap.size, off := 0 })); refine (nsec52 _ Wx _ (by omega) (by omega) ?_).mono ?_; simp; rintro e w' ⟨rfl, rfl⟩)
      | (go_at_call_of 52 (Value.pointer (some { block := w.heap.size + 1, off := 0 })); refine (nsec52 _ Wy _ (by omega) (by omega) ?_).mono ?_; simp; rintro e w' ⟨rfl, rfl⟩))
    go_ret
    exact ⟨by rw [HR.out]; simp; try omega, bel_alloc (bel_alloc (Below.refl _ _))⟩
  · subst h
    by_cases hl : Wx < Wy
    all_goals
      go_enter Try.func40, Try.ntmps40
      go_wp2_with (first
        | (go_at_call_of 55 (Value.pointer (some { block := w.heap.size, off := 0 })); refine (sec55 _ Wx Ex _ (by omega) (by omega) ?_ ?_).mono ?_; simp; simp; rintro e w' ⟨rfl, rfl⟩)
        | (go_at_call_of 55 (Value.pointer (some { block := w.heap.size + 1, off := 0 })); refine (sec55 _ Wy Ex _ (by omega) (by omega) ?_ ?_).mono ?_; simp; simp; rintro e w' ⟨rfl, rfl⟩)
        | (go_at_call_of 52 (Value.pointer (some { block := w.heap.size, off := 0 })); refine (nsec52 _ Wx _ (by omega) (by omega) ?_).mono ?_; simp; rintro e w' ⟨rfl, rfl⟩)
        | (go_at_call_of 52 (Value.pointer (some { block := w.heap.size + 1, off := 0 })); refine (nsec52 _ Wy _ (by omega) (by omega) ?_).mono ?_; simp; rintro e w' ⟨rfl, rfl⟩))
      go_ret
      exact ⟨by rw [HR.out]; simp; try omega, bel_alloc (bel_alloc (Below.refl _ _))⟩
  · have h0 : ¬ Ex < Ey := by omega
    have h1 : (Ex == Ey) = false := beq_eq_false_iff_ne.2 (by omega)
    go_enter Try.func40, Try.ntmps40
    go_wp2_with (first
      | (go_at_call_of 55 (Value.pointer (some { block := w.heap.size, off := 0 })); refine (sec55 _ Wx Ex _ (by omega) (by omega) ?_ ?_).mono ?_; simp; simp; rintro e w' ⟨rfl, rfl⟩)
      | (go_at_call_of 55 (Value.pointer (some { block := w.heap.size + 1, off := 0 })); refine (sec55 _ Wy Ey _ (by omega) (by omega) ?_ ?_).mono ?_; simp; simp; rintro e w' ⟨rfl, rfl⟩)
      | (go_at_call_of 52 (Value.pointer (some { block := w.heap.size, off := 0 })); refine (nsec52 _ Wx _ (by omega) (by omega) ?_).mono ?_; simp; rintro e w' ⟨rfl, rfl⟩)
      | (go_at_call_of 52 (Value.pointer (some { block := w.heap.size + 1, off := 0 })); refine (nsec52 _ Wy _ (by omega) (by omega) ?_).mono ?_; simp; rintro e w' ⟨rfl, rfl⟩))
    go_ret
    exact ⟨by rw [HR.out]; simp; try omega, bel_alloc (bel_alloc (Below.refl _ _))⟩

set_option maxHeartbeats 1000000 in
theorem equal58 (x y : Int) (w : World) : Calls Try.prog 58 #[tm x, tm y] w fun e w' => e = .returned (.bool (decide (x = y))) ∧ Below w.heap.size w w' := by
  obtain ⟨Wx, hWx⟩ : ∃ W, x % 1000000000 = W := ⟨_, rfl⟩
  obtain ⟨Ex, hEx⟩ : ∃ E, x / 1000000000 = E := ⟨_, rfl⟩
  obtain ⟨Wy, hWy⟩ : ∃ W, y % 1000000000 = W := ⟨_, rfl⟩
  obtain ⟨Ey, hEy⟩ : ∃ E, y / 1000000000 = E := ⟨_, rfl⟩
  have a1 : 0 ≤ Wx ∧ Wx ≤ 999999999 := by omega
  have a2 : 0 ≤ Wy ∧ Wy ≤ 999999999 := by omega
  obtain ⟨p1, p2⟩ := a1
  obtain ⟨p3, p4⟩ := a2
  obtain ⟨r, hr⟩ : ∃ r, decide (x = y) = r := ⟨_, rfl⟩
  have HR : Hid (r = decide (Ex = Ey ∧ Wx = Wy)) := by
    show r = _
    rw [← hr, decide_eq_decide]
    omega
  rw [hr]
  unfold tm
  rw [hWx, hEx, hWy, hEy]
  have hand : bits .and .u64 (bits .and .u64 Wx Wy) 9223372036854775808 = 0 := and_and Wx Wy (by omega) (by omega) (by omega) (by omega)
  clear hr hWx hEx hWy hEy
  by_cases h : Ex = Ey
  · subst h
    by_cases hl : Wx = Wy
    · subst hl
      go_enter Try.func58, Try.ntmps58
      go_wp2_with (first
        | (go_at_call_of 55 (Value.pointer (some { block := w.heap.size, off := 0 })); refine (sec55 _ Wx Ex _ (by omega) (by omega) ?_ ?_).mono ?_; simp; simp; rintro e w' ⟨rfl, rfl⟩)
        | (go_at_call_of 55 (Value.pointer (some { block := w.heap.size + 1, off := 0 })); refine (sec55 _ Wx Ex _ (by omega) (by omega) ?_ ?_).mono ?_; simp; simp; rintro e w' ⟨rfl, rfl⟩)
        | (go_at_call_of 52 (Value.pointer (some { block := w.heap.size, off := 0 })); refine (nsec52 _ Wx _ (by omega) (by omega) ?_).mono ?_; simp; rintro e w' ⟨rfl, rfl⟩)
        | (go_at_call_of 52 (Value.pointer (some { block := w.heap.size + 1, off := 0 })); refine (nsec52 _ Wx _ (by omega) (by omega) ?_).mono ?_; simp; rintro e w' ⟨rfl, rfl⟩))
      go_ret
      exact ⟨by rw [HR.out]; simp; try omega, bel_alloc (bel_alloc (Below.refl _ _))⟩
    · have hl' : (Wx == Wy) = false := beq_eq_false_iff_ne.2 hl
      go_enter Try.func58, Try.ntmps58
      go_wp2_with (first
        | (go_at_call_of 55 (Value.pointer (some { block := w.heap.size, off := 0 })); refine (sec55 _ Wx Ex _ (by omega) (by omega) ?_ ?_).mono ?_; simp; simp; rintro e w' ⟨rfl, rfl⟩)
        | (go_at_call_of 55 (Value.pointer (some { block := w.heap.size + 1, off := 0 })); refine (sec55 _ Wy Ex _ (by omega) (by omega) ?_ ?_).mono ?_; simp; simp; rintro e w' ⟨rfl, rfl⟩)
        | (go_at_call_of 52 (Value.pointer (some { block := w.heap.size, off := 0 })); refine (nsec52 _ Wx _ (by omega) (by omega) ?_).mono ?_; simp; rintro e w' ⟨rfl, rfl⟩)
        | (go_at_call_of 52 (Value.pointer (some { block := w.heap.size + 1, off := 0 })); refine (nsec52 _ Wy _ (by omega) (by omega) ?_).mono ?_; simp; rintro e w' ⟨rfl, rfl⟩))
      go_ret
      exact ⟨by rw [HR.out]; simp; try omega, bel_alloc (bel_alloc (Below.refl _ _))⟩
  · have h1 : (Ex == Ey) = false := beq_eq_false_iff_ne.2 h
    go_enter Try.func58, Try.ntmps58
    go_wp2_with (first
      | (go_at_call_of 55 (Value.pointer (some { block := w.heap.size, off := 0 })); refine (sec55 _ Wx Ex _ (by omega) (by omega) ?_ ?_).mono ?_; simp; simp; rintro e w' ⟨rfl, rfl⟩)
      | (go_at_call_of 55 (Value.pointer (some { block := w.heap.size + 1, off := 0 })); refine (sec55 _ Wy Ey _ (by omega) (by omega) ?_ ?_).mono ?_; simp; simp; rintro e w' ⟨rfl, rfl⟩)
      | (go_at_call_of 52 (Value.pointer (some { block := w.heap.size, off := 0 })); refine (nsec52 _ Wx _ (by omega) (by omega) ?_).mono ?_; simp; rintro e w' ⟨rfl, rfl⟩)
      | (go_at_call_of 52 (Value.pointer (some { block := w.heap.size + 1, off := 0 })); refine (nsec52 _ Wy _ (by omega) (by omega) ?_).mono ?_; simp; rintro e w' ⟨rfl, rfl⟩))
    go_ret
    exact ⟨by rw [HR.out]; simp; try omega, bel_alloc (bel_alloc (Below.refl _ _))⟩
end Go.Proofs.Qxb6605674a.D4
