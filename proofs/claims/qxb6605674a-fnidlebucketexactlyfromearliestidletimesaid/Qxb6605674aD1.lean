import Derived.Test.Qxb6605674aProg
import Derived.WalkKit
import Derived.WalkSpells
import Derived.WalkLawsBesides
import Derived.KernelRfl
import Derived.BigQuiet
import Derived.Deep.RegionHeld3
import Derived.Lib.Mul64
import Derived.Laws.Externs
import Derived.Laws.Bits64b
set_option linter.unusedVariables false
set_option linter.unusedSimpArgs false
namespace Go.Proofs.Qxb6605674a.D1
open Go.RowKit Go.Lib

theorem belN {B : Nat} {a w : World} (h : Below B a w) (n : Nat) : Below B a (w.drewN n) := ⟨h.os, h.tape, h.output, h.size, h.block⟩
theorem bel_alloc {w wx : World} {o : Obj} (h : Below w.heap.size w wx) : Below w.heap.size w (wx.alloc o) := h.alloc h.size o
theorem bel_trans {w wx wy : World} (h : Below w.heap.size w wx) (k : Below wx.heap.size wx wy) : Below w.heap.size w wy := h.trans (k.mono h.size)

theorem add64 (x y c : Int) (hx : 0 ≤ x) (hy : 0 ≤ y) (hc0 : 0 ≤ c) (hc : c ≤ 1) (w : World) : (callFunc 45 #[.int .u64 x, .int .u64 y, .int .u64 c]).run Try.prog w =
    .ok (.value (.tuple #[.int .u64 ((x + y + c) % 18446744073709551616), .int .u64 ((x + y + c) / 18446744073709551616)])) w := by
  rw [run_callFunc_extern Try.func45 (by kernel_rfl) (by kernel_rfl) (by kernel_rfl) (e := add64Entry) (by kernel_rfl), run_add64 x y c hx hy hc0 hc]
  rfl
theorem add64_0 (x y : Int) (hx : 0 ≤ x) (hy : 0 ≤ y) (w : World) : (callFunc 45 #[.int .u64 x, .int .u64 y, .int .u64 0]).run Try.prog w =
    .ok (.value (.tuple #[.int .u64 ((x + y) % 18446744073709551616), .int .u64 ((x + y) / 18446744073709551616)])) w := by
  simpa using add64 x y 0 hx hy (Int.le_refl 0) (by decide) w

theorem maskN (a : Nat) (ha : a < 18446744073709551616) : bits .and .u64 (a : Int) 4294967295 = ((a % 4294967296 : Nat) : Int) := by
  have h := bits_and_u64_nat a 4294967295 ha (by omega)
  have e : a &&& 4294967295 = a % 4294967296 := Nat.and_two_pow_sub_one_eq_mod a 32
  rw [e] at h
  exact h
theorem divN (a : Nat) : (a : Int) / 4294967296 = ((a / 4294967296 : Nat) : Int) := by omega
theorem mulN (a b : Nat) : (a : Int) * (b : Int) = ((a * b : Nat) : Int) := (Int.natCast_mul a b).symm
theorem addN (a b : Nat) : (a : Int) + (b : Int) = ((a + b : Nat) : Int) := (Int.natCast_add a b).symm
theorem wrapN (a : Nat) (ha : a < 18446744073709551616) : IntKind.u64.wrap (a : Int) = (a : Int) := by rw [IntKind.wrap_u64]; omega
theorem wrapM (a : Nat) : IntKind.u64.wrap (a : Int) = ((a % 18446744073709551616 : Nat) : Int) := by rw [IntKind.wrap_u64]; omega

set_option maxHeartbeats 1000000 in
theorem mul44 (x y : Nat) (hx : x < 18446744073709551616) (hy : y < 18446744073709551616) (w : World) :
    Calls Try.prog 44 #[.int .u64 x, .int .u64 y] w fun e w' => e = .returned (.tuple #[.int .u64 ((x * y / 18446744073709551616 : Nat) : Int), .int .u64 ((x * y % 18446744073709551616 : Nat) : Int)]) ∧ w' = w := by
  obtain ⟨bd, bt, bw, hhi⟩ := Lib.mul64_hi x y hx hy
  have ba := Lib.half_mul_le (a := x / 4294967296) (b := y / 4294967296) (by omega) (by omega)
  have bb := Lib.half_mul_le (a := x / 4294967296) (b := y % 4294967296) (by omega) (by omega)
  have bc := Lib.half_mul_le (a := x % 4294967296) (b := y / 4294967296) (by omega) (by omega)
  have ba' : x / 4294967296 * (y / 4294967296) < 18446744073709551616 := by omega
  have bb' : x / 4294967296 * (y % 4294967296) < 18446744073709551616 := by omega
  have bc' : x % 4294967296 * (y / 4294967296) < 18446744073709551616 := by omega
  have bh1 : x / 4294967296 * (y / 4294967296) + (x / 4294967296 * (y % 4294967296) + x % 4294967296 * (y % 4294967296) / 4294967296) / 4294967296 < 18446744073709551616 := by omega
  have bh : x / 4294967296 * (y / 4294967296) + (x / 4294967296 * (y % 4294967296) + x % 4294967296 * (y % 4294967296) / 4294967296) / 4294967296 + ((x / 4294967296 * (y % 4294967296) + x % 4294967296 * (y % 4294967296) / 4294967296) % 4294967296 + x % 4294967296 * (y / 4294967296)) / 4294967296 < 18446744073709551616 := by omega
  go_enter Try.func44, Try.ntmps44
  go_wp2
  simp only [maskN x hx, maskN y hy, divN, mulN, addN, wrapN _ bd, wrapN _ bb', wrapN _ bt, maskN _ bt, wrapN _ bc', wrapN _ bw, wrapN _ ba', wrapN _ bh1, wrapN _ bh, wrapM (x * y)]
  rw [hhi]
  go_ret2
  exact ⟨rfl, rfl⟩

/-- A 128-bit number as the program holds it. -/
def u128 (n : Nat) : Value := .agg #[.int .u64 ((n / 18446744073709551616 : Nat) : Int), .int .u64 ((n % 18446744073709551616 : Nat) : Int)]

theorem mul33 (x y : Nat) (hx : x < 18446744073709551616) (hy : y < 18446744073709551616) (w : World) :
    Calls Try.prog 33 #[.int .u64 x, .int .u64 y] w fun e w' => e = .returned (u128 (x * y)) ∧ Below w.heap.size w w' := by
  unfold u128
  have H : Hid (∀ w, Calls Try.prog 44 #[.int .u64 x, .int .u64 y] w fun e w' => e = .returned (.tuple #[.int .u64 ((x * y / 18446744073709551616 : Nat) : Int), .int .u64 ((x * y % 18446744073709551616 : Nat) : Int)]) ∧ w' = w) := fun w => mul44 x y hx hy w
  generalize x * y / 18446744073709551616 = hi at *
  generalize x * y % 18446744073709551616 = lo at *
  clear hx hy
  go_enter Try.func33, Try.ntmps33
  go_wp2_with (go_at_call 44; refine (H.out _).mono ?_; rintro e w' ⟨rfl, rfl⟩)
  exact bodyPost_ret (v := .agg #[.int .u64 (hi : Int), .int .u64 (lo : Int)]) (by simp [results, Try.results33, go_sem]) rfl ⟨rfl, bel_alloc (Below.refl _ _)⟩
theorem add34_raw (ah al bh bl : Int) (h1 : 0 ≤ ah ∧ ah < 18446744073709551616) (h2 : 0 ≤ al ∧ al < 18446744073709551616) (h3 : 0 ≤ bh ∧ bh < 18446744073709551616) (h4 : 0 ≤ bl ∧ bl < 18446744073709551616) (w : World) :
    Calls Try.prog 34 #[.agg #[.int .u64 ah, .int .u64 al], .agg #[.int .u64 bh, .int .u64 bl]] w fun e w' =>
      e = .returned (.agg #[.int .u64 ((ah + bh + (al + bl) / 18446744073709551616) % 18446744073709551616), .int .u64 ((al + bl) % 18446744073709551616)]) ∧ Below w.heap.size w w' := by
  obtain ⟨a1, a2⟩ := h1; obtain ⟨b1, b2⟩ := h2; obtain ⟨c1, c2⟩ := h3; obtain ⟨d1, d2⟩ := h4
  have k0 : 0 ≤ (al + bl) / 18446744073709551616 := by omega
  have k1 : (al + bl) / 18446744073709551616 ≤ 1 := by omega
  go_enter Try.func34, Try.ntmps34
  go_wp2_with (first | simp only [add64_0 al bl b1 d1] | simp only [add64 ah bh _ a1 c1 k0 k1])
  exact bodyPost_ret (v := .agg #[.int .u64 ((ah + bh + (al + bl) / 18446744073709551616) % 18446744073709551616), .int .u64 ((al + bl) % 18446744073709551616)]) (by simp [results, Try.results34, go_sem]) rfl ⟨rfl, bel_alloc (bel_alloc (bel_alloc (Below.refl _ _)))⟩
theorem add34 (x y : Nat) (h : x + y < 340282366920938463463374607431768211456) (w : World) :
    Calls Try.prog 34 #[u128 x, u128 y] w fun e w' => e = .returned (u128 (x + y)) ∧ Below w.heap.size w w' := by
  unfold u128
  refine (add34_raw _ _ _ _ (by omega) (by omega) (by omega) (by omega) w).mono ?_
  rintro e w' ⟨rfl, hb⟩
  refine ⟨?_, hb⟩
  have e1 : (((x / 18446744073709551616 : Nat) : Int) + ((y / 18446744073709551616 : Nat) : Int) + (((x % 18446744073709551616 : Nat) : Int) + ((y % 18446744073709551616 : Nat) : Int)) / 18446744073709551616) % 18446744073709551616 = (((x + y) / 18446744073709551616 : Nat) : Int) := by omega
  have e2 : (((x % 18446744073709551616 : Nat) : Int) + ((y % 18446744073709551616 : Nat) : Int)) % 18446744073709551616 = (((x + y) % 18446744073709551616 : Nat) : Int) := by omega
  rw [e1, e2]
theorem from20 (x : Nat) (hx : x < 18446744073709551616) (w : World) : Calls Try.prog 20 #[.int .u64 x] w fun e w' => e = .returned (u128 x) ∧ Below w.heap.size w w' := by
  unfold u128
  rw [Nat.div_eq_of_lt hx, Nat.mod_eq_of_lt hx]
  go_enter Try.func20, Try.ntmps20
  go_wp2
  exact bodyPost_ret (v := .agg #[.int .u64 ((0 : Nat) : Int), .int .u64 (x : Int)]) (by simp [results, Try.results20, go_sem]) rfl ⟨rfl, bel_alloc (Below.refl _ _)⟩

set_option maxHeartbeats 400000 in
theorem less56_raw (ah al bh bl : Int) (r : Bool) (hr : r = decide (ah < bh ∨ ah = bh ∧ al < bl)) (w : World) :
    Calls Try.prog 56 #[.agg #[.int .u64 ah, .int .u64 al], .agg #[.int .u64 bh, .int .u64 bl]] w fun e w' => e = .returned (.bool r) ∧ Below w.heap.size w w' := by
  have HR : Hid (r = decide (ah < bh ∨ ah = bh ∧ al < bl)) := hr
  clear hr
  rcases Int.lt_trichotomy ah bh with h | h | h
  · go_enter Try.func56, Try.ntmps56
    go_wp2
    go_ret
    exact ⟨by rw [HR.out]; simp [h], bel_alloc (bel_alloc (Below.refl _ _))⟩
  · subst h
    by_cases hl : al < bl
    · go_enter Try.func56, Try.ntmps56
      go_wp2
      go_ret
      exact ⟨by rw [HR.out]; simp [hl], bel_alloc (bel_alloc (Below.refl _ _))⟩
    · go_enter Try.func56, Try.ntmps56
      go_wp2
      go_ret
      exact ⟨by rw [HR.out]; simp [hl], bel_alloc (bel_alloc (Below.refl _ _))⟩
  · have h0 : ¬ ah < bh := by omega
    have h1 : (ah == bh) = false := beq_eq_false_iff_ne.2 (by omega)
    go_enter Try.func56, Try.ntmps56
    go_wp2
    go_ret
    exact ⟨by rw [HR.out]; simp; omega, bel_alloc (bel_alloc (Below.refl _ _))⟩
theorem less56 (x y : Nat) (w : World) :
    Calls Try.prog 56 #[u128 x, u128 y] w fun e w' => e = .returned (.bool (decide (x < y))) ∧ Below w.heap.size w w' := by
  unfold u128
  refine less56_raw _ _ _ _ _ ?_ w
  rw [decide_eq_decide]
  omega
end Go.Proofs.Qxb6605674a.D1
