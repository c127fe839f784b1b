import Derived.Test.Qxb6605746aFmtA1
set_option linter.unusedVariables false
set_option linter.unusedSimpArgs false
namespace Go.Proofs.Qxb6605746aFmt.A2
open Go.RowKit Go.Proofs.Qxb6605746aFmt.P1 Go.Proofs.Qxb6605746aFmt.P3 Go.Proofs.Qxb6605746aFmt.P7 Go.Proofs.Qxb6605746aFmt.A1

theorem isnan45 (x : Nat) (w : World) : Calls Tryf.prog 45 #[.float .f64 x] w fun e w' => e = .returned (.bool (fnum x == none)) ∧ w' = w := by
  have hx := ord_self x
  go_enter Tryf.func45, Tryf.ntmps45
  go_wp2
  go_ret
  cases h : fnum x <;> simp [hx, h]

theorem same15 (x y : Nat) (h : fnum x = fnum y) (w : World) : Calls Tryf.prog 15 #[.float .f64 x, .float .f64 y] w fun e w' => e = .returned (.bool true) ∧ w' = w := by
  cases hx : fnum x with
  | none =>
    have e1 := ord_none x y hx
    have e2 := ord_none x x hx
    have e3 := ord_none y y (h ▸ hx)
    go_enter Tryf.func15, Tryf.ntmps15
    go_wp2
    go_ret
    exact ⟨rfl, rfl⟩
  | some r =>
    have ex : x = r := by unfold fnum at hx; split at hx <;> simp_all
    have ey : y = r := by rw [h] at hx; unfold fnum at hx; split at hx <;> simp_all
    subst ex
    subst ey
    have e1 := ord_self y
    rw [hx] at e1
    simp only [Option.map_some] at e1
    go_enter Tryf.func15, Tryf.ntmps15
    go_wp2
    go_ret
    exact ⟨rfl, rfl⟩

theorem bytes17 (a0 : Option Addr) (n0 c0 : Nat) (r c : Int) (f : Nat) (h0 : n0 < 9223372036854775808) (w : World) :
    Calls Tryf.prog 17 #[.slice a0 n0 c0, .int .i64 r, .int .i64 c, .float .f64 f] w fun e w' => ∃ b, e = .returned (.bool b) ∧ w' = w := by
  go_enter Tryf.func17, Tryf.ntmps17
  go_wp2
  all_goals (go_ret; exact ⟨_, rfl, rfl⟩)

theorem scaled50 (v m sd : Nat) (w : World) : Calls Tryf.prog 50 #[.float .f64 v, .float .f64 m, .float .f64 sd] w fun e w' => ∃ r, e = .returned (.float .f64 r) ∧ (fnum r = fscaled (fnum v) (fnum m) (fnum sd) ∧ r < 2 ^ 64) ∧ Dr w w' := by
  obtain ⟨x, w1, e1, f1, d1⟩ := fstep' .sub (.inr (.inl rfl)) v m w
  obtain ⟨y, w2, e2, f2, d2⟩ := fstep' .quo (.inr (.inr (.inr rfl))) x sd w1
  have HR : Hid ((fnum y = fscaled (fnum v) (fnum m) (fnum sd) ∧ y < 2 ^ 64) ∧ Dr w w2) := (⟨⟨by rw [f2.1, f1.1]; rfl, f2.2⟩, d1.trans d2⟩ : (fnum y = fscaled (fnum v) (fnum m) (fnum sd) ∧ y < 2 ^ 64) ∧ Dr w w2)
  clear f1 f2 d1 d2
  go_enter Tryf.func50, Tryf.ntmps50
  go_wp2
  go_ret
  exact ⟨_, rfl, HR.out.1, HR.out.2⟩

theorem bits42 (x : Nat) (w : World) : (callFunc 42 #[.float .f64 x]).run Tryf.prog w = .ok (.value (.int .u64 x)) w := by
  rw [run_callFunc_extern (e := Extern.MathFloatBits.float64bits) Tryf.func42 (by kernel_rfl) (by kernel_rfl) (by kernel_rfl) (by kernel_rfl)]
  rfl
theorem from41 (n : Int) (w : World) : (callFunc 41 #[.int .u64 n]).run Tryf.prog w = .ok (.value (.float .f64 n.toNat)) w := by
  rw [run_callFunc_extern (e := Extern.MathFloatBits.float64frombits) Tryf.func41 (by kernel_rfl) (by kernel_rfl) (by kernel_rfl) (by kernel_rfl)]
  rfl
theorem fnum_iff (x : Nat) : fnum x = if x % 2 ^ 63 ≤ 2047 * 2 ^ 52 then some x else none := by
  by_cases h : x % 2 ^ 63 ≤ 2047 * 2 ^ 52
  · rw [if_pos h]
    apply fnum_some
    show (Ieee.double.read x).isNaN = false
    unfold Ieee.Format.read
    rw [dSign, dBin, dInf]
    dsimp only
    split
    · rfl
    · split
      · rfl
      · rw [if_pos (by omega)]; rfl
  · rw [if_neg h]
    apply fnum_none
    show (Ieee.double.read x).isNaN = true
    unfold Ieee.Format.read
    rw [dSign, dBin, dInf]
    dsimp only
    rw [if_neg (by omega), if_neg (by omega), if_neg (by omega)]
    rfl
theorem fabs_fnum (x : Nat) : fabs (fnum x) = fnum (x % 2 ^ 63) := by
  rw [fnum_iff, fnum_iff, Nat.mod_mod]
  split <;> rfl

theorem clear_sign (x : Nat) (hx : x < 2 ^ 64) : bits .andNot .u64 (x : Int) 9223372036854775808 = ((x % 2 ^ 63 : Nat) : Int) := by
  have e1 : ~~~(BitVec.ofInt 64 9223372036854775808) = BitVec.ofNat 64 (2 ^ 63 - 1) := by decide
  have e2 : BitVec.ofInt 64 (x : Int) = BitVec.ofNat 64 x := BitVec.ofInt_natCast _ _
  show IntKind.u64.wrap (((BitVec.ofInt 64 (x : Int)) &&& ~~~(BitVec.ofInt 64 9223372036854775808)).toNat : Int) = _
  rw [e1, e2, BitVec.toNat_and, BitVec.toNat_ofNat, BitVec.toNat_ofNat, Nat.mod_eq_of_lt hx, Nat.mod_eq_of_lt (by decide : 2 ^ 63 - 1 < 2 ^ 64), Nat.and_two_pow_sub_one_eq_mod]
  have h : x % 2 ^ 63 < 2 ^ 63 := Nat.mod_lt _ (by decide)
  generalize x % 2 ^ 63 = y at *
  simp only [IntKind.wrap_u64]
  omega

theorem abs29 (x : Nat) (hx : x < 2 ^ 64) (w : World) : Calls Tryf.prog 29 #[.float .f64 x] w fun e w' => ∃ r, e = .returned (.float .f64 r) ∧ (fnum r = fabs (fnum x) ∧ r < 2 ^ 64) ∧ w' = w := by
  have h1 := bits42
  have h2 := from41
  go_enter Tryf.func29, Tryf.ntmps29
  go_wp2
  go_ret
  refine ⟨_, rfl, ?_, rfl⟩
  rw [clear_sign x hx, Int.toNat_natCast, fabs_fnum]
  have h : x % 2 ^ 63 < 2 ^ 63 := Nat.mod_lt _ (by decide)
  exact ⟨rfl, by omega⟩

set_option maxHeartbeats 400000 in
theorem round55 (n : Int) (size : Nat) (h1 : -1000000 ≤ n) (h2 : n ≤ 1000000) (w : World) :
    Calls Tryf.prog 55 #[.int .i64 n, .float .f64 size] w fun e w' => ∃ r, e = .returned (.float .f64 r) ∧ (fnum r = fround n (fnum size) ∧ r < 2 ^ 64) ∧ Dr w w' := by
  obtain ⟨nf, hnf⟩ : ∃ nf, floatOfInt .f64 (n + 2) = nf := ⟨_, rfl⟩
  obtain ⟨x, w1, e1, f1, d1⟩ := fstep' .mul (.inr (.inr (.inl rfl))) 4372995238176751616 nf w
  obtain ⟨y, w2, e2, f2, d2⟩ := fstep' .mul (.inr (.inr (.inl rfl))) x size w1
  have hc : fnum 4372995238176751616 = some 4372995238176751616 := by decide +kernel
  have HR : Hid ((fnum y = fround n (fnum size) ∧ y < 2 ^ 64) ∧ Dr w w2) := (⟨⟨by rw [f2.1, f1.1, hc]; unfold fround fcnt; rw [hnf], f2.2⟩, d1.trans d2⟩ : (fnum y = fround n (fnum size) ∧ y < 2 ^ 64) ∧ Dr w w2)
  clear f1 f2 d1 d2 hc
  have hwr : wrap64 (n + 2) = n + 2 := by unfold wrap64; omega
  have hcv : floatOfInt .f64 (wrap64 (n + 2)) = nf := by rw [hwr]; exact hnf
  go_enter Tryf.func55, Tryf.ntmps55
  go_wp2
  go_ret
  exact ⟨_, rfl, HR.out.1, HR.out.2⟩

set_option maxHeartbeats 400000 in
theorem scal49 (n : Int) (m sd : Nat) (h1 : -1000000 ≤ n) (h2 : n ≤ 1000000) (hm : m < 2 ^ 64) (w : World) :
    Calls Tryf.prog 49 #[.int .i64 n, .float .f64 m, .float .f64 sd] w fun e w' => ∃ r, e = .returned (.float .f64 r) ∧ (fnum r = fscal n (fnum m) (fnum sd) ∧ r < 2 ^ 64) ∧ Dr w w' := by
  obtain ⟨nf, hnf⟩ : ∃ nf, floatOfInt .f64 n = nf := ⟨_, rfl⟩
  have HN : Hid (fnum nf = fcnt n) := (by unfold fcnt; rw [hnf] : fnum nf = fcnt n)
  go_enter Tryf.func49, Tryf.ntmps49
  go_wp2_with (first
    | (go_at_call 29; refine (abs29 m hm _).mono ?_; rintro e w0 ⟨a, rfl, ha, hw⟩; obtain rfl : w = w0 := hw.symm; clear hw; have HA : Hid (fnum a = fabs (fnum m)) := ha.1; clear ha)
    | (go_at_call 25; refine (sqrt25 nf _).mono ?_; rintro e w1 ⟨q, rfl, hq, hd1⟩; obtain ⟨x, w2, e2, f2, d2⟩ := fstep' .mul (.inr (.inr (.inl rfl))) q sd w1; obtain ⟨y, w3, e3, f3, d3⟩ := fstep' .add (.inl rfl) a x w2; have HY : Hid (fnum y = fop .add (fabs (fnum m)) (fop .mul (fsqrt (fcnt n)) (fnum sd)) ∧ Dr w w3) := (⟨by rw [f3.1, HA.out, f2.1, hq.1, HN.out], (hd1.trans d2).trans d3⟩ : fnum y = fop .add (fabs (fnum m)) (fop .mul (fsqrt (fcnt n)) (fnum sd)) ∧ Dr w w3); clear hq hd1 f2 d2 f3 d3)
    | (go_at_call 55; refine (round55 n y h1 h2 _).mono ?_; rintro e w4 ⟨z, rfl, hz, hd4⟩; obtain ⟨u, w5, e5, f5, d5⟩ := fstep' .quo (.inr (.inr (.inr rfl))) z sd w4; have HU : Hid ((fnum u = fscal n (fnum m) (fnum sd) ∧ u < 2 ^ 64) ∧ Dr w w5) := (⟨⟨by rw [f5.1, hz.1, HY.out.1]; rfl, f5.2⟩, (HY.out.2.trans hd4).trans d5⟩ : (fnum u = fscal n (fnum m) (fnum sd) ∧ u < 2 ^ 64) ∧ Dr w w5); clear hz hd4 f5 d5))
  go_ret
  exact ⟨_, rfl, HU.out.1, HU.out.2⟩
end Go.Proofs.Qxb6605746aFmt.A2
