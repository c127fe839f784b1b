import Derived.Test.Qxb6605746aFmtP6
set_option linter.unusedVariables false
set_option linter.unusedSimpArgs false
set_option exponentiation.threshold 4000
namespace Go.Proofs.Qxb6605746aFmt.P7
open Ieee Go.Proofs.Qxb6605746aFmt.P1 Go.Proofs.Qxb6605746aFmt.P2 Go.Proofs.Qxb6605746aFmt.P3 Go.Proofs.Qxb6605746aFmt.P4 Go.Proofs.Qxb6605746aFmt.P5 Go.Proofs.Qxb6605746aFmt.P6

def faddo (a v : Option Nat) : Option Nat := match v with
  | none => a
  | some v => fop .add a (some v)
/-- The sum of the observed, first to last. -/
def fsum (X : Nat → Option Nat) : Nat → Option Nat
  | 0 => some 0
  | i + 1 => faddo (fsum X i) (X i)
def fsqo (a x m : Option Nat) : Option Nat := match x with
  | none => a
  | some _ => fop .add a (fop .mul (fop .sub x m) (fop .sub x m))
/-- The sum of the observed cells' squared distances from m i. -/
def fsqs (X : Nat → Option Nat) (m : Nat → Option Nat) : Nat → Option Nat
  | 0 => some 0
  | i + 1 => fsqo (fsqs X m i) (X i) (m i)
def fcnt (n : Int) : Option Nat := fnum (floatOfInt .f64 n)
def fmean (X : Nat → Option Nat) (c : Nat) (n : Int) : Option Nat := fop .quo (fsum X c) (fcnt n)
def fsd (X : Nat → Option Nat) (m : Option Nat) (c : Nat) (n : Int) : Option Nat := fsqrt (fop .quo (fsqs X (fun _ => m) c) (fcnt n))
def fabs (x : Option Nat) : Option Nat := x.map (· % 2 ^ 63)
def fround (n : Int) (size : Option Nat) : Option Nat := fop .mul (fop .mul (some 4372995238176751616) (fcnt (n + 2))) size
def fscal (n : Int) (m sd : Option Nat) : Option Nat := fop .quo (fround n (fop .add (fabs m) (fop .mul (fsqrt (fcnt n)) sd))) sd
def fscaled (x m sd : Option Nat) : Option Nat := fop .quo (fop .sub x m) sd

theorem cnt_W (n : Int) (h1 : 1 ≤ n) (h2 : n ≤ 131072) : ∃ q, fcnt n = some (W false q) ∧ 1023 ≤ q / 2 ^ 52 ∧ q / 2 ^ 52 ≤ 1041 := by
  obtain ⟨k, rfl⟩ : ∃ k : Nat, n = (k : Int) := ⟨n.toNat, by omega⟩
  have h0 : k ≠ 0 := by omega
  have l2 : k.log2 < 18 := (Nat.log2_lt h0).2 (by omega)
  obtain ⟨r, r1, r2, r3, _, _⟩ := round_spec false k 1075 h0 (by omega) (by omega)
  have e : floatOfInt .f64 (k : Int) = W false r := by
    have := r1 0 (by omega)
    rw [Nat.zero_mul, Nat.add_zero] at this
    unfold floatOfInt FloatKind.nearest FloatKind.encode
    have ed : decide ((k : Int) < 0) = false := by simp
    rw [ed, Int.natAbs_natCast]
    exact this
  have hn : fnum (W false r) = some (W false r) := by
    apply fnum_some
    show (Ieee.double.read (W false r)).isNaN = false
    rw [read_W0 false r (by omega) (by omega)]
    rfl
  exact ⟨r, by unfold fcnt; rw [e, hn], by omega, by omega⟩

theorem pow_mul (a b : Nat) : 2 ^ a * 2 ^ b = 2 ^ (a + b) := (Nat.pow_add 2 a b).symm

section
variable {X X' : Nat → Option Nat} {c : Nat}

theorem sum_rel (hX : ∀ j, j < c → SG 1 823 (2 ^ 1275) (X j) (X' j)) (hc : c ≤ 65536) : ∀ j, j ≤ c → SG 1 823 (j * 2 ^ 1275) (fsum X j) (fsum X' j)
  | 0, _ => .inr (.inl ⟨false, rfl, rfl⟩)
  | j + 1, hj => by
    have ih := sum_rel hX hc j (by omega)
    have hx := hX j (by omega)
    have e : j * 2 ^ 1275 + 2 ^ 1275 = (j + 1) * 2 ^ 1275 := by rw [Nat.add_mul, Nat.one_mul]
    have key := SG.add (n := j + 1) (b := 1275) (c := 1292) ih hx (by omega) (Nat.le_of_eq e) (by omega) (by
      have : (j + 1) * 2 ^ 1275 ≤ 2 ^ 17 * 2 ^ 1275 := Nat.mul_le_mul_right _ (by omega)
      rwa [pow_mul] at this) (by omega)
    show SG 1 823 ((j + 1) * 2 ^ 1275) (faddo (fsum X j) (X j)) (faddo (fsum X' j) (X' j))
    rcases hx with ⟨h1, h2⟩ | ⟨s, h1, h2⟩ | ⟨s, r, h1, h2, _⟩
    · rw [h1, h2]
      exact ih.mono (by omega) (Nat.mul_le_mul_right _ (by omega))
    · rw [h1, h2] at key ⊢
      exact key
    · rw [h1, h2] at key ⊢
      exact key

theorem mean_rel (hX : ∀ j, j < c → SG 1 823 (2 ^ 1275) (X j) (X' j)) (hc : c ≤ 65536) (n : Int) (h1 : 1 ≤ n) (h2 : n ≤ 65536) : Sc 1 750 1241 (fmean X c n) (fmean X' c n) := by
  obtain ⟨q, hq, q1, q2⟩ := cnt_W n h1 (by omega)
  have hs := (sum_rel hX hc c (Nat.le_refl _)).sc (c := 1291) (by
    have : c * 2 ^ 1275 ≤ 2 ^ 16 * 2 ^ 1275 := Nat.mul_le_mul_right _ (by omega)
    rwa [pow_mul] at this)
  unfold fmean
  rw [hq]
  have := Sc.div (t := false) hs q1 q2 (by omega) (by omega) (by omega) (by omega) (by omega) (by omega)
  rcases this with h | h | ⟨s, r, a, b, l, u⟩
  · exact .inl h
  · exact .inr (.inl h)
  · exact .inr (.inr ⟨s, r, a, b, by omega, by omega⟩)

theorem dist_rel {m m' : Option Nat} (hm : Sc 1 750 1241 m m') {x x' : Option Nat} (hx : SG 1 823 (2 ^ 1275) x x') : Sc 1 698 1243 (fop .sub x m) (fop .sub x' m') := by
  have h1 := hx.mono (g' := 750) (B' := 2 ^ 1275) (by omega) (Nat.le_refl _)
  have h2 := hm.sg (by omega)
  have := SG.sub (n := 1) (b := 1295) (c := 1295) h1 h2 (by omega) (by
    rw [Nat.one_mul]
    have a1 : 2 ^ 1275 ≤ 2 ^ (53 + 1241) := Nat.pow_le_pow_right (by omega) (by omega)
    have a2 : 2 ^ 1295 = 2 ^ (53 + 1241) + 2 ^ (53 + 1241) := by rw [← Nat.two_mul, ← Nat.pow_succ']
    omega) (by omega) (by rw [Nat.one_mul]; exact Nat.le_refl _) (by omega)
  rw [Nat.one_mul] at this
  exact this.sc (Nat.le_refl _)

theorem sqs_rel {m m' : Option Nat} (hm : Sc 1 750 1241 m m') (hX : ∀ j, j < c → SG 1 823 (2 ^ 1275) (X j) (X' j)) (hc : c ≤ 65536) : ∀ j, j ≤ c → SG 2 373 (j * 2 ^ 1518) (fsqs X (fun _ => m) j) (fsqs X' (fun _ => m') j)
  | 0, _ => .inr (.inl ⟨false, rfl, rfl⟩)
  | j + 1, hj => by
    have ih := sqs_rel hm hX hc j (by omega)
    have hx := hX j (by omega)
    have hd := dist_rel hm hx
    have hq := (Sc.mul hd hd (by omega) (by omega) (by omega) (by omega) (by omega) (by omega)).sg (by omega)
    have hq' : SG 2 373 (2 ^ 1518) (fop .mul (fop .sub (X j) m) (fop .sub (X j) m)) (fop .mul (fop .sub (X' j) m') (fop .sub (X' j) m')) := hq.mono (by omega) (Nat.pow_le_pow_right (by omega) (by omega))
    have e : j * 2 ^ 1518 + 2 ^ 1518 = (j + 1) * 2 ^ 1518 := by rw [Nat.add_mul, Nat.one_mul]
    have key := SG.add (n := j + 1) (b := 1518) (c := 1535) ih hq' (by omega) (Nat.le_of_eq e) (by omega) (by
      have : (j + 1) * 2 ^ 1518 ≤ 2 ^ 17 * 2 ^ 1518 := Nat.mul_le_mul_right _ (by omega)
      rwa [pow_mul] at this) (by omega)
    show SG 2 373 ((j + 1) * 2 ^ 1518) (fsqo (fsqs X (fun _ => m) j) (X j) m) (fsqo (fsqs X' (fun _ => m') j) (X' j) m')
    rcases hx with ⟨h1, h2⟩ | ⟨s, h1, h2⟩ | ⟨s, r, h1, h2, _⟩
    · rw [h1, h2]
      exact ih.mono (by omega) (Nat.mul_le_mul_right _ (by omega))
    · rw [h1, h2] at key ⊢
      exact key
    · rw [h1, h2] at key ⊢
      exact key

theorem sd_rel {m m' : Option Nat} (hm : Sc 1 750 1241 m m') (hX : ∀ j, j < c → SG 1 823 (2 ^ 1275) (X j) (X' j)) (hc : c ≤ 65536) (n : Int) (h1 : 1 ≤ n) (h2 : n ≤ 65536) : Sc 1 660 1260 (fsd X m c n) (fsd X' m' c n) := by
  obtain ⟨q, hq, q1, q2⟩ := cnt_W n h1 (by omega)
  have hs := (sqs_rel hm hX hc c (Nat.le_refl _)).sc (c := 1534) (by
    have : c * 2 ^ 1518 ≤ 2 ^ 16 * 2 ^ 1518 := Nat.mul_le_mul_right _ (by omega)
    rwa [pow_mul] at this)
  unfold fsd
  rw [hq]
  have := Sc.sqrt (Sc.div (t := false) hs q1 q2 (by omega) (by omega) (by omega) (by omega) (by omega) (by omega)) (by omega) (by omega)
  rcases this with h | h | ⟨s, r, a, b, l, u⟩
  · exact .inl h
  · exact .inr (.inl h)
  · exact .inr (.inr ⟨s, r, a, b, by omega, by omega⟩)

theorem abs_rel {k lo hi : Nat} {m m' : Option Nat} (h : Sc k lo hi m m') (h2 : hi + k ≤ 2046) : Sc k lo hi (fabs m) (fabs m') := by
  have key : ∀ s q, q < 2 ^ 63 → fabs (some (W s q)) = some (W false q) := by
    intro s q hq
    unfold fabs W Ieee.Format.word
    rw [dSign]
    cases s <;> simp <;> omega
  rcases h with ⟨rfl, rfl⟩ | ⟨s, rfl, rfl⟩ | ⟨s, r, rfl, rfl, l, u⟩
  · exact .inl ⟨rfl, rfl⟩
  · exact .inr (.inl ⟨false, key _ _ (by omega), key _ _ (by omega)⟩)
  · exact .inr (.inr ⟨false, r, key _ _ (by omega), key _ _ (by omega), l, u⟩)

theorem sc_refl (s : Bool) (q lo hi : Nat) (h1 : lo ≤ q / 2 ^ 52) (h2 : q / 2 ^ 52 ≤ hi) : Sc 0 lo hi (some (W s q)) (some (W s q)) :=
  .inr (.inr ⟨s, q, rfl, by rw [Nat.zero_mul, Nat.add_zero], h1, h2⟩)

/-- The root of a count. -/
theorem root_cnt (n : Int) (h1 : 1 ≤ n) (h2 : n ≤ 65536) : Sc 0 1023 1034 (fsqrt (fcnt n)) (fsqrt (fcnt n)) := by
  obtain ⟨q, hq, q1, q2⟩ := cnt_W n h1 (by omega)
  have hx : Sc 2 1023 1041 (some (W false q)) (some (W false (q + 2 * 2 ^ 52))) := .inr (.inr ⟨false, q, rfl, rfl, q1, q2⟩)
  have := Sc.sqrt hx (by omega) (by omega)
  rw [← hq] at this
  rcases this with ⟨h, _⟩ | ⟨s, h, _⟩ | ⟨s, r, a, b, l, u⟩
  · exact .inl ⟨h, h⟩
  · exact .inr (.inl ⟨s, h, h⟩)
  · rw [a]; exact sc_refl s r _ _ (by omega) (by omega)

theorem scal_rel {m m' : Option Nat} (hm : Sc 1 750 1241 m m') (n : Int) (h1 : 1 ≤ n) (h2 : n ≤ 65536) (s : Bool) (r : Nat) (r1 : 660 ≤ r / 2 ^ 52) (r2 : r / 2 ^ 52 ≤ 1260) :
    fscal n m' (some (W s (r + 1 * 2 ^ 52))) = fscal n m (some (W s r)) := by
  have hsd : Sc 1 660 1260 (some (W s r)) (some (W s (r + 1 * 2 ^ 52))) := .inr (.inr ⟨s, r, rfl, rfl, r1, r2⟩)
  have hp := (Sc.mul (root_cnt n h1 h2) hsd (by omega) (by omega) (by omega) (by omega) (by omega) (by omega)).sg (by omega)
  have ha := (abs_rel hm (by omega)).sg (by omega)
  have hp' := hp.mono (g' := 660) (B' := 2 ^ 1330) (by omega) (Nat.pow_le_pow_right (by omega) (by omega))
  have ha' := ha.mono (g' := 660) (B' := 2 ^ 1330) (by omega) (Nat.pow_le_pow_right (by omega) (by omega))
  have hz := SG.add (n := 2) (b := 1330) (c := 1331) ha' hp' (by omega) (by omega) (by omega) (by rw [Nat.mul_comm, ← Nat.pow_succ]; exact Nat.le_refl _) (by omega)
  have hz' := hz.sc (c := 1331) (by rw [Nat.mul_comm, ← Nat.pow_succ]; exact Nat.le_refl _)
  obtain ⟨q, hq, q1, q2⟩ := cnt_W (n + 2) (by omega) (by omega)
  have hc : Sc 0 971 971 (some 4372995238176751616) (some 4372995238176751616) := by
    have e : 4372995238176751616 = W false (971 * 2 ^ 52) := by decide
    rw [e]; exact sc_refl _ _ _ _ (by omega) (by omega)
  have hc2 := Sc.mul hc (sc_refl false q 1023 1041 q1 q2) (by omega) (by omega) (by omega) (by omega) (by omega) (by omega)
  have hf := Sc.mul hc2 hz' (by omega) (by omega) (by omega) (by omega) (by omega) (by omega)
  unfold fscal fround
  rw [hq]
  have e0 : (1 : Nat) = 0 + 0 + (0 + 1) := rfl
  exact Sc.div_same (a := 1) hf (by omega) (by omega) (by omega) (by omega)

theorem scaled_rel {m m' : Option Nat} (hm : Sc 1 750 1241 m m') {x x' : Option Nat} (hx : SG 1 823 (2 ^ 1275) x x') (s : Bool) (r : Nat) (r1 : 660 ≤ r / 2 ^ 52) (r2 : r / 2 ^ 52 ≤ 1260) :
    fscaled x' m' (some (W s (r + 1 * 2 ^ 52))) = fscaled x m (some (W s r)) :=
  Sc.div_same (dist_rel hm hx) (by omega) (by omega) (by omega) (by omega)

/-- A row without an observed cell. -/
theorem none_sum (h : ∀ j, j < c → X j = none) : ∀ j, j ≤ c → fsum X j = some 0
  | 0, _ => rfl
  | j + 1, hj => by
    show faddo (fsum X j) (X j) = _
    rw [h j (by omega)]
    exact none_sum h j (by omega)
theorem none_sqs {m : Option Nat} (h : ∀ j, j < c → X j = none) : ∀ j, j ≤ c → fsqs X (fun _ => m) j = some 0
  | 0, _ => rfl
  | j + 1, hj => by
    show fsqo (fsqs X (fun _ => m) j) (X j) m = _
    rw [h j (by omega)]
    exact none_sqs h j (by omega)
theorem cnt_zero : fop .quo (some 0) (fcnt 0) = none := by decide +kernel

theorem mean_none (h : ∀ j, j < c → X j = none) : fmean X c 0 = none := by
  unfold fmean
  rw [none_sum h c (Nat.le_refl _), cnt_zero]
theorem sd_none {m : Option Nat} (h : ∀ j, j < c → X j = none) : fsd X m c 0 = none := by
  unfold fsd
  rw [none_sqs h c (Nat.le_refl _), cnt_zero]
  rfl

theorem sg_none {k g B : Nat} {x x' : Option Nat} (h : SG k g B x x') (hx : x = none) : x' = none := by
  rcases h with ⟨_, h⟩ | ⟨s, h, _⟩ | ⟨s, r, h, _⟩
  · exact h
  · rw [h] at hx; cases hx
  · rw [h] at hx; cases hx

/-- What a row and its double have to do with each other. -/
theorem row_rel (hX : ∀ j, j < c → SG 1 823 (2 ^ 1275) (X j) (X' j)) (hc : c ≤ 65536) (n : Int) (h1 : 0 ≤ n) (h2 : n ≤ 65536) (h0 : n = 0 → ∀ j, j < c → X j = none) (f : Nat) (hf : f < 2 ^ 64) :
    ok (fsd X' (fmean X' c n) c n) (fop .mul (some two) (fnum f)) = ok (fsd X (fmean X c n) c n) (fnum f) ∧
    (ok (fsd X (fmean X c n) c n) (fnum f) = true →
      fsd X' (fmean X' c n) c n = fop .mul (some two) (fsd X (fmean X c n) c n) ∧
      fscal n (fmean X' c n) (fsd X' (fmean X' c n) c n) = fscal n (fmean X c n) (fsd X (fmean X c n) c n) ∧
      ∀ j, j < c → fscaled (X' j) (fmean X' c n) (fsd X' (fmean X' c n) c n) = fscaled (X j) (fmean X c n) (fsd X (fmean X c n) c n)) := by
  by_cases hn : n = 0
  · subst hn
    have hx := h0 rfl
    have hx' : ∀ j, j < c → X' j = none := fun j hj => sg_none (hX j hj) (hx j hj)
    rw [sd_none hx, sd_none hx']
    exact ⟨rfl, fun h => by cases h⟩
  · have hm := mean_rel hX hc n (by omega) h2
    have hs := sd_rel hm hX hc n (by omega) h2
    refine ⟨ok_dbl f hs (by omega) (by omega) hf, fun hok => ?_⟩
    rcases hs with ⟨e1, e2⟩ | ⟨s, e1, e2⟩ | ⟨s, r, e1, e2, r1, r2⟩
    · rw [e1] at hok; cases hok
    · rw [e1, ok_zero] at hok; cases hok
    · rw [e1, e2]
      refine ⟨?_, scal_rel hm n (by omega) h2 s r r1 r2, fun j hj => scaled_rel hm (hX j hj) s r r1 r2⟩
      rw [keym, mul_two s r (by omega) (by omega), Nat.min_eq_left (by omega), Nat.one_mul]

end
end Go.Proofs.Qxb6605746aFmt.P7
