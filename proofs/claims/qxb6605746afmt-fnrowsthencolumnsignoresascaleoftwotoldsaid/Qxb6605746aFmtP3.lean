import Derived.Test.Qxb6605746aFmtP2
set_option linter.unusedVariables false
set_option linter.unusedSimpArgs false
namespace Go.Proofs.Qxb6605746aFmt.P3
open Ieee Go.Proofs.Qxb6605746aFmt.P1 Go.Proofs.Qxb6605746aFmt.P2

theorem near_fit (neg : Bool) (m k : Nat) (hm : m ≠ 0) (h : m < 2 ^ 53) (hk : k = 0 ∨ 2 ^ 52 ≤ m) : Ieee.double.nearest neg (m * 2 ^ k) (-1074) = Ieee.double.word neg (min (k * 2 ^ 52 + m) Ieee.double.infRung) := by
  have h0 : m * 2 ^ k ≠ 0 := Nat.mul_ne_zero hm (Nat.pos_iff_ne_zero.1 (Nat.two_pow_pos _))
  have hl : m.log2 < 53 := (Nat.log2_lt hm).2 h
  unfold Ieee.Format.nearest
  rw [if_neg h0, dLeast, dFrac, log2_shift m hm k]
  have e1 : max ((-1074 : Int) + ((m.log2 + k : Nat) : Int) - ((52 : Nat) : Int)) (-1074) = -1074 + (k : Int) := by
    rcases hk with rfl | hk
    · omega
    · have := (Nat.le_log2 hm).2 hk
      omega
  simp only [e1]
  have e2 : ((-1074 : Int) - (-1074 + (k : Int))).toNat = 0 := by omega
  have e3 : ((-1074 : Int) + (k : Int) - -1074).toNat = k := by omega
  rw [e2, e3, Nat.shiftLeft_zero, cut_exact neg m k hm, dBin]


/-- The quotient of two significands, as the model lays it. -/
def qmag (m n : Nat) : Nat := 2 * (m * 2 ^ 54 / n) + (m * 2 ^ 54 % n != 0).toNat

theorem qmag_bounds {m n : Nat} (m1 : 2 ^ 52 ≤ m ∧ m < 2 ^ 53) (n1 : 2 ^ 52 ≤ n ∧ n < 2 ^ 53) : 2 ^ 54 ≤ qmag m n ∧ qmag m n < 2 ^ 56 := by
  have h0 : 0 < n := by omega
  have h1 : 2 ^ 53 ≤ m * 2 ^ 54 / n := by
    rw [Nat.le_div_iff_mul_le h0]
    omega
  have h2 : m * 2 ^ 54 / n < 2 ^ 55 := by
    rw [Nat.div_lt_iff_lt_mul h0]
    omega
  have h3 := Bool.toNat_le (m * 2 ^ 54 % n != 0)
  unfold qmag
  generalize m * 2 ^ 54 / n = z at *
  generalize (m * 2 ^ 54 % n != 0).toNat = y at *
  omega

theorem quo_normal (s t : Bool) (m n : Nat) (i j : Int) (hm : m.log2 = 52) (hn : n.log2 = 52) (h0 : n ≠ 0) : (Datum.number s m i).quotient (Ieee.double.fractionBits + 2) (.number t n j) = some (.number (s ^^ t) (qmag m n) (i - j - 55)) := by
  simp only [Datum.quotient]
  rw [if_neg h0, dFrac, hm, hn]
  have e : 52 + 2 + 52 - 52 = 54 := rfl
  rw [e, Nat.shiftLeft_eq]
  unfold qmag
  congr 2
  omega
theorem quo_zero (s t : Bool) (n : Nat) (i j : Int) (h0 : n ≠ 0) : ∃ e, (Datum.number s 0 i).quotient (Ieee.double.fractionBits + 2) (.number t n j) = some (.number (s ^^ t) 0 e) := by
  simp only [Datum.quotient]
  rw [if_neg h0]
  refine ⟨i - j - (Ieee.double.fractionBits + 2 + n.log2 - Nat.log2 0 : Nat) - 1, ?_⟩
  simp

theorem keyq (u v : Nat) : fop .quo (some u) (some v) = Ieee.double.div u v := rfl

/-- Quotients by a number that stays. -/
theorem Sc.div {a l1 h1 l2 h2 : Nat} {x x' : Option Nat} {t : Bool} {q : Nat} (hx : Sc a l1 h1 x x') (b1 : l2 ≤ q / 2 ^ 52) (b2 : q / 2 ^ 52 ≤ h2) (c1 : 1 ≤ l1) (c2 : 1 ≤ l2) (c3 : h2 ≤ l1 + 950) (c4 : h1 + a + 1024 ≤ l2 + 2000) (c5 : h1 + a ≤ 2046) (c6 : h2 ≤ 2046) :
    Sc a (l1 + 1022 - h2) (h1 + 1024 - l2) (fop .quo x (some (W t q))) (fop .quo x' (some (W t q))) := by
  have hr := read_W0 t q (by omega) (by omega)
  rcases hx with ⟨rfl, rfl⟩ | ⟨s, rfl, rfl⟩ | ⟨s, r, rfl, rfl, a1, a2⟩
  · exact .inl ⟨rfl, rfl⟩
  · obtain ⟨e, he⟩ := quo_zero s t (2 ^ 52 + q % 2 ^ 52) (-1074) ((q / 2 ^ 52 : Nat) - 1075) (by omega)
    have : fop .quo (some (W s 0)) (some (W t q)) = some (W (s ^^ t) 0) := by
      rw [keyq]; unfold Ieee.Format.div; rw [read_zero, hr, he]; simp only [Option.map_some, Ieee.Format.write, word_zero]
    exact .inr (.inl ⟨s ^^ t, this, this⟩)
  · obtain ⟨m, hm⟩ : ∃ m, 2 ^ 52 + r % 2 ^ 52 = m := ⟨_, rfl⟩
    obtain ⟨n, hn⟩ : ∃ n, 2 ^ 52 + q % 2 ^ 52 = n := ⟨_, rfl⟩
    obtain ⟨p, hp⟩ : ∃ p, r / 2 ^ 52 = p := ⟨_, rfl⟩
    obtain ⟨p', hp'⟩ : ∃ p, q / 2 ^ 52 = p := ⟨_, rfl⟩
    have lm : m.log2 = 52 := by rw [← hm]; exact mg_log r
    have ln : n.log2 = 52 := by rw [← hn]; exact mg_log q
    obtain ⟨q1, q2⟩ := qmag_bounds (m := m) (n := n) (by omega) (by omega)
    have hne : qmag m n ≠ 0 := by omega
    have lg1 := (Nat.le_log2 hne).2 q1
    have lg2 := (Nat.log2_lt hne).2 q2
    obtain ⟨e0, he0⟩ : ∃ e0, p + 1020 = e0 + p' := ⟨p + 1020 - p', by omega⟩
    obtain ⟨z, z1, z2, z3, _, _⟩ := round_spec (s ^^ t) (qmag m n) e0 hne (by omega) (by omega)
    refine .inr (.inr ⟨s ^^ t, z, ?_, ?_, by omega, by omega⟩)
    · rw [keyq]; unfold Ieee.Format.div; rw [read_W0 s r (by omega) (by omega), hr, hm, hn, hp, hp', quo_normal s t m n _ _ lm ln (by omega)]
      simp only [Option.map_some, Ieee.Format.write]
      have e : ((p : Nat) : Int) - 1075 - ((p' : Nat) - 1075) - 55 = ((e0 + 0 : Nat) : Int) - 1075 := by omega
      rw [e, z1 0 (by omega), Nat.zero_mul, Nat.add_zero]; rfl
    · rw [keyq]; unfold Ieee.Format.div; rw [read_W s r a (by omega) (by omega), hr, hm, hn, hp, hp', quo_normal s t m n _ _ lm ln (by omega)]
      simp only [Option.map_some, Ieee.Format.write]
      have e : ((p + a : Nat) : Int) - 1075 - ((p' : Nat) - 1075) - 55 = ((e0 + a : Nat) : Int) - 1075 := by omega
      rw [e, z1 a (by omega)]; rfl

/-- Both scaled alike: the quotient is the same. -/
theorem Sc.div_same {a l1 h1 : Nat} {x x' : Option Nat} {t : Bool} {q : Nat} (hx : Sc a l1 h1 x x') (b1 : 1 ≤ q / 2 ^ 52) (b2 : q / 2 ^ 52 + a ≤ 2046) (c1 : 1 ≤ l1) (c5 : h1 + a ≤ 2046) :
    fop .quo x' (some (W t (q + a * 2 ^ 52))) = fop .quo x (some (W t q)) := by
  have hr := read_W0 t q (by omega) (by omega)
  have hr' := read_W t q a (by omega) (by omega)
  rcases hx with ⟨rfl, rfl⟩ | ⟨s, rfl, rfl⟩ | ⟨s, r, rfl, rfl, a1, a2⟩
  · rw [none_l, none_l]
  · obtain ⟨e, he⟩ := quo_zero s t (2 ^ 52 + q % 2 ^ 52) (-1074) ((q / 2 ^ 52 : Nat) - 1075) (by omega)
    obtain ⟨e', he'⟩ := quo_zero s t (2 ^ 52 + q % 2 ^ 52) (-1074) ((q / 2 ^ 52 + a : Nat) - 1075) (by omega)
    rw [keyq, keyq]; unfold Ieee.Format.div; rw [read_zero, hr, he, hr', he']; simp only [Option.map_some, Ieee.Format.write, word_zero]
  · have hs := read_W0 s r (by omega) (by omega)
    have hs' := read_W s r a (by omega) (by omega)
    have lm := mg_log r
    have ln := mg_log q
    generalize r + a * 2 ^ 52 = r' at *
    generalize q + a * 2 ^ 52 = q' at *
    obtain ⟨m, hm⟩ : ∃ m, 2 ^ 52 + r % 2 ^ 52 = m := ⟨_, rfl⟩
    obtain ⟨n, hn⟩ : ∃ n, 2 ^ 52 + q % 2 ^ 52 = n := ⟨_, rfl⟩
    have hn0 : n ≠ 0 := by omega
    rw [hm] at hs hs' lm
    rw [hn] at hr hr' ln
    have e : ((r / 2 ^ 52 + a : Nat) : Int) - 1075 - (((q / 2 ^ 52 + a : Nat) : Int) - 1075) - 55 = ((r / 2 ^ 52 : Nat) : Int) - 1075 - (((q / 2 ^ 52 : Nat) : Int) - 1075) - 55 := by omega
    rw [keyq, keyq]
    unfold Ieee.Format.div
    rw [hs, hr, hs', hr', quo_normal s t m n _ _ lm ln hn0, quo_normal s t m n _ _ lm ln hn0, e]

def fsqrt (x : Option Nat) : Option Nat := x.bind Ieee.double.sqrt
theorem keyr (u : Nat) : fsqrt (some u) = Ieee.double.sqrt u := rfl

theorem root_bounds (n : Nat) : ∀ todo root, root ≤ Datum.rootFrom n todo root ∧ Datum.rootFrom n todo root < root + 2 ^ todo
  | 0, root => by simp [Datum.rootFrom]
  | todo + 1, root => by
    simp only [Datum.rootFrom, Nat.one_shiftLeft]
    have e : 2 ^ (todo + 1) = 2 ^ todo + 2 ^ todo := by rw [Nat.pow_succ]; omega
    split
    · have := root_bounds n todo (root + 2 ^ todo)
      omega
    · have := root_bounds n todo root
      omega
theorem root_top (n : Nat) (h : 2 ^ 108 ≤ n) : 2 ^ 54 ≤ Datum.rootFrom n 55 0 ∧ Datum.rootFrom n 55 0 < 2 ^ 55 := by
  have e : Datum.rootFrom n 55 0 = Datum.rootFrom n 54 (2 ^ 54) := by
    have e1 : Datum.rootFrom n (54 + 1) 0 = Datum.rootFrom n 54 (if (0 + 1 <<< 54) * (0 + 1 <<< 54) ≤ n then 0 + 1 <<< 54 else 0) := by rw [Datum.rootFrom]
    rw [e1, Nat.one_shiftLeft, Nat.zero_add, if_pos (by rw [← Nat.pow_add]; exact h)]
  rw [e]
  have := root_bounds n 54 (2 ^ 54)
  omega

/-- Square roots: of four times a number, twice its root. -/
theorem Sc.sqrt {l h : Nat} {x x' : Option Nat} (hx : Sc 2 l h x x') (c1 : 1 ≤ l) (c2 : h ≤ 2000) : Sc 1 ((l + 1023) / 2) ((h + 1023) / 2 + 1) (fsqrt x) (fsqrt x') := by
  rcases hx with ⟨rfl, rfl⟩ | ⟨s, rfl, rfl⟩ | ⟨s, r, rfl, rfl, a1, a2⟩
  · exact .inl ⟨rfl, rfl⟩
  · have : fsqrt (some (W s 0)) = some (W s 0) := by
      rw [keyr]
      unfold Ieee.Format.sqrt; rw [read_zero]; simp [Datum.root, Ieee.Format.write, word_zero]
    exact .inr (.inl ⟨s, this, this⟩)
  · have hr := read_W0 s r (by omega) (by omega)
    have hr' := read_W s r 2 (by omega) (by omega)
    cases s with
    | true =>
      refine .inl ⟨?_, ?_⟩
      · rw [keyr]
        unfold Ieee.Format.sqrt; rw [hr]; simp [Datum.root]
      · rw [keyr]
        unfold Ieee.Format.sqrt; rw [hr']; simp [Datum.root]
    | false =>
      obtain ⟨m, hm⟩ : ∃ m, 2 ^ 52 + r % 2 ^ 52 = m := ⟨_, rfl⟩
      obtain ⟨p, hp⟩ : ∃ p, r / 2 ^ 52 = p := ⟨_, rfl⟩
      have lm : m.log2 = 52 := by rw [← hm]; exact mg_log r
      have hm0 : m ≠ 0 := by omega
      rw [hm, hp] at hr hr'
      obtain ⟨more, hmore⟩ : ∃ more, 56 + (((p : Nat) - 1075 - (56 : Nat) : Int) % 2).toNat = more := ⟨_, rfl⟩
      have hmore' : 56 + ((((p + 2 : Nat) : Int) - 1075 - (56 : Nat) : Int) % 2).toNat = more := by omega
      have hmb : 56 ≤ more ∧ more ≤ 57 := by omega
      have hn108 : 2 ^ 108 ≤ m <<< more := by
        rw [Nat.shiftLeft_eq]
        have : 2 ^ 52 * 2 ^ 56 ≤ m * 2 ^ more := Nat.mul_le_mul (by omega) (Nat.pow_le_pow_right (by omega) hmb.1)
        rwa [← Nat.pow_add] at this
      have hlog : (m <<< more).log2 / 2 + 1 = 55 := by
        rw [Nat.shiftLeft_eq, log2_shift m hm0, lm]
        omega
      obtain ⟨w1, w2⟩ := root_top _ hn108
      obtain ⟨wh, hwh⟩ : ∃ wh, Datum.rootFrom (m <<< more) 55 0 = wh := ⟨_, rfl⟩
      rw [hwh] at w1 w2
      obtain ⟨mag, hmag⟩ : ∃ mag, 2 * wh + (wh * wh != m <<< more).toNat = mag := ⟨_, rfl⟩
      have hb := Bool.toNat_le (wh * wh != m <<< more)
      have g1 : 2 ^ 55 ≤ mag ∧ mag < 2 ^ 56 := by omega
      have hne : mag ≠ 0 := by omega
      have lg : mag.log2 = 55 := (Nat.log2_eq_iff hne).2 g1
      have root_eq : ∀ i : Int, 56 + ((i - (56 : Nat)) % 2).toNat = more → (Datum.number false m i).root (Ieee.double.fractionBits + 2) = some (.number false mag ((i - more) / 2 - 1)) := by
        intro i hi
        simp only [Datum.root]
        rw [if_neg hm0, dFrac, lm]
        have e : 2 * (52 + 2) - 52 = 56 := rfl
        rw [e, hi, hlog, hwh, hmag]
        simp
      obtain ⟨e0, he0⟩ : ∃ e0, e0 = (p + 1017) / 2 := ⟨_, rfl⟩
      obtain ⟨z, z1, z2, z3, _, _⟩ := round_spec false mag e0 hne (by omega) (by omega)
      refine .inr (.inr ⟨false, z, ?_, ?_, by omega, by omega⟩)
      · rw [keyr]
        unfold Ieee.Format.sqrt; rw [hr, root_eq _ hmore]
        simp only [Option.map_some, Ieee.Format.write]
        have e : (((p : Nat) : Int) - 1075 - (more : Int)) / 2 - 1 = ((e0 + 0 : Nat) : Int) - 1075 := by omega
        rw [e, z1 0 (by omega), Nat.zero_mul, Nat.add_zero]; rfl
      · rw [keyr]
        unfold Ieee.Format.sqrt; rw [hr', root_eq _ hmore']
        simp only [Option.map_some, Ieee.Format.write]
        have e : (((p + 2 : Nat) : Int) - 1075 - (more : Int)) / 2 - 1 = ((e0 + 1 : Nat) : Int) - 1075 := by omega
        rw [e, z1 1 (by omega)]; rfl
end Go.Proofs.Qxb6605746aFmt.P3
