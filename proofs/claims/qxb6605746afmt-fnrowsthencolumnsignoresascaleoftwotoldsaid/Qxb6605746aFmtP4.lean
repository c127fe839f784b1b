import Derived.Test.Qxb6605746aFmtP3
set_option linter.unusedVariables false
set_option linter.unusedSimpArgs false
namespace Go.Proofs.Qxb6605746aFmt.P4
open Ieee Go.Proofs.Qxb6605746aFmt.P1 Go.Proofs.Qxb6605746aFmt.P2 Go.Proofs.Qxb6605746aFmt.P3

theorem keya (u v : Nat) : fop .add (some u) (some v) = Ieee.double.add u v := rfl
theorem keys (u v : Nat) : fop .sub (some u) (some v) = Ieee.double.sub u v := rfl

theorem signed_zero (s : Bool) (u : Nat) : signed s 0 u = 0 := by cases s <;> simp [signed]
theorem signed_eq (s : Bool) (m u : Nat) : signed s m u = (if s then -1 else 1) * ((m * 2 ^ u : Nat) : Int) := by
  unfold signed
  rw [Nat.shiftLeft_eq]
  cases s <;> simp
theorem signed_abs (s : Bool) (m u : Nat) : (signed s m u).natAbs = m * 2 ^ u := by
  rw [signed_eq]
  cases s <;> simp [Int.natAbs_mul]
theorem signed_neg (s : Bool) (m u : Nat) (h : 0 < m) : decide (signed s m u < 0) = s := by
  have hp : 0 < m * 2 ^ u := Nat.mul_pos h (Nat.two_pow_pos _)
  rw [signed_eq]
  generalize m * 2 ^ u = z at *
  cases s <;> simp <;> omega

/-- A zero beside a number. -/
theorem zero_add (s t : Bool) (q : Nat) (h1 : 1 ≤ q / 2 ^ 52) (h2 : q / 2 ^ 52 ≤ 2046) : Ieee.double.add (W s 0) (W t q) = some (W t q) := by
  obtain ⟨n, hn⟩ : ∃ n, 2 ^ 52 + q % 2 ^ 52 = n := ⟨_, rfl⟩
  obtain ⟨p, hp⟩ : ∃ p, q / 2 ^ 52 = p := ⟨_, rfl⟩
  have hf := near_fit t n (p - 1) (by omega) (by omega) (.inr (by omega))
  have hq : (p - 1) * 2 ^ 52 + n = q := by omega
  have hi : q ≤ Ieee.double.infRung := by rw [dInf]; omega
  have hr := read_W0 t q h1 h2
  rw [hn, hp] at hr
  rw [hq, Nat.min_eq_left hi] at hf
  unfold Ieee.Format.add
  rw [read_zero, hr]
  simp only [Datum.sum]
  have e1 : min (-1074 : Int) (((p : Nat) : Int) - 1075) = -1074 := by omega
  have e2 : (((p : Nat) : Int) - 1075 - -1074).toNat = p - 1 := by omega
  have hn0 : 0 < n := by omega
  rw [e1, e2, signed_zero, Int.zero_add, signed_abs]
  have e3 : ¬ signed t n (p - 1) = 0 := by
    intro h
    have := congrArg Int.natAbs h
    rw [signed_abs] at this
    have hp : 0 < n * 2 ^ (p - 1) := Nat.mul_pos hn0 (Nat.two_pow_pos _)
    simp at this
    omega
  rw [if_neg e3, signed_neg t n _ hn0]
  simp only [Option.map_some, Ieee.Format.write]
  rw [hf]
  rfl
theorem sum_comm (a b : Datum) : a.sum b = b.sum a := by
  cases a <;> cases b <;> simp only [Datum.sum]
  · rename_i s m i t n j
    rw [Int.min_comm, Int.add_comm, Bool.and_comm]
  · rename_i s t
    by_cases h : s = t
    · rw [if_pos h, if_pos h.symm, h]
    · rw [if_neg h, if_neg (fun e => h e.symm)]
theorem add_comm (x y : Nat) : Ieee.double.add x y = Ieee.double.add y x := by
  unfold Ieee.Format.add
  rw [sum_comm]
theorem zero_zero (s t : Bool) : Ieee.double.add (W s 0) (W t 0) = some (W (s && t) 0) := by cases s <;> cases t <;> decide +kernel

theorem fac (G A B C D : Int) : A * (G * C) + B * (G * D) = G * (A * C + B * D) := by
  rw [Int.mul_add, Int.mul_left_comm A G C, Int.mul_left_comm B G D]

/-- Sums. -/
theorem SG.add {k g B1 B2 n b c : Nat} {x x' y y' : Option Nat} (hx : SG k g B1 x x') (hy : SG k g B2 y y') (c1 : 53 ≤ g) (c2 : B1 + B2 ≤ n * 2 ^ b) (c3 : n ≤ 2 ^ 52) (c4 : n * 2 ^ b ≤ 2 ^ c) (c5 : c + k ≤ 2040) :
    SG k g (n * 2 ^ b) (fop .add x y) (fop .add x' y') := by
  have top : ∀ r, V r ≤ n * 2 ^ b → r / 2 ^ 52 + k ≤ 2046 := by
    intro r hr
    have h6 := Nat.le_trans (V_low r) (Nat.le_trans hr c4)
    have := (Nat.pow_le_pow_iff_right (by omega : 1 < 2)).1 h6
    omega
  rcases hx with ⟨rfl, rfl⟩ | hx
  · exact .inl ⟨rfl, rfl⟩
  rcases hy with ⟨rfl, rfl⟩ | hy
  · exact .inl ⟨none_r _ _, none_r _ _⟩
  rcases hx with ⟨s, rfl, rfl⟩ | ⟨s, r, rfl, rfl, a1, a2, a3⟩
  · rcases hy with ⟨t, rfl, rfl⟩ | ⟨t, q, rfl, rfl, b1, b2, b3⟩
    · exact .inr (.inl ⟨s && t, by rw [keya, zero_zero], by rw [keya, zero_zero]⟩)
    · have h3 : V q ≤ n * 2 ^ b := by omega
      have := top q h3
      exact .inr (.inr ⟨t, q, by rw [keya, zero_add s t q b1 (by omega)], by rw [keya, zero_add s t _ (by omega) (by omega)], b1, b2, h3⟩)
  · rcases hy with ⟨t, rfl, rfl⟩ | ⟨t, q, rfl, rfl, b1, b2, b3⟩
    · have h3 : V r ≤ n * 2 ^ b := by omega
      have := top r h3
      exact .inr (.inr ⟨s, r, by rw [keya, add_comm, zero_add t s r a1 (by omega)], by rw [keya, add_comm, zero_add t s _ (by omega) (by omega)], a1, a2, h3⟩)
    · have t1 := top r (by omega)
      have t2 := top q (by omega)
      have hr := read_W0 s r a1 (by omega)
      have hr' := read_W s r k a1 (by omega)
      have hq := read_W0 t q b1 (by omega)
      have hq' := read_W t q k b1 (by omega)
      have va : V r = (2 ^ 52 + r % 2 ^ 52) * 2 ^ (r / 2 ^ 52) := rfl
      have vb : V q = (2 ^ 52 + q % 2 ^ 52) * 2 ^ (q / 2 ^ 52) := rfl
      generalize 2 ^ 52 + r % 2 ^ 52 = m at *
      generalize 2 ^ 52 + q % 2 ^ 52 = m' at *
      generalize r / 2 ^ 52 = p at *
      generalize q / 2 ^ 52 = p' at *
      generalize r + k * 2 ^ 52 = rk at *
      generalize q + k * 2 ^ 52 = qk at *
      obtain ⟨e0, he0⟩ : ∃ e0, e0 = min p p' := ⟨_, rfl⟩
      obtain ⟨T, hT⟩ : ∃ T, T = signed s m (p - e0) + signed t m' (p' - e0) := ⟨_, rfl⟩
      have sum_eq : ∀ i j : Nat, i = p → j = p' → ∀ kk : Nat, (Datum.number s m ((i + kk : Nat) - 1075)).sum (.number t m' ((j + kk : Nat) - 1075)) = some (.number (if T = 0 then s && t else decide (T < 0)) T.natAbs ((e0 + kk : Nat) - 1075)) := by
        rintro i j rfl rfl kk
        simp only [Datum.sum]
        have e1 : min (((i + kk : Nat) : Int) - 1075) (((j + kk : Nat) : Int) - 1075) = ((e0 + kk : Nat) : Int) - 1075 := by omega
        have e2 : ((((i + kk : Nat) : Int) - 1075) - (((e0 + kk : Nat) : Int) - 1075)).toNat = i - e0 := by omega
        have e3 : ((((j + kk : Nat) : Int) - 1075) - (((e0 + kk : Nat) : Int) - 1075)).toNat = j - e0 := by omega
        rw [e1, e2, e3, ← hT]
      have s0 := sum_eq p p' rfl rfl 0
      have sk := sum_eq p p' rfl rfl k
      rw [Nat.add_zero, Nat.add_zero] at s0
      have x0 : Ieee.double.add (W s r) (W t q) = some (Ieee.double.nearest (if T = 0 then s && t else decide (T < 0)) T.natAbs ((e0 + 0 : Nat) - 1075)) := by
        unfold Ieee.Format.add; rw [hr, hq, s0]; rfl
      have xk : Ieee.double.add (W s rk) (W t qk) = some (Ieee.double.nearest (if T = 0 then s && t else decide (T < 0)) T.natAbs ((e0 + k : Nat) - 1075)) := by
        unfold Ieee.Format.add; rw [hr', hq', sk]; rfl
      by_cases hT0 : T = 0
      · rw [if_pos hT0, hT0, Int.natAbs_zero, word_zero] at x0 xk
        exact .inr (.inl ⟨s && t, by rw [keya, x0], by rw [keya, xk]⟩)
      · rw [if_neg hT0] at x0 xk
        have hne : T.natAbs ≠ 0 := by omega
        -- the value of the sum
        have ab1 : ((m * 2 ^ (p - e0) : Nat) : Int) * ((2 ^ e0 : Nat) : Int) = ((V r : Nat) : Int) := by
          rw [va, ← Int.natCast_mul, Nat.mul_assoc, ← Nat.pow_add]
          congr 3
          omega
        have ab2 : ((m' * 2 ^ (p' - e0) : Nat) : Int) * ((2 ^ e0 : Nat) : Int) = ((V q : Nat) : Int) := by
          rw [vb, ← Int.natCast_mul, Nat.mul_assoc, ← Nat.pow_add]
          congr 3
          omega
        have hTv : T * ((2 ^ e0 : Nat) : Int) = (if s then -1 else 1) * ((V r : Nat) : Int) + (if t then -1 else 1) * ((V q : Nat) : Int) := by
          rw [hT, signed_eq, signed_eq, Int.add_mul, Int.mul_assoc, Int.mul_assoc, ab1, ab2]
        have hTn : T.natAbs * 2 ^ e0 = ((if s then -1 else 1) * ((V r : Nat) : Int) + (if t then -1 else 1) * ((V q : Nat) : Int)).natAbs := by
          rw [← hTv, Int.natAbs_mul, Int.natAbs_natCast]
        have hdv : 2 ^ g ∣ T.natAbs * 2 ^ e0 := by
          obtain ⟨u, hu⟩ := a2
          obtain ⟨v, hv⟩ := b2
          have : (if s then -1 else 1) * ((V r : Nat) : Int) + (if t then -1 else 1) * ((V q : Nat) : Int) = ((2 ^ g : Nat) : Int) * ((if s then -1 else 1) * (u : Int) + (if t then -1 else 1) * (v : Int)) := by
            rw [hu, hv, Int.natCast_mul, Int.natCast_mul]
            exact fac _ _ _ _ _
          rw [hTn, this, Int.natAbs_mul, Int.natAbs_natCast]
          exact Nat.dvd_mul_right _ _
        have hle : T.natAbs * 2 ^ e0 ≤ n * 2 ^ b := by
          rw [hTn]
          refine Nat.le_trans ?_ c2
          have z1 : (if s then (-1 : Int) else 1) = 1 ∨ (if s then (-1 : Int) else 1) = -1 := by cases s <;> simp
          have z2 : (if t then (-1 : Int) else 1) = 1 ∨ (if t then (-1 : Int) else 1) = -1 := by cases t <;> simp
          clear hTv hTn hdv ab1 ab2 va vb
          rcases z1 with z1 | z1 <;> rcases z2 with z2 | z2 <;> rw [z1, z2] <;> omega
        have hlow : 2 ^ g ≤ T.natAbs * 2 ^ e0 := Nat.le_of_dvd (Nat.mul_pos (by omega) (Nat.two_pow_pos _)) hdv
        have hlg : (T.natAbs * 2 ^ e0).log2 = T.natAbs.log2 + e0 := log2_shift _ hne _
        have hne2 : T.natAbs * 2 ^ e0 ≠ 0 := Nat.mul_ne_zero hne (Nat.pos_iff_ne_zero.1 (Nat.two_pow_pos _))
        have lg1 := (Nat.le_log2 hne2).2 hlow
        have lg2 : (T.natAbs * 2 ^ e0).log2 ≤ c := by
          have h5 := Nat.le_trans (Nat.log2_self_le hne2) (Nat.le_trans hle c4)
          exact (Nat.pow_le_pow_iff_right (by omega : 1 < 2)).1 h5
        rw [hlg] at lg1 lg2
        clear hTv hTn ab1 ab2 va vb hlow hlg hne2 s0 sk sum_eq hT
        obtain ⟨z, z1, z2, z3, z4, z5⟩ := round_spec (decide (T < 0)) T.natAbs e0 hne (by omega) (by omega)
        refine .inr (.inr ⟨decide (T < 0), z, ?_, ?_, by omega, z4 g hdv, z5 n b c3 hle⟩)
        · rw [keya, x0, z1 0 (by omega), Nat.zero_mul, Nat.add_zero]; rfl
        · rw [keya, xk, z1 k (by omega)]; rfl

theorem read_opp (t : Bool) (q : Nat) (h : q / 2 ^ 52 ≤ 2046) (h1 : q = 0 ∨ 1 ≤ q / 2 ^ 52) : (Ieee.double.read (W t q)).opposite = Ieee.double.read (W (!t) q) := by
  rcases h1 with rfl | h1
  · rw [read_zero, read_zero]; rfl
  · rw [read_W0 t q h1 h, read_W0 (!t) q h1 h]; rfl
theorem sub_add (x : Nat) (t : Bool) (q : Nat) (h : q / 2 ^ 52 ≤ 2046) (h1 : q = 0 ∨ 1 ≤ q / 2 ^ 52) : Ieee.double.sub x (W t q) = Ieee.double.add x (W (!t) q) := by
  unfold Ieee.Format.sub Ieee.Format.add
  rw [read_opp t q h h1]

/-- Differences. -/
theorem SG.sub {k g B1 B2 n b c : Nat} {x x' y y' : Option Nat} (hx : SG k g B1 x x') (hy : SG k g B2 y y') (c1 : 53 ≤ g) (c2 : B1 + B2 ≤ n * 2 ^ b) (c3 : n ≤ 2 ^ 52) (c4 : n * 2 ^ b ≤ 2 ^ c) (c5 : c + k ≤ 2040) :
    SG k g (n * 2 ^ b) (fop .sub x y) (fop .sub x' y') := by
  have key : ∃ z z', SG k g B2 z z' ∧ fop .sub x y = fop .add x z ∧ fop .sub x' y' = fop .add x' z' := by
    have op : ∀ (u : Option Nat) (t : Bool) (q : Nat), q / 2 ^ 52 ≤ 2046 → (q = 0 ∨ 1 ≤ q / 2 ^ 52) → fop .sub u (some (W t q)) = fop .add u (some (W (!t) q)) := by
      intro u t q h h1
      cases u with
      | none => rw [none_l, none_l]
      | some u => rw [keys, keya, sub_add u t q h h1]
    rcases hy with ⟨rfl, rfl⟩ | ⟨t, rfl, rfl⟩ | ⟨t, q, rfl, rfl, b1, b2, b3⟩
    · exact ⟨none, none, .inl ⟨rfl, rfl⟩, by rw [none_r, none_r], by rw [none_r, none_r]⟩
    · exact ⟨_, _, .inr (.inl ⟨!t, rfl, rfl⟩), op x t 0 (by omega) (.inl rfl), op x' t 0 (by omega) (.inl rfl)⟩
    · have h6 := Nat.le_trans (V_low q) (Nat.le_trans b3 (Nat.le_trans (Nat.le_add_left _ _) (Nat.le_trans c2 c4)))
      have h7 := (Nat.pow_le_pow_iff_right (by omega : 1 < 2)).1 h6
      exact ⟨_, _, .inr (.inr ⟨!t, q, rfl, rfl, b1, b2, b3⟩), op x t q (by omega) (.inr b1), op x' t _ (by omega) (.inr (by omega))⟩
  obtain ⟨z, z', h, e1, e2⟩ := key
  rw [e1, e2]
  exact SG.add hx h c1 c2 c3 c4 c5
end Go.Proofs.Qxb6605746aFmt.P4
