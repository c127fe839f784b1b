import Derived.Test.Qxb6605746aFmtE2
set_option linter.unusedVariables false
set_option linter.unusedSimpArgs false
namespace Go.Proofs.Qxb6605746aFmt.E4
open Go.RowKit Go.Extern.Stop Go.Stop Go.Extern Go.Proofs.Qxb6605746aFmt.P1 Go.Proofs.Qxb6605746aFmt.P3 Go.Proofs.Qxb6605746aFmt.P7 Go.Proofs.Qxb6605746aFmt.P8 Go.Proofs.Qxb6605746aFmt.A1 Go.Proofs.Qxb6605746aFmt.A2 Go.Proofs.Qxb6605746aFmt.A3 Go.Proofs.Qxb6605746aFmt.A4 Go.Proofs.Qxb6605746aFmt.A8 Go.Proofs.Qxb6605746aFmt.A9 Go.Proofs.Qxb6605746aFmt.B1 Go.Proofs.Qxb6605746aFmt.B3 Go.Proofs.Qxb6605746aFmt.B6 Go.Proofs.Qxb6605746aFmt.C2 Go.Proofs.Qxb6605746aFmt.C5 Go.Proofs.Qxb6605746aFmt.C6 Go.Proofs.Qxb6605746aFmt.E2

set_option maxRecDepth 100000 in
set_option maxHeartbeats 400000 in
theorem clone9c (a : Option Addr) (n c : Nat) (vs us : List Value) (w : World) (h : IsRow w a n c vs) (hn : n ≤ 1048576) (hus : Hid (us = vs.take n)) (h1 : Hid (∀ v ∈ us, v.oneCell' = true)) :
    Calls Tryf.prog 9 #[.slice a n c] w fun e w' => ∃ p, e = .returned (.slice p n n) ∧ ((p = none ∧ n = 0) ∨ (p = some ⟨w.heap.size, 0, none⟩ ∧ w'.heap[w.heap.size]? = some (.cells us.toArray 23 (0, 0)))) ∧ Below w.heap.size w w' := by
  obtain ⟨i0, hi, hz0, hz1, hz2⟩ := info_parts info23
  have hnil := fun wx a n c => Lib.run_eql_slice_nil (P := Tryf.prog) wx 22 23 a n c 0 0 Tryf.underlying22
  rcases h with ⟨rfl, rfl, rfl, rfl⟩ | ⟨x, rfl, hl, hm, hz, hc⟩
  · go_enter Tryf.func9, Tryf.ntmps9
    go_wp2
    go_ret
    exact ⟨none, rfl, .inl (by simp), Below.refl _ _⟩
  · have hul : us.length = n := by rw [hus.out]; simp; omega
    have hmin : Hid (us.length = Nat.min n n) := (by rw [hul]; simp : us.length = Nat.min n n)
    have HC : Hid (∀ wx, Below w.heap.size w wx → ∀ j v, us[j]? = some v → wx.cell? (x.add j) = some v) := by
      intro wx hb j v hj
      rw [hus.out] at hj
      have hj' : vs[j]? = some v := by
        rw [List.getElem?_take] at hj
        split at hj
        · exact hj
        · cases hj
      exact (hb.cell (by simpa using block_lt_of_cell (hc j v hj'))).trans (hc j v hj')
    clear hc
    go_enter Tryf.func9, Tryf.ntmps9
    go_wp2_with (first
      | (at_make; refine wpList_make_full _ rfl _ _ 22 rfl w.heap.size 23 i0 (.float .f64 0) 1 Tryf.underlying22 hi hz0 hz1 .i64 .i64 _ _ n rfl rfl rfl rfl (by rw [hz2]; omega) (by unfold maxLen; omega) (Nat.le_refl _) ?_; intro w1 hown1 hgrow1; have hbel : Below w.heap.size w w1 := (Below.refl _ _).grown hgrow1 (Nat.le_refl _) (by simp); obtain ⟨Z, hZl, hZ⟩ := made_block hown1; have hfit : Hid (0 + us.length ≤ Z.length) := fit hul hZl.out; clear hown1 hgrow1)
      | (refine wpList_copy_splice rfl _ _ 22 22 rfl 23 Tryf.underlying22 size23 (some ⟨w.heap.size, 0, none⟩) (some x) n n n c (by rfl) (by rfl) w.heap.size 0 Z 23 hZ.out us hmin.out (fun _ => ⟨rfl, x, rfl, HC.out _ hbel⟩) hfit.out h1.out w.heap.size w hbel (Nat.le_refl _) ?_; intro w2 HG2 hB2))
    go_ret
    have he : splice Z 0 us = us := by
      have : Z.length = n := hZl.out
      simp [splice]; omega
    refine ⟨_, rfl, .inr ⟨rfl, ?_⟩, hB2⟩
    rw [← he]; exact HG2.out


theorem shape_pos {n : Nat} {r c : Int} (h0 : 0 < c) (h1 : (n : Int) % c = 0) (h2 : (n : Int) / c = r) : (n : Int) = r * c := by
  have := Int.emod_add_mul_ediv (n : Int) c
  rw [h1, h2, Int.zero_add, Int.mul_comm] at this
  exact this.symm

set_option maxHeartbeats 400000 in
theorem shape8 (n : Nat) (r c : Int) (hn : n ≤ 1048576) (hr : r ≤ 65536) (hc : c ≤ 65536) (w : World) :
    Calls Tryf.prog 8 #[.int .i64 (n : Int), .int .i64 r, .int .i64 c] w fun e w' => ∃ b, e = .returned (.bool b) ∧ (b = true → 0 ≤ r ∧ 0 ≤ c ∧ (n : Int) = r * c) ∧ w' = w := by
  by_cases h1 : 0 ≤ r ∧ 0 ≤ c
  · by_cases h2 : c = 0
    · subst h2
      go_enter Tryf.func8, Tryf.ntmps8
      go_wp2
      all_goals (
        go_ret
        refine ⟨_, rfl, fun h => ?_, rfl⟩
        simp at h
        exact ⟨h1.1, by omega, by omega⟩)
    · have a1 : 0 ≤ (n : Int) / c := Int.ediv_nonneg (by omega) h1.2
      have a2 : (n : Int) / c ≤ n := Int.ediv_le_self _ (by omega)
      have a3 : wrap64 ((n : Int) / c) = (n : Int) / c := by unfold wrap64; omega
      have A3 : Hid (wrap64 ((n : Int) / c) = (n : Int) / c) := a3
      have key : ∀ b : Bool, (b = true → (n : Int) % c = 0 ∧ wrap64 ((n : Int) / c) = r) → (b = true → 0 ≤ r ∧ 0 ≤ c ∧ (n : Int) = r * c) := by
        intro b hb h
        obtain ⟨k1, k2⟩ := hb h
        rw [a3] at k2
        exact ⟨h1.1, h1.2, shape_pos (by omega) k1 k2⟩
      have KEY : Hid (∀ b : Bool, (b = true → (n : Int) % c = 0 ∧ wrap64 ((n : Int) / c) = r) → (b = true → 0 ≤ r ∧ 0 ≤ c ∧ (n : Int) = r * c)) := key
      clear key a1 a2 a3
      go_enter Tryf.func8, Tryf.ntmps8
      go_wp2
      all_goals (
        go_ret
        refine ⟨_, rfl, KEY.out _ (fun h => ?_), rfl⟩
        simp at h
        try simp_all)
  · go_enter Tryf.func8, Tryf.ntmps8
    go_wp2
    all_goals (
      go_ret
      first | (exfalso; omega) | exact .inl ⟨rfl, rfl⟩ | exact ⟨false, rfl, (fun h => by cases h), rfl⟩)

/-- What the test on a cell leaves. -/
def CellOk (x : Nat) : Prop := P2.SG 1 823 (2 ^ 1275) (fnum x) (fop .mul (some P5.two) (fnum x))
theorem cell_nan {x : Nat} (h : fnum x = none) : CellOk x := by
  unfold CellOk
  rw [h]
  exact .inl ⟨rfl, P2.none_r _ _⟩
theorem cell_zero (s : Bool) : CellOk (P2.W s 0) := by
  unfold CellOk
  have h : fnum (P2.W s 0) = some (P2.W s 0) := by cases s <;> decide +kernel
  rw [h]
  exact .inr (.inl ⟨s, rfl, by rw [P5.keym, P5.mul_two_zero]⟩)

/-- The word's sign cleared. -/
theorem cell_norm {s : Bool} {q : Nat} (hq : q ≤ 2047 * 2 ^ 52) (h0 : q ≠ 0) (h1 : Ieee.double.order (P2.W false q) 3706462493325918208 ≠ some .lt) (h2 : Ieee.double.order (P2.W false q) 5507902344274116608 ≠ some .gt) : CellOk (P2.W s q) := by
  unfold CellOk
  have h : fnum (P2.W s q) = some (P2.W s q) := by
    rw [fnum_iff]
    have e : P2.W s q % 2 ^ 63 = q := by
      unfold P2.W Ieee.Format.word
      rw [dSign]
      cases s <;> simp <;> omega
    rw [e, if_pos hq]
  rw [h]
  exact cell_ok s q hq h0 h1 h2
theorem xor_top (q : Nat) (hq : q < 2 ^ 63) : (2 ^ 63 + q) ^^^ 2 ^ 63 = q := by
  apply Nat.eq_of_testBit_eq
  intro i
  rw [Nat.testBit_xor, Nat.testBit_two_pow]
  rcases Nat.lt_trichotomy i 63 with h | h | h
  · rw [Nat.testBit_two_pow_add_gt h]
    have : ¬ 63 = i := by omega
    simp [this]
  · subst h
    rw [Nat.testBit_two_pow_add_eq, Nat.testBit_lt_two_pow hq]
    simp
  · have h64 : 2 ^ 64 ≤ 2 ^ i := Nat.pow_le_pow_right (by omega) (by omega)
    have e1 : (2 ^ 63 + q).testBit i = false := Nat.testBit_lt_two_pow (by omega)
    have e2 : q.testBit i = false := Nat.testBit_lt_two_pow (by omega)
    have : ¬ 63 = i := by omega
    rw [e1, e2]
    simp [this]
theorem neg_W (q : Nat) (hq : q ≤ 2047 * 2 ^ 52) : Op.negFloat .f64 (P2.W true q) = P2.W false q := by
  have e : P2.W true q = 2 ^ 63 + q := by unfold P2.W Ieee.Format.word; rw [dSign]; rfl
  have e2 : P2.W false q = q := by unfold P2.W Ieee.Format.word; simp
  have e3 : 2 ^ (FloatKind.f64.format.exponentBits + FloatKind.f64.format.fractionBits) = 2 ^ 63 := rfl
  unfold Op.negFloat
  rw [e, e2, e3]
  exact xor_top q (by omega)
theorem ord_pos (q : Nat) (hq : q ≤ 2047 * 2 ^ 52) (h0 : q ≠ 0) : FloatKind.f64.format.order (P2.W false q) 0 = some .gt := by
  show Ieee.double.order _ _ = _
  unfold Ieee.Format.order
  rw [P6.read_null]
  by_cases q1 : q < 2 ^ 52
  · rw [P6.read_sub false q q1]; exact P6.gt_pos (by omega) (.inr rfl)
  by_cases q2 : q = 2047 * 2 ^ 52
  · subst q2; rw [P6.read_inf]; simp [Ieee.Datum.order]
  · rw [P2.read_W0 false q (by omega) (by omega)]; exact P6.gt_pos (by omega) (.inr rfl)
theorem ord_neg (q : Nat) (hq : q ≤ 2047 * 2 ^ 52) (h0 : q ≠ 0) : FloatKind.f64.format.order (P2.W true q) 0 = some .lt := by
  have key : ∀ (m : Nat) (i : Int), 0 < m → (Ieee.Datum.number true m i).order (.number false 0 (-1074)) = some .lt := by
    intro m i hm
    simp only [Ieee.Datum.order, P4.signed_zero]
    congr 1
    apply P5.cmp_lt
    rw [P6.st]
    have hp : 0 < m * 2 ^ (i - min i (-1074)).toNat := Nat.mul_pos hm (Nat.two_pow_pos _)
    omega
  show Ieee.double.order _ _ = _
  unfold Ieee.Format.order
  rw [P6.read_null]
  by_cases q1 : q < 2 ^ 52
  · rw [P6.read_sub true q q1]; exact key _ _ (by omega)
  by_cases q2 : q = 2047 * 2 ^ 52
  · subst q2; rw [P6.read_inf]; simp [Ieee.Datum.order]
  · rw [P2.read_W0 true q (by omega) (by omega)]; exact key _ _ (by omega)
theorem ord_zero (s : Bool) : FloatKind.f64.format.order (P2.W s 0) 0 = some .eq := by cases s <;> decide +kernel
end Go.Proofs.Qxb6605746aFmt.E4
