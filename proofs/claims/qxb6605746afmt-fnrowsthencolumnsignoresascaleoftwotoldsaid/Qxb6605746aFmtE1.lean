import Derived.Test.Qxb6605746aFmtB6
set_option linter.unusedVariables false
set_option linter.unusedSimpArgs false
namespace Go.Proofs.Qxb6605746aFmt.E1
open Go.RowKit Go.Proofs.Qxb6605746aFmt.P1 Go.Proofs.Qxb6605746aFmt.P3 Go.Proofs.Qxb6605746aFmt.P7 Go.Proofs.Qxb6605746aFmt.A1 Go.Proofs.Qxb6605746aFmt.A2 Go.Proofs.Qxb6605746aFmt.A3 Go.Proofs.Qxb6605746aFmt.A4 Go.Proofs.Qxb6605746aFmt.A5 Go.Proofs.Qxb6605746aFmt.A6 Go.Proofs.Qxb6605746aFmt.A7 Go.Proofs.Qxb6605746aFmt.A8 Go.Proofs.Qxb6605746aFmt.A9 Go.Proofs.Qxb6605746aFmt.B1 Go.Proofs.Qxb6605746aFmt.B3 Go.Proofs.Qxb6605746aFmt.B6

theorem ib_frozen {w : World} {b : Nat} {zs : List Int} (h : IB w b zs) (j : Nat) : w.frozen? ⟨b, j, none⟩ = false := frozen_of_row w b j _ _ h
theorem ib_set {w : World} {b : Nat} {zs : List Int} (h : IB w b zs) (j : Nat) (r : Int) : IB (w.setCell ⟨b, j, none⟩ (.int .i64 r)) b (zs.set j r) := by
  unfold IB
  rw [heap_setCell_same _ _ _ _ _ _ h]
  congr 2
  apply Array.toList_inj.1
  simp
theorem getDi_set (ys : List Int) (k : Nat) (r : Int) (j : Nat) (hk : k < ys.length) : (ys.set k r).getD j 0 = if j = k then r else ys.getD j 0 := by
  simp only [List.getD_eq_getElem?_getD, List.getElem?_set]
  by_cases e : k = j
  · subst e; simp [hk]
  · rw [if_neg e, if_neg (by omega)]
theorem made_ib {w : World} {B g n : Nat} (h : w.ownsRow B 3 1 (.slice (some ⟨g, 0, none⟩) n n) n (madeCells (Value.cells (.int .i64 0)) (n * 1)).toList) : IB w g (List.replicate n 0) := by
  have := own_block h
  unfold IB
  rw [this]
  congr 3
  have e : (madeCells (Value.cells (.int .i64 0)) (n * 1)).toList = List.replicate n (Value.int .i64 0) := by
    rw [← toList_madeCells_one]
    simp [Value.cells]
  rw [e]
  simp
theorem made_fb {w : World} {B g n : Nat} (h : w.ownsRow B 23 1 (.slice (some ⟨g, 0, none⟩) n n) n (madeCells (Value.cells (.float .f64 0)) (n * 1)).toList) : FB w g (List.replicate n 0) := by
  have := own_block h
  unfold FB
  rw [this]
  congr 3
  have e : (madeCells (Value.cells (.float .f64 0)) (n * 1)).toList = List.replicate n (Value.float .f64 0) := by
    rw [← toList_madeCells_one]
    simp [Value.cells]
  rw [e]
  simp

/-- The rows' counts: whole ahead of i, of row i the first j. -/
def RP (R C : Nat) (X : Nat → Nat → Option Nat) (i j : Nat) (RN : List Int) : Prop :=
  RN.length = R ∧ (∀ a, a < i → 0 ≤ RN.getD a 0 ∧ RN.getD a 0 ≤ C ∧ (RN.getD a 0 = 0 → ∀ b, b < C → X a b = none)) ∧ (0 ≤ RN.getD i 0 ∧ RN.getD i 0 ≤ j ∧ (RN.getD i 0 = 0 → ∀ b, b < j → X i b = none)) ∧ ∀ a, i < a → RN.getD a 0 = 0
def CP (C i j : Nat) (CN : List Int) : Prop := CN.length = C ∧ ∀ b, 0 ≤ CN.getD b 0 ∧ (b < j → CN.getD b 0 ≤ i + 1) ∧ (j ≤ b → CN.getD b 0 ≤ i)

theorem rep0 (n j : Nat) : (List.replicate n (0 : Int)).getD j 0 = 0 := by
  simp only [List.getD_eq_getElem?_getD, List.getElem?_replicate]
  split <;> rfl
theorem RP.start {R C : Nat} {X : Nat → Nat → Option Nat} : RP R C X 0 0 (List.replicate R 0) :=
  ⟨by simp, fun a ha => by omega, ⟨by rw [rep0]; omega, by rw [rep0]; omega, fun _ b hb => by omega⟩, fun a _ => rep0 _ _⟩
theorem CP.start {C : Nat} : CP C 0 0 (List.replicate C 0) := ⟨by simp, fun b => ⟨by rw [rep0]; omega, fun h => by omega, fun _ => by rw [rep0]; omega⟩⟩
theorem RP.skip {R C i j : Nat} {X : Nat → Nat → Option Nat} {RN : List Int} (h : RP R C X i j RN) (hx : X i j = none) : RP R C X i (j + 1) RN := by
  obtain ⟨h1, h2, ⟨h3, h4, h5⟩, h6⟩ := h
  refine ⟨h1, h2, ⟨h3, by omega, fun h0 b hb => ?_⟩, h6⟩
  by_cases e : b = j
  · subst e; exact hx
  · exact h5 h0 b (by omega)
theorem RP.put {R C i j : Nat} {X : Nat → Nat → Option Nat} {RN : List Int} (h : RP R C X i j RN) (hi : i < R) : RP R C X i (j + 1) (RN.set i (RN.getD i 0 + 1)) := by
  obtain ⟨h1, h2, ⟨h3, h4, h5⟩, h6⟩ := h
  have g := fun k => getDi_set RN i (RN.getD i 0 + 1) k (by omega)
  refine ⟨by simp [h1], fun a ha => ?_, ?_, fun a ha => ?_⟩
  · rw [g a, if_neg (by omega)]; exact h2 a ha
  · rw [g i, if_pos rfl]; exact ⟨by omega, by omega, fun h0 => by omega⟩
  · rw [g a, if_neg (by omega)]; exact h6 a ha
theorem RP.row {R C i : Nat} {X : Nat → Nat → Option Nat} {RN : List Int} (h : RP R C X i C RN) : RP R C X (i + 1) 0 RN := by
  obtain ⟨h1, h2, h3, h6⟩ := h
  refine ⟨h1, fun a ha => ?_, ?_, fun a ha => h6 a (by omega)⟩
  · by_cases e : a = i
    · subst e; exact h3
    · exact h2 a (by omega)
  · rw [h6 (i + 1) (by omega)]
    exact ⟨by omega, by omega, fun _ b hb => by omega⟩
theorem CP.skip {C i j : Nat} {CN : List Int} (h : CP C i j CN) : CP C i (j + 1) CN :=
  ⟨h.1, fun b => ⟨(h.2 b).1, fun hb => by
    by_cases e : b < j
    · exact (h.2 b).2.1 e
    · have := (h.2 b).2.2 (by omega); omega, fun hb => (h.2 b).2.2 (by omega)⟩⟩
theorem CP.put {C i j : Nat} {CN : List Int} (h : CP C i j CN) (hj : j < C) : CP C i (j + 1) (CN.set j (CN.getD j 0 + 1)) := by
  obtain ⟨h1, h2⟩ := h
  have g := fun k => getDi_set CN j (CN.getD j 0 + 1) k (by omega)
  refine ⟨by simp [h1], fun b => ?_⟩
  rw [g b]
  by_cases e : b = j
  · subst e
    rw [if_pos rfl]
    have := h2 b
    exact ⟨by omega, fun _ => by have := this.2.2 (Nat.le_refl _); omega, fun hb => by omega⟩
  · rw [if_neg e]
    exact ⟨(h2 b).1, fun hb => (h2 b).2.1 (by omega), fun hb => (h2 b).2.2 (by omega)⟩
theorem CP.row {C i : Nat} {CN : List Int} (h : CP C i C CN) : CP C (i + 1) 0 CN :=
  ⟨h.1, fun b => ⟨(h.2 b).1, fun hb => by omega, fun _ => by
    by_cases e : b < C
    · have := (h.2 b).2.1 e; omega
    · have := (h.2 b).2.2 (by omega); omega⟩⟩

set_option maxRecDepth 100000 in
set_option maxHeartbeats 1000000 in
theorem counts10 (p : Option Addr) (L R C cb : Nat) (xs : List Nat) (w : World) (hc : Hid (CS w p L cb xs)) (hR : R ≤ 65536) (hC : C ≤ 65536) (hL : R * C = L) :
    Calls Tryf.prog 10 #[.slice p L L, .int .i64 (R : Int), .int .i64 (C : Int)] w fun e w' => ∃ rn cn RN CN, e = .returned (.tuple #[.slice (some ⟨rn, 0, none⟩) R R, .slice (some ⟨cn, 0, none⟩) C C]) ∧ w.heap.size ≤ rn ∧ rn < cn ∧ cn < w'.heap.size ∧ IB w' rn RN ∧ IB w' cn CN ∧ RP R C (fun i j => fnum (xs.getD (i * C + j) 0)) R 0 RN ∧ CP C R 0 CN ∧ Below w.heap.size w w' := by
  obtain ⟨i0, hi, hz0, hz1, hz2⟩ := info_parts info3
  have hL2 : Hid (L ≤ 1048576) := hc.out.2.1
  go_enter Tryf.func10, Tryf.ntmps10
  go_wp2_with (first
    | (at_make; refine wpList_make_full _ rfl _ _ 27 rfl w1.heap.size 3 i0 (.int .i64 0) 1 Tryf.underlying27 hi hz0 hz1 .i64 .i64 _ _ C rfl rfl rfl rfl (by rw [hz2]; omega) (by unfold maxLen; omega) (Nat.le_refl _) ?_; intro w2 hown2 hgrow2; have hb2 : Below w1.heap.size w1 w2 := (Below.refl _ _).grown hgrow2 (Nat.le_refl _) (by simp); have HN2 : Hid (IB w2 w1.heap.size (List.replicate C 0)) := made_ib hown2; have HB2 : Hid (Below w1.heap.size w1 w2) := hb2; clear hown2 hgrow2 hb2)
    | (at_make; refine wpList_make_full _ rfl _ _ 27 rfl w.heap.size 3 i0 (.int .i64 0) 1 Tryf.underlying27 hi hz0 hz1 .i64 .i64 _ _ R rfl rfl rfl rfl (by rw [hz2]; omega) (by unfold maxLen; omega) (Nat.le_refl _) ?_; intro w1 hown1 hgrow1; have hb1 : Below w.heap.size w w1 := (Below.refl _ _).grown hgrow1 (Nat.le_refl _) (by simp); have HN1 : Hid (IB w1 w.heap.size (List.replicate R 0)) := made_ib hown1; have HB1 : Hid (Below w.heap.size w w1) := hb1; clear hown1 hgrow1 hb1))
  obtain ⟨rn, hrn⟩ : ∃ rn, w.heap.size = rn := ⟨_, rfl⟩
  obtain ⟨cn, hcn⟩ : ∃ cn, w1.heap.size = cn := ⟨_, rfl⟩
  have HS : Hid (w.heap.size ≤ rn ∧ rn < cn ∧ cn < w2.heap.size ∧ IB w2 rn (List.replicate R 0) ∧ IB w2 cn (List.replicate C 0) ∧ Below w.heap.size w w2) := (by
    refine ⟨by omega, ?_, ?_, ?_, ?_, HB1.out.trans (HB2.out.mono HB1.out.size)⟩
    · have := HN1.out.lt; omega
    · have := HN2.out.lt; omega
    · rw [← hrn]; exact HN1.out.below HB2.out
    · rw [← hcn]; exact HN2.out : w.heap.size ≤ rn ∧ rn < cn ∧ cn < w2.heap.size ∧ IB w2 rn (List.replicate R 0) ∧ IB w2 cn (List.replicate C 0) ∧ Below w.heap.size w w2)
  rw [hrn, hcn]
  clear HN1 HN2 HB1 HB2 hrn hcn
  have HC2 : Hid (CS w2 p L cb xs ∧ (0 < L → cb ≠ rn ∧ cb ≠ cn)) := (by
    obtain ⟨k1, k2, k3⟩ := hc.out
    refine ⟨⟨k1, k2, ?_⟩, fun h => ?_⟩
    · rcases k3 with k | ⟨k, k'⟩
      · exact .inl k
      · exact .inr ⟨k, k'.below HS.out.2.2.2.2.2⟩
    · rcases k3 with ⟨_, k⟩ | ⟨k, k'⟩
      · omega
      · have := k'.lt
        have := HS.out
        omega : CS w2 p L cb xs ∧ (0 < L → cb ≠ rn ∧ cb ≠ cn))
  go_loopw [10] (fun v10 wx => ∃ i : Nat, i ≤ R ∧ v10 = .int .i64 i ∧ ∃ RN CN, IB wx rn RN ∧ IB wx cn CN ∧ RP R C (fun i j => fnum (xs.getD (i * C + j) 0)) i 0 RN ∧ CP C i 0 CN ∧ Oth2 rn cn w2 wx) (fun v10 _ => R - (intOf v10).toNat)
  case atStart => exact ⟨0, Nat.zero_le _, rfl, _, _, HS.out.2.2.2.1, HS.out.2.2.2.2.1, RP.start, CP.start, Oth2.refl _ _ _⟩
  case round =>
    obtain ⟨i, hiR, rfl, RN, CN, h1, h2, h3, h4, hO⟩ := hrel
    have H1 : Hid (IB wr rn RN ∧ IB wr cn CN ∧ RP R C (fun i j => fnum (xs.getD (i * C + j) 0)) i 0 RN ∧ CP C i 0 CN ∧ Oth2 rn cn w2 wr) := ⟨h1, h2, h3, h4, hO⟩
    clear h1 h2 h3 h4 hO
    by_cases hlt : i < R
    · go_wp2
      go_loopw [11] (fun v11 wx => ∃ j : Nat, j ≤ C ∧ v11 = .int .i64 j ∧ ∃ RN CN, IB wx rn RN ∧ IB wx cn CN ∧ RP R C (fun i j => fnum (xs.getD (i * C + j) 0)) i j RN ∧ CP C i j CN ∧ Oth2 rn cn w2 wx) (fun v11 _ => C - (intOf v11).toNat)
      case atStart => exact ⟨0, Nat.zero_le _, rfl, RN, CN, H1.out⟩
      case round =>
        clear H1
        obtain ⟨j, hjC, rfl, RN, CN, h1, h2, h3, h4, hO⟩ := hrel
        have H1 : Hid (IB wr rn RN ∧ IB wr cn CN ∧ RP R C (fun i j => fnum (xs.getD (i * C + j) 0)) i j RN ∧ CP C i j CN ∧ Oth2 rn cn w2 wr) := ⟨h1, h2, h3, h4, hO⟩
        by_cases hjl : j < C
        · have q8 : (i + 1) * C ≤ R * C := Nat.mul_le_mul_right _ hlt
          have q9 : (i + 1) * C = i * C + C := by rw [Nat.add_mul, Nat.one_mul]
          obtain ⟨k1, k2, k3⟩ := HC2.out.1
          have hd := HC2.out.2 (by omega)
          rcases k3 with ⟨_, k3⟩ | ⟨k3, hF⟩
          · exfalso; omega
          subst k3
          have kx := (show FB wr cb xs from (hO.2.2.2.2 cb hF.lt hd.1 hd.2).trans hF).cell (i * C + j) (by omega)
          have kr := h1.cell i (by have := h3.1; omega)
          have kc := h2.cell j (by have := h4.1; omega)
          have fr := ib_frozen h1 i
          have fc := ib_frozen h2 j
          have bc1 := h4.2 j
          have br1 := h3.2.2.1
          obtain ⟨lo, hlo⟩ : ∃ lo, i * C = lo := ⟨_, rfl⟩
          have e1 : (i : Int) * (C : Int) = (lo : Int) := by rw [← Int.natCast_mul, hlo]
          have hlk : lo + j < L := by omega
          obtain ⟨v, hv⟩ : ∃ v, xs.getD (i * C + j) 0 = v := ⟨_, rfl⟩
          rw [hv, hlo] at kx
          obtain ⟨rv, hrv⟩ : ∃ v, RN.getD i 0 = v := ⟨_, rfl⟩
          obtain ⟨cv, hcv⟩ : ∃ v, CN.getD j 0 = v := ⟨_, rfl⟩
          rw [hrv] at kr
          rw [hcv] at kc
          have HV : Hid (xs.getD (i * C + j) 0 = v ∧ RN.getD i 0 = rv ∧ CN.getD j 0 = cv) := ⟨hv, hrv, hcv⟩
          have b1 : 0 ≤ rv ∧ rv ≤ 65536 := by rw [← hrv]; omega
          have b2 : 0 ≤ cv ∧ cv ≤ 65536 := by rw [← hcv]; have := bc1.2.2 (Nat.le_refl _); omega
          have hne : rn ≠ cn := by have := HS.out; omega
          have hne2 : cn ≠ rn := by omega
          have hl2 : L ≤ 1048576 := hL2.out
          clear q8 q9 k1 k2 hF hd hv hrv hcv h1 h2 h3 h4 hO bc1 br1 hlo
          cases hx : fnum v with
          | none =>
            have eo := ord_none v v hx
            have HX : Hid ((fun i j => fnum (xs.getD (i * C + j) 0)) i j = none) := (by show fnum _ = none; rw [HV.out.1]; exact hx : (fun i j => fnum (xs.getD (i * C + j) 0)) i j = none)
            go_wp2
            go_roundw
            case rel => exact ⟨j + 1, by omega, by go_num, RN, CN, H1.out.1, H1.out.2.1, H1.out.2.2.1.skip HX.out, H1.out.2.2.2.1.skip, H1.out.2.2.2.2⟩
            case measure => simp [intOf]; omega
          | some v' =>
            have eo := ord_self v
            rw [hx] at eo
            simp only [Option.map_some] at eo
            have u1 : wrap64 (rv + 1) = rv + 1 := by unfold wrap64; omega
            have u2 : wrap64 (cv + 1) = cv + 1 := by unfold wrap64; omega
            have HS1 : Hid (IB (wr.setCell ⟨rn, i, none⟩ (.int .i64 (rv + 1))) cn CN) := (H1.out.2.1.oth (Oth.set (Oth.refl rn wr) i _) hne2)
            have kc2 := HS1.out.cell j (by have := H1.out.2.2.2.1.1; omega)
            have fc2 := ib_frozen HS1.out j
            rw [HV.out.2.2] at kc2
            clear hx
            go_wp2
            go_roundw
            case rel => exact ⟨j + 1, by omega, by go_num, _, _, (ib_set H1.out.1 i (rv + 1)).oth (Oth.set (Oth.refl cn _) j _) hne, ib_set HS1.out j (cv + 1), by have := H1.out.2.2.1.put hlt; rw [HV.out.2.1] at this; exact this, by have := H1.out.2.2.2.1.put hjl; rw [HV.out.2.2] at this; exact this, (H1.out.2.2.2.2.trans (oth_l (Oth.set (Oth.refl rn wr) i _))).trans (oth_r (Oth.set (Oth.refl cn _) j _))⟩
            case measure => simp [intOf]; omega
        · have ej : j = C := by omega
          clear h1 h2 h3 h4 hO
          go_wp2
          go_roundw
          case rel => exact ⟨i + 1, by omega, by go_num, RN, CN, H1.out.1, H1.out.2.1, by have := H1.out.2.2.1; rw [ej] at this; exact this.row, by have := H1.out.2.2.2.1; rw [ej] at this; exact this.row, H1.out.2.2.2.2⟩
          case measure => simp [intOf]; omega
    · have ei : i = R := by omega
      go_wp2
      go_ret2
      exact ⟨rn, cn, RN, CN, rfl, HS.out.1, HS.out.2.1, Nat.lt_of_lt_of_le HS.out.2.2.1 H1.out.2.2.2.2.2.2.2.1, H1.out.1, H1.out.2.1, by have := H1.out.2.2.1; rw [ei] at this; exact this, by have := H1.out.2.2.2.1; rw [ei] at this; exact this, ⟨H1.out.2.2.2.2.1.trans HS.out.2.2.2.2.2.os, H1.out.2.2.2.2.2.1.trans HS.out.2.2.2.2.2.tape, H1.out.2.2.2.2.2.2.1.trans HS.out.2.2.2.2.2.output, Nat.le_trans HS.out.2.2.2.2.2.size H1.out.2.2.2.2.2.2.2.1, fun k hk => (H1.out.2.2.2.2.2.2.2.2 k (Nat.lt_of_lt_of_le hk HS.out.2.2.2.2.2.size) (by have := HS.out; omega) (by have := HS.out; omega)).trans (HS.out.2.2.2.2.2.block k hk)⟩⟩
end Go.Proofs.Qxb6605746aFmt.E1
