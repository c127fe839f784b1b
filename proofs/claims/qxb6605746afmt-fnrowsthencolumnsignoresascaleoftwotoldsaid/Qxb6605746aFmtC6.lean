import Derived.Test.Qxb6605746aFmtC5
set_option linter.unusedVariables false
set_option linter.unusedSimpArgs false
namespace Go.Proofs.Qxb6605746aFmt.C6
open Go.RowKit Go.Extern.Stop Go.Stop Go.Extern Go.Proofs.Qxb6605746aFmt.P1 Go.Proofs.Qxb6605746aFmt.P3 Go.Proofs.Qxb6605746aFmt.P7 Go.Proofs.Qxb6605746aFmt.P8 Go.Proofs.Qxb6605746aFmt.A1 Go.Proofs.Qxb6605746aFmt.A2 Go.Proofs.Qxb6605746aFmt.A3 Go.Proofs.Qxb6605746aFmt.A4 Go.Proofs.Qxb6605746aFmt.A5 Go.Proofs.Qxb6605746aFmt.A6 Go.Proofs.Qxb6605746aFmt.A7 Go.Proofs.Qxb6605746aFmt.A8 Go.Proofs.Qxb6605746aFmt.A9 Go.Proofs.Qxb6605746aFmt.B1 Go.Proofs.Qxb6605746aFmt.B3 Go.Proofs.Qxb6605746aFmt.B4 Go.Proofs.Qxb6605746aFmt.B5 Go.Proofs.Qxb6605746aFmt.B6 Go.Proofs.Qxb6605746aFmt.B7 Go.Proofs.Qxb6605746aFmt.C1 Go.Proofs.Qxb6605746aFmt.C2 Go.Proofs.Qxb6605746aFmt.C3 Go.Proofs.Qxb6605746aFmt.C4 Go.Proofs.Qxb6605746aFmt.C5

theorem sub5 (A rm rs cm cs cu bf : Nat) : ∀ k, k ∈ [A, rm, rs, cu, bf] → k ∈ [A, rm, rs, cm, cs, cu, bf] := by
  intro k hk
  simp at hk ⊢
  rcases hk with h | h | h | h | h <;> simp [h]
theorem sub5' (A rm rs cm cs cu bf cb : Nat) : ∀ k, k ∈ [A, rm, rs, cu, bf] → k ∈ [A, rm, rs, cm, cs, cu, bf, cb] := by
  intro k hk
  simp at hk ⊢
  rcases hk with h | h | h | h | h <;> simp [h]
theorem sub3 (A rm rs cu bf : Nat) : ∀ k, k ∈ [A, rm, rs] → k ∈ [A, rm, rs, cu, bf] := by
  intro k hk
  simp at hk ⊢
  rcases hk with h | h | h <;> simp [h]

theorem ctx_oth {s : Nat} {w w' : World} {A T rn cn rm rs cm cs cu bf R C rf cf cb L : Nat} {p : Option Addr} {xs RM RD : List Nat} (h : Ctx w A T rn cn rm rs cm cs cu bf R C rf cf cb L p xs RM RD) (ho : Oth s w w') (d1 : A ≠ s) (d2 : T ≠ s) (d3 : cb ≠ s) (d4 : rm ≠ s) (d5 : rs ≠ s) : Ctx w' A T rn cn rm rs cm cs cu bf R C rf cf cb L p xs RM RD :=
  h.step (fun k hk hh => ho.2.2.2.2 k hk (by rcases hh with rfl | rfl | rfl | rfl | rfl <;> assumption))
theorem want_cs {wr : World} {w0 : World} {A T rn cn rm rs cm cs cu bf R C rf cb L : Nat} {p : Option Addr} {xs : List Nat} {RN CN : List Int} {RM RD US bs ms : List Nat} {cf : Nat} (h : L1 w0 wr A T rn cn rm rs cm cs cu bf R C rf cb L p xs RN R RM RD US bs cf) (hq : PartQ C C US CN ms) (j : Nat) (hj : j < C) :
    fnum (ms.getD j 0) = cmOf (XX xs C) (IN RN) (IN CN) R C j ∧ Want xs RM RD ms CN C R j = csOf (XX xs C) (IN RN) (IN CN) R C j := by
  have hy : ∀ i, i < R → Y xs RM RD C i j = yOf (XX xs C) (IN RN) C i j := by
    intro i hi
    obtain ⟨a, b, _⟩ := h.2.1 i hi
    unfold Y yOf
    rw [a, b]
    rfl
  have e1 : fnum (ms.getD j 0) = cmOf (XX xs C) (IN RN) (IN CN) R C j := by
    rw [hq.2.1 j hj, h.2.2.2.1.2.2 j hj]
    rfl
  refine ⟨e1, ?_⟩
  unfold Want csOf
  rw [fsqs_congr R hy (fun i hi => e1)]
  rfl
/-- The state when i rows of the table are replaced. -/
def L2 (w3 wx : World) (R C cb L bf : Nat) (p : Option Addr) (xs : List Nat) (out : Nat → Nat → Option Nat) (i : Nat) (zz bb : List Nat) : Prop :=
  CS wx p L cb zz ∧ (∀ a, a < i → ∀ j, j < C → fnum (zz.getD (a * C + j) 0) = out a j) ∧ (∀ k, i * C ≤ k → zz.getD k 0 = xs.getD k 0) ∧ (FB wx bf bb ∧ bb.length = C) ∧ OL [bf, cb] w3 wx
theorem l2_step {w3 wr w6 : World} {R C cb L bf i : Nat} {p : Option Addr} {xs : List Nat} {out : Nat → Nat → Option Nat} {zz bb ys zz2 : List Nat} {Z : Nat → Option Nat} (h : L2 w3 wr R C cb L bf p xs out i zz bb) (hp : p = some ⟨cb, 0, none⟩) (hF : FB w6 cb zz2) (hR : Rpl (i * C) C zz Z zz2) (hZ : ∀ j, j < C → Z j = out i j) (hB : FB w6 bf ys ∧ ys.length = C) (hO : OL [bf, cb] wr w6) :
    L2 w3 w6 R C cb L bf p xs out (i + 1) zz2 ys := by
  obtain ⟨h1, h2, h3, h4, h5⟩ := h
  have e : (i + 1) * C = i * C + C := by rw [Nat.add_mul, Nat.one_mul]
  refine ⟨⟨hR.1.trans h1.1, h1.2.1, .inr ⟨hp, hF⟩⟩, fun a ha j hj => ?_, fun k hk => ?_, hB, h5.trans hO⟩
  · by_cases ea : a = i
    · subst ea
      rw [hR.2.1 j hj, hZ j hj]
    · have e2 : (a + 1) * C ≤ i * C := Nat.mul_le_mul_right _ (by omega)
      have e3 : (a + 1) * C = a * C + C := by rw [Nat.add_mul, Nat.one_mul]
      rw [hR.2.2 (a * C + j) (.inl (by omega))]
      exact h2 a (by omega) j hj
  · rw [hR.2.2 k (.inr (by omega))]
    exact h3 k (by omega)

def Good (w w' : World) (e : Ending) (A T rn cn rm rs cm cs cu bf R C rf cb L : Nat) (p : Option Addr) (xs : List Nat) (RN CN : List Int) : Prop :=
  rowsOk (XX xs C) (IN RN) R C (fnum rf) ∧ colsOk (XX xs C) (IN RN) (IN CN) R C ∧ (∃ r, e = .returned (.tuple #[.float .f64 r, .pointer none])) ∧ ∃ zs RD CD, CS w' p L cb zs ∧ (∀ i, i < R → ∀ j, j < C → fnum (zs.getD (i * C + j) 0) = outOf (XX xs C) (IN RN) (IN CN) R C i j) ∧
    (FB w' rs RD ∧ RD.length = R ∧ ∀ i, i < R → fnum (RD.getD i 0) = rsOf (XX xs C) (IN RN) C i) ∧ (FB w' cs CD ∧ CD.length = C ∧ ∀ j, j < C → fnum (CD.getD j 0) = csOf (XX xs C) (IN RN) (IN CN) R C j) ∧ OL [A, rm, rs, cm, cs, cu, bf, cb] w w'
def BadR (w w' : World) (e : Ending) (A T rn cn rm rs cm cs cu bf R C rf cb L : Nat) (p : Option Addr) (xs : List Nat) (RN CN : List Int) : Prop :=
  ¬ (rowsOk (XX xs C) (IN RN) R C (fnum rf) ∧ colsOk (XX xs C) (IN RN) (IN CN) R C) ∧ (∃ r q, e = .returned (.tuple #[.float .f64 r, .pointer (some q)])) ∧ CS w' p L cb xs ∧ OL [A, rm, rs, cm, cs, cu, bf] w w'

set_option maxRecDepth 100000 in
set_option maxHeartbeats 4000000 in
theorem rtc28 (F : Interp) (A T rn cn rm rs cm cs cu bf R C rf cf0 cb L : Nat) (p : Option Addr) (xs RM0 RD0 CM0 CD0 U0 B0 : List Nat) (RN CN : List Int) (w : World) (hR : R ≤ 65536) (hC : C ≤ 65536) (hL : R * C = L) (hF : Hid (F.answers w.tape))
    (hX : Hid (Ctx w A T rn cn rm rs cm cs cu bf R C rf cf0 cb L p xs RM0 RD0)) (hU : FB w cu U0) (hUl : U0.length = C) (hM : Hid (FB w cm CM0 ∧ CM0.length = C)) (hD : Hid (FB w cs CD0 ∧ CD0.length = C)) (hB : FB w bf B0) (hBl : B0.length = C) (hRN : Hid (IB w rn RN ∧ RN.length = R)) (hCN : Hid (IB w cn CN ∧ CN.length = C))
    (hd : Hid (Apart A T rn cn rm rs cm cs cu bf cb)) (hr : Hid (∀ i, i < R → 0 ≤ RN.getD i 0 ∧ RN.getD i 0 ≤ 65536)) (hc : Hid (∀ j, j < C → 0 ≤ CN.getD j 0 ∧ CN.getD j 0 ≤ 65536)) :
    Calls Tryf.prog 28 #[.pointer (some ⟨A, 0, none⟩)] w fun e w' => Good w w' e A T rn cn rm rs cm cs cu bf R C rf cb L p xs RN CN ∨ BadR w w' e A T rn cn rm rs cm cs cu bf R C rf cb L p xs RN CN := by
  obtain ⟨w1, hclr, us0, hu1, hu2, hu3, hu4⟩ := clr w cu C U0 hU hUl
  have hsf := store_float
  have c7 := hX.out.1.c7
  have hX1 : Ctx w1 A T rn cn rm rs cm cs cu bf R C rf cf0 cb L p xs RM0 RD0 := hX.out.step (fun k hk hh => hu4.2.2.2.2 k hk (by rcases hh with rfl | rfl | rfl | rfl | rfl; exact apart_ne hd.out 0 8 (by decide); exact apart_ne hd.out 1 8 (by decide); exact apart_ne hd.out 10 8 (by decide); exact apart_ne hd.out 4 8 (by decide); exact apart_ne hd.out 5 8 (by decide)))
  have k10 := hX1.1.c10
  have kf10 := hX1.1.fz 10
  have hA2 := hX1.1.set10 0
  have s0 := hA2.c0
  have hX2 : Ctx (w1.setCell ⟨A, 10, none⟩ (.float .f64 0)) A T rn cn rm rs cm cs cu bf R C rf 0 cb L p xs RM0 RD0 := ctx_cf hX1 ((Oth.refl A w1).set 10 _) hA2 (apart_ne hd.out 1 0 (by decide)) (apart_ne hd.out 10 0 (by decide)) (apart_ne hd.out 4 0 (by decide)) (apart_ne hd.out 5 0 (by decide))
  have t0 := hX2.2.1.rows
  have HL0 : Hid (L1 w (w1.setCell ⟨A, 10, none⟩ (.float .f64 0)) A T rn cn rm rs cm cs cu bf R C rf cb L p xs RN 0 RM0 RD0 us0 B0 0) := (by
    refine ⟨hX2, fun a ha => by omega, ⟨fnum0, by omega⟩, ⟨hu1.oth ((Oth.refl A w1).set 10 _) (apart_ne hd.out 8 0 (by decide)), hu2, fun j hj => by rw [hu3 j hj, fnum0]; rfl⟩, ⟨(hB.oth hu4 (apart_ne hd.out 9 8 (by decide))).oth ((Oth.refl A w1).set 10 _) (apart_ne hd.out 9 0 (by decide)), hBl⟩, OL.set (OL.of hu4 (by simp)) (by simp) 10 _⟩ : L1 w (w1.setCell ⟨A, 10, none⟩ (.float .f64 0)) A T rn cn rm rs cm cs cu bf R C rf cb L p xs RN 0 RM0 RD0 us0 B0 0)
  clear hX1 hX2 hA2 hu1 hu2 hu3 hu4 hU hUl hB hBl
  go_enter Tryf.func28, Tryf.ntmps28
  go_wp2
  refine wp_gen (fun W => L1 w W A T rn cn rm rs cm cs cu bf R C rf cb L p xs RN 0 RM0 RD0 us0 B0 0) HL0.out ?_
  intro W hW
  have HW : Hid (L1 w W A T rn cn rm rs cm cs cu bf R C rf cb L p xs RN 0 RM0 RD0 us0 B0 0) := hW
  clear hW hclr c7 k10 kf10 s0 t0 HL0
  go_loopw [26] (fun v26 wx => ∃ i : Nat, i ≤ R ∧ v26 = .int .i64 i ∧ ∃ RM RD US bs cf, L1 w wx A T rn cn rm rs cm cs cu bf R C rf cb L p xs RN i RM RD US bs cf) (fun v26 _ => R - (intOf v26).toNat)
  case atStart => exact ⟨0, Nat.zero_le _, rfl, _, _, _, _, _, HW.out⟩
  case round =>
    clear HW
    obtain ⟨i, hi, rfl, RM, RD, US, bs, cf, hl⟩ := hrel
    have HL : Hid (L1 w wr A T rn cn rm rs cm cs cu bf R C rf cb L p xs RN i RM RD US bs cf) := hl
    have HFr : Hid (F.answers wr.tape) := (by rw [hl.2.2.2.2.2.2.1]; exact hF.out : F.answers wr.tape)
    by_cases hlt : i < R
    · have hiC : (i + 1) * C ≤ L := by rw [← hL]; exact Nat.mul_le_mul_right _ hlt
      have c0 := hl.1.1.c0
      have HRN : Hid (IB wr rn RN) := OL.ib hRN.out.1 hl.2.2.2.2.2 (by simp; exact ⟨apart_ne hd.out 2 0 (by decide), apart_ne hd.out 2 4 (by decide), apart_ne hd.out 2 5 (by decide), apart_ne hd.out 2 8 (by decide), apart_ne hd.out 2 9 (by decide)⟩)
      have R33 : Hid (Calls Tryf.prog 33 #[.pointer (some ⟨T, 0, none⟩), .int .i64 (i : Int)] wr fun e w' => ∃ q cap, e = .returned (.slice q C cap) ∧ Dr wr w' ∧ RS wr q C cap cb (i * C) xs) := row_rs T i C L cb R p xs wr hl.1.2.1 hl.1.2.2.1 hiC (by omega)
      have hcr := hr.out i hlt
      obtain ⟨c, hcc⟩ : ∃ c, RN.getD i 0 = c := ⟨_, rfl⟩
      have HC : Hid (RN.getD i 0 = c) := hcc
      have kr := HRN.out.cell i (by have := hRN.out.2; omega)
      rw [hcc] at hcr kr
      have k1 := hl.1.1.c1
      have hcf : cf < 2 ^ 64 := hl.2.2.1.2
      clear hl hcc hiC
      cases hok : P5.ok (rsOf (XX xs C) (IN RN) C i) (fnum rf) with
      | false =>
        have HOK : Hid (P5.ok (rsOf (XX xs C) (IN RN) C i) (fnum rf) = false) := hok
        clear hok
        go_wp2_with (first
          | (go_at_call 33; refine R33.out.mono ?_; rintro e w2 ⟨q, cap, rfl, hd2, hq⟩; have HD2 : Hid (Dr wr w2) := hd2; have HQ : Hid (RS wr q C cap cb (i * C) xs) := hq; have k1' := (HL.out.1.1.below (dr_bel hd2)).c1; have kr' := (HRN.out.below (dr_bel hd2)).cell i (by have := hRN.out.2; omega); rw [HC.out] at kr'; clear hd2 hq)
          | (go_at_call 34; refine (mean34 q C cap cb (i * C) xs c _ (rs_dr HQ.out HD2.out)).mono ?_; rintro e w3 ⟨m, rfl, hm, hd3⟩; have HD3 : Hid (Dr wr w3) := HD2.out.trans hd3; have HMM : Hid (fnum m = rmOf (XX xs C) (IN RN) C i ∧ m < 2 ^ 64) := (⟨by rw [hm.1, ← HC.out]; rfl, hm.2⟩ : fnum m = rmOf (XX xs C) (IN RN) C i ∧ m < 2 ^ 64); clear hm hd3)
          | (go_at_call 35; refine (sd_bad F A T rn cn rm rs cm cs cu bf R C rf cf i R C p L L q C cap cb (i * C) xs RN m w3 (by rw [(dr_bel HD3.out).tape]; exact HFr.out) (HL.out.1.1.below (dr_bel HD3.out)) ((dr_bel HD3.out).block T (lt_of_block HL.out.1.2.1) |>.trans HL.out.1.2.1) (HRN.out.below (dr_bel HD3.out)) hRN.out.2 hlt (by omega) (rs_dr HQ.out HD3.out) HMM.out.2 hcf (by have := hr.out i hlt; omega) (by have := hr.out i hlt; omega) (by rw [HMM.out.1]; exact HOK.out)).mono ?_; rintro e w4 ⟨q2, rfl, hb4⟩))
        go_ret2
        exact .inr ⟨fun h => (by have h1 := h.1 i hlt; rw [HOK.out] at h1; cases h1), ⟨_, _, rfl⟩, (ctx_bel (ctx_bel HL.out.1 (dr_bel HD3.out)) hb4).2.2.1, ((HL.out.2.2.2.2.2.mono (sub5 A rm rs cm cs cu bf)).trans (OL.below (dr_bel HD3.out))).trans (OL.below hb4)⟩
      | true =>
        have HOK : Hid (P5.ok (rsOf (XX xs C) (IN RN) C i) (fnum rf) = true) := hok
        clear hok
        go_wp2_with (first
          | (go_at_call 33; refine R33.out.mono ?_; rintro e w2 ⟨q, cap, rfl, hd2, hq⟩; have HD2 : Hid (Dr wr w2) := hd2; have HQ : Hid (RS wr q C cap cb (i * C) xs) := hq; have k1' := (HL.out.1.1.below (dr_bel hd2)).c1; have kr' := (HRN.out.below (dr_bel hd2)).cell i (by have := hRN.out.2; omega); rw [HC.out] at kr'; clear hd2 hq)
          | (go_at_call 34; refine (mean34 q C cap cb (i * C) xs c _ (rs_dr HQ.out HD2.out)).mono ?_; rintro e w3 ⟨m, rfl, hm, hd3⟩; have HD3 : Hid (Dr wr w3) := HD2.out.trans hd3; have HMM : Hid (fnum m = rmOf (XX xs C) (IN RN) C i ∧ m < 2 ^ 64) := (⟨by rw [hm.1, ← HC.out]; rfl, hm.2⟩ : fnum m = rmOf (XX xs C) (IN RN) C i ∧ m < 2 ^ 64); clear hm hd3)
          | (go_at_call 35; refine (sd_good F A T rn cn rm rs cm cs cu bf R C rf cf i R C p L L q C cap cb (i * C) xs RN m w3 (by rw [(dr_bel HD3.out).tape]; exact HFr.out) (HL.out.1.1.below (dr_bel HD3.out)) ((dr_bel HD3.out).block T (lt_of_block HL.out.1.2.1) |>.trans HL.out.1.2.1) (HRN.out.below (dr_bel HD3.out)) hRN.out.2 hlt (by omega) (rs_dr HQ.out HD3.out) HMM.out.2 hcf (by have := hr.out i hlt; omega) (by have := hr.out i hlt; omega) (by rw [HMM.out.1]; exact HOK.out)).mono ?_; rintro e w4 ⟨sd, v, rfl, hsd, hv, hA4, hO4⟩; have H4 : Hid ((fnum sd = rsOf (XX xs C) (IN RN) C i) ∧ (fnum v = fmax (fnum cf) (fscal (RN.getD i 0) (fnum m) (fnum sd)) ∧ v < 2 ^ 64) ∧ Ctx w4 A T rn cn rm rs cm cs cu bf R C rf v cb L p xs RM RD ∧ Oth A w3 w4) := (⟨by rw [hsd.1, HMM.out.1]; rfl, ⟨by rw [hv.1, hsd.1], hv.2⟩, ctx_cf (ctx_bel HL.out.1 (dr_bel HD3.out)) hO4 hA4 (apart_ne hd.out 1 0 (by decide)) (apart_ne hd.out 10 0 (by decide)) (apart_ne hd.out 4 0 (by decide)) (apart_ne hd.out 5 0 (by decide)), hO4⟩ : (fnum sd = rsOf (XX xs C) (IN RN) C i) ∧ (fnum v = fmax (fnum cf) (fscal (RN.getD i 0) (fnum m) (fnum sd)) ∧ v < 2 ^ 64) ∧ Ctx w4 A T rn cn rm rs cm cs cu bf R C rf v cb L p xs RM RD ∧ Oth A w3 w4); clear hsd hv hA4 hO4))
        have h0 : 0 < C := by
          rcases Nat.eq_zero_or_pos C with h | h
          · exfalso
            have h1 := HOK.out
            unfold rsOf at h1
            rw [h, ok_c0 _ _ _ _ (by have := hr.out i hlt; exact this.1) (by have := hr.out i hlt; exact this.2)] at h1
            cases h1
          · exact h
        have g3 := H4.out.2.2.1.1.c3
        have g4 := H4.out.2.2.1.1.c4
        have gm := H4.out.2.2.1.2.2.2.1.1.cell i (by have := H4.out.2.2.1.2.2.2.1.2; omega)
        have gs := H4.out.2.2.1.2.2.2.2.1.cell i (by have := H4.out.2.2.1.2.2.2.2.2; omega)
        have fm := H4.out.2.2.1.2.2.2.1.1.frozen i
        have fs := H4.out.2.2.1.2.2.2.2.1.frozen i
        have n1 : rm ≠ A := apart_ne hd.out 4 0 (by decide)
        have n2 : rs ≠ A := apart_ne hd.out 5 0 (by decide)
        have n3 : rm ≠ rs := apart_ne hd.out 4 5 (by decide)
        have n4 : rs ≠ rm := apart_ne hd.out 5 4 (by decide)
        generalize RM.getD i 0 = y1 at gm
        generalize RD.getD i 0 = y2 at gs
        clear k1 kr k1' kr' c0 R33
        go_region_held3 (fun w' => w'.cell? ⟨A, 3, none⟩ = some (.slice (some ⟨rm, 0, none⟩) R R) ∧ w'.cell? ⟨A, 4, none⟩ = some (.slice (some ⟨rs, 0, none⟩) R R)) (go_keep) (fail)
        clear g3 g4 gm gs fm fs n1 n2 n3 n4
        go_wp2
        have HP : Hid (Put wr ((w4.setCell ⟨rm, i, none⟩ (.float .f64 m)).setCell ⟨rs, i, none⟩ (.float .f64 sd)) A T rn cn rm rs cm cs cu bf R C rf v cb L i m sd p xs RM RD US bs) := (by
          refine ⟨ctx_rs (ctx_rm H4.out.2.2.1 (apart_ne hd.out 0 4 (by decide)) (apart_ne hd.out 1 4 (by decide)) (apart_ne hd.out 10 4 (by decide)) (apart_ne hd.out 5 4 (by decide))) (apart_ne hd.out 0 5 (by decide)) (apart_ne hd.out 1 5 (by decide)) (apart_ne hd.out 10 5 (by decide)) (apart_ne hd.out 4 5 (by decide)), ?_, ?_, ?_⟩
          · exact (((HL.out.2.2.2.1.1.below (dr_bel HD3.out)).oth H4.out.2.2.2 (apart_ne hd.out 8 0 (by decide))).oth ((Oth.refl rm w4).set i _) (apart_ne hd.out 8 4 (by decide))).oth ((Oth.refl rs _).set i _) (apart_ne hd.out 8 5 (by decide))
          · exact (((HL.out.2.2.2.2.1.1.below (dr_bel HD3.out)).oth H4.out.2.2.2 (apart_ne hd.out 9 0 (by decide))).oth ((Oth.refl rm w4).set i _) (apart_ne hd.out 9 4 (by decide))).oth ((Oth.refl rs _).set i _) (apart_ne hd.out 9 5 (by decide))
          · exact OL.set (OL.set ((OL.below (dr_bel HD3.out)).trans (OL.of H4.out.2.2.2 (by simp))) (by simp) i _) (by simp) i _ : Put wr ((w4.setCell ⟨rm, i, none⟩ (.float .f64 m)).setCell ⟨rs, i, none⟩ (.float .f64 sd)) A T rn cn rm rs cm cs cu bf R C rf v cb L i m sd p xs RM RD US bs)
        refine wp_gen (fun W => Put wr W A T rn cn rm rs cm cs cu bf R C rf v cb L i m sd p xs RM RD US bs) HP.out ?_
        clear HP
        intro W5 hW5
        have HP5 : Hid (Put wr W5 A T rn cn rm rs cm cs cu bf R C rf v cb L i m sd p xs RM RD US bs) := hW5
        have p7 := hW5.1.1.c7
        have R37 : Hid (∀ nn, Calls Tryf.prog 37 #[.pointer (some ⟨A, 0, none⟩), .int .i64 (i : Int)] (W5.drewN nn) fun e w' => ∃ q ys, e = .returned (.slice q C C) ∧ RS w' q C C bf 0 ys ∧ FB w' bf ys ∧ Scl C C (cellsOf xs (i * C)) (fnum ((RM.set i m).getD i 0)) (fnum ((RD.set i sd).getD i 0)) ys ∧ Oth bf W5 w') := fun nn => srow37 A T rn cn rm rs cm cs cu bf R C rf v i cb L R p xs _ _ bs (W5.drewN nn) hW5.1.1 hW5.1.2.1 hW5.1.2.2.1 (by rw [← hL]; exact Nat.mul_le_mul_right _ hlt) hlt (by omega) hW5.1.2.2.2.1.1 hW5.1.2.2.2.1.2 hW5.1.2.2.2.2.1 hW5.1.2.2.2.2.2 hW5.2.2.1 HL.out.2.2.2.2.1.2 (apart_ne hd.out 0 9 (by decide)) (apart_ne hd.out 1 9 (by decide)) (apart_ne hd.out 10 9 (by decide))
        clear hW5
        go_region_held3 (fun w' => w'.cell? ⟨A, 7, none⟩ = some (.slice (some ⟨cu, 0, none⟩) C C)) (go_keep)
          ((first
            | (go_at_call 37; refine (R37.out _).mono ?_; rintro e w5 ⟨q5, ys, rfl, hq5, hF5, hS5, hO5⟩; obtain ⟨rfl, _, _⟩ := hq5.2.2 h0; have H5 : Hid (FB w5 bf ys ∧ Scl C C (cellsOf xs (i * C)) (fnum ((RM.set i m).getD i 0)) (fnum ((RD.set i sd).getD i 0)) ys ∧ Oth bf W5 w5) := ⟨hF5, hS5, hO5⟩; have p7' := (HP5.out.1.1.oth hO5 (apart_ne hd.out 0 9 (by decide))).c7; have HU5 : Hid (FB w5 cu US) := HP5.out.2.1.oth hO5 (apart_ne hd.out 8 9 (by decide)); clear hq5 hF5 hS5 hO5)
            | (go_at_call 36; refine (addobs36 cu C bf 0 C C US ys _ HU5.out H5.out.1 (apart_ne hd.out 9 8 (by decide)) HL.out.2.2.2.1.2.1 (by have := H5.out.2.1.1; omega) (Nat.le_refl _) (Nat.le_refl _) (by unfold maxLen; omega)).mono ?_; rintro e w6 ⟨rfl, U2, hU2, hP2, hO6⟩; have H6 : Hid (FB w6 cu U2 ∧ Part C C US ys 0 U2 ∧ Oth cu w5 w6) := ⟨hU2, hP2, hO6⟩; have p7'' : w6.cell? ⟨A, 7, none⟩ = some (.slice (some ⟨cu, 0, none⟩) C C) := ((HP5.out.1.1.oth H5.out.2.2 (apart_ne hd.out 0 9 (by decide))).oth hO6 (apart_ne hd.out 0 8 (by decide))).c7; clear hU2 hP2 hO6)))
        clear p7 p7' p7'' R37
        go_wp2
        go_roundw
        case rel => exact ⟨i + 1, by omega, by go_num, _, _, _, _, _, l1_step HL.out hlt HMM.out.1 H4.out.1 HOK.out H4.out.2.1 (ctx_oth (ctx_oth HP5.out.1 H5.out.2.2 (apart_ne hd.out 0 9 (by decide)) (apart_ne hd.out 1 9 (by decide)) (apart_ne hd.out 10 9 (by decide)) (apart_ne hd.out 4 9 (by decide)) (apart_ne hd.out 5 9 (by decide))) H6.out.2.2 (apart_ne hd.out 0 8 (by decide)) (apart_ne hd.out 1 8 (by decide)) (apart_ne hd.out 10 8 (by decide)) (apart_ne hd.out 4 8 (by decide)) (apart_ne hd.out 5 8 (by decide))) H6.out.1 H5.out.2.1 H6.out.2.1 (H5.out.1.oth H6.out.2.2 (apart_ne hd.out 9 8 (by decide))) (((HP5.out.2.2.2.mono (sub3 A rm rs cu bf)).trans (OL.of H5.out.2.2 (by simp))).trans (OL.of H6.out.2.2 (by simp)))⟩
        case measure => simp [intOf]; omega
    · have ei : i = R := by omega
      have HLR : Hid (L1 w wr A T rn cn rm rs cm cs cu bf R C rf cb L p xs RN R RM RD US bs cf) := (by rw [← ei]; rw [← ei] at hl; exact hl : L1 w wr A T rn cn rm rs cm cs cu bf R C rf cb L p xs RN R RM RD US bs cf)
      have HCM : Hid (FB wr cm CM0 ∧ FB wr cs CD0 ∧ IB wr cn CN) := ⟨OL.fb hM.out.1 hl.2.2.2.2.2 (by simp; exact ⟨apart_ne hd.out 6 0 (by decide), apart_ne hd.out 6 4 (by decide), apart_ne hd.out 6 5 (by decide), apart_ne hd.out 6 8 (by decide), apart_ne hd.out 6 9 (by decide)⟩), OL.fb hD.out.1 hl.2.2.2.2.2 (by simp; exact ⟨apart_ne hd.out 7 0 (by decide), apart_ne hd.out 7 4 (by decide), apart_ne hd.out 7 5 (by decide), apart_ne hd.out 7 8 (by decide), apart_ne hd.out 7 9 (by decide)⟩), OL.ib hCN.out.1 hl.2.2.2.2.2 (by simp; exact ⟨apart_ne hd.out 3 0 (by decide), apart_ne hd.out 3 4 (by decide), apart_ne hd.out 3 5 (by decide), apart_ne hd.out 3 8 (by decide), apart_ne hd.out 3 9 (by decide)⟩)⟩
      have HRO : Hid (rowsOk (XX xs C) (IN RN) R C (fnum rf)) := fun a ha => (HLR.out.2.1 a ha).2.2
      have M38 : Hid (Calls Tryf.prog 38 #[.pointer (some ⟨A, 0, none⟩)] wr fun e w' => e = .returned (.tuple #[]) ∧ ∃ ms, FB w' cm ms ∧ PartQ C C US CN ms ∧ Oth cm wr w') := mos38 A T rn cn rm rs cm cs cu bf R C rf cf CM0 US CN wr hC HLR.out.1.1 HCM.out.1 hM.out.2 HLR.out.2.2.2.1.1 HLR.out.2.2.2.1.2.1 HCM.out.2.2 hCN.out.2 (apart_ne hd.out 6 8 (by decide)) (apart_ne hd.out 0 6 (by decide)) (apart_ne hd.out 3 6 (by decide))
      clear hl ei HL
      go_wp2_with (go_at_call 38; refine M38.out.mono ?_; rintro e w2 ⟨rfl, ms, hm1, hm2, hm3⟩)
      have HX2 : Hid (Ctx w2 A T rn cn rm rs cm cs cu bf R C rf cf cb L p xs RM RD) := ctx_oth HLR.out.1 hm3 (apart_ne hd.out 0 6 (by decide)) (apart_ne hd.out 1 6 (by decide)) (apart_ne hd.out 10 6 (by decide)) (apart_ne hd.out 4 6 (by decide)) (apart_ne hd.out 5 6 (by decide))
      have HM2 : Hid (FB w2 cm ms ∧ PartQ C C US CN ms ∧ Oth cm wr w2) := ⟨hm1, hm2, hm3⟩
      have HF2 : Hid (F.answers w2.tape) := (by rw [hm3.2.1]; exact HFr.out : F.answers w2.tape)
      clear hm1 hm2 hm3 M38
      by_cases h0 : 0 < C
      · refine (fit39 F A T rn cn rm rs cm cs cu bf R C rf cf cb L p xs RM RD ms CD0 bs CN w2 h0 hR hC (by omega) HF2.out HX2.out HM2.out.1 HM2.out.2.1.1 (HCM.out.2.2.oth HM2.out.2.2 (apart_ne hd.out 3 6 (by decide))) hCN.out.2 (HCM.out.2.1.oth HM2.out.2.2 (apart_ne hd.out 7 6 (by decide))) hD.out.2 (HLR.out.2.2.2.2.1.1.oth HM2.out.2.2 (apart_ne hd.out 9 6 (by decide))) HLR.out.2.2.2.2.1.2 hd (fun j hj => by have := hc.out j hj; omega)).mono ?_
        rintro e w3 (⟨h1, rfl, zs, ys, rf', hz1, hz2, hz3, ⟨hz4, hz5⟩, hz6, hz7⟩ | ⟨⟨j, hj, hj2⟩, ⟨q, rfl⟩, hO3⟩)
        · have HCO : Hid (colsOk (XX xs C) (IN RN) (IN CN) R C) := (fun j hj => by have := h1 j hj; rw [(want_cs HLR.out HM2.out.2.1 j hj).2, HLR.out.2.2.1.1] at this; exact this)
          have HZ : Hid (FB w3 cs zs ∧ zs.length = C ∧ (∀ j, j < C → fnum (zs.getD j 0) = csOf (XX xs C) (IN RN) (IN CN) R C j) ∧ FB w3 cm ms) := ⟨hz1, hz2, fun j hj => by rw [hz3 j hj, (want_cs HLR.out HM2.out.2.1 j hj).2], OL.fb HM2.out.1 hz7 (by simp; exact ⟨apart_ne hd.out 6 0 (by decide), apart_ne hd.out 6 7 (by decide), apart_ne hd.out 6 9 (by decide)⟩)⟩
          have HX3 : Hid (Ctx w3 A T rn cn rm rs cm cs cu bf R C rf' cf cb L p xs RM RD) := (by
            obtain ⟨_, x2, ⟨x3, x4, x5⟩, ⟨x6, x7⟩, x8, x9⟩ := HX2.out
            refine ⟨hz6, OL.tb x2 hz7 (by simp; exact ⟨apart_ne hd.out 1 0 (by decide), apart_ne hd.out 1 7 (by decide), apart_ne hd.out 1 9 (by decide)⟩), ⟨x3, x4, ?_⟩, ⟨OL.fb x6 hz7 (by simp; exact ⟨apart_ne hd.out 4 0 (by decide), apart_ne hd.out 4 7 (by decide), apart_ne hd.out 4 9 (by decide)⟩), x7⟩, OL.fb x8 hz7 (by simp; exact ⟨apart_ne hd.out 5 0 (by decide), apart_ne hd.out 5 7 (by decide), apart_ne hd.out 5 9 (by decide)⟩), x9⟩
            rcases x5 with x5 | ⟨x5, x10⟩
            · exact .inl x5
            · exact .inr ⟨x5, OL.fb x10 hz7 (by simp; exact ⟨apart_ne hd.out 10 0 (by decide), apart_ne hd.out 10 7 (by decide), apart_ne hd.out 10 9 (by decide)⟩)⟩ : Ctx w3 A T rn cn rm rs cm cs cu bf R C rf' cf cb L p xs RM RD)
          have HO3 : Hid (OL [A, rm, rs, cm, cs, cu, bf, cb] w w3) := ((HLR.out.2.2.2.2.2.mono (sub5' A rm rs cm cs cu bf cb)).trans (OL.of HM2.out.2.2 (by simp))).trans (hz7.mono (by intro k hk; simp at hk ⊢; rcases hk with h | h | h <;> simp [h]))
          have HL2 : Hid (L2 w3 w3 R C cb L bf p xs (outOf (XX xs C) (IN RN) (IN CN) R C) 0 xs ys) := ⟨HX3.out.2.2.1, fun a ha => by omega, fun _ _ => rfl, ⟨hz4, hz5⟩, OL.refl _ _⟩
          have c0 := HX3.out.1.c0
          have t0 := HX3.out.2.1.rows
          clear h1 hz1 hz2 hz3 hz4 hz5 hz6 hz7
          go_wp2
          go_loopw [10, 94] (fun v10 v94 wx => ∃ i s : Nat, i ≤ R ∧ v94 = .int .i64 i ∧ v10 = .float .f64 s ∧ ∃ zz bb, L2 w3 wx R C cb L bf p xs (outOf (XX xs C) (IN RN) (IN CN) R C) i zz bb) (fun _ v94 _ => R - (intOf v94).toNat)
          case atStart => exact ⟨0, 0, Nat.zero_le _, rfl, rfl, xs, ys, HL2.out⟩
          case round =>
            clear HL2 c0 t0
            obtain ⟨i, s, hi, rfl, rfl, zz, bb, hl2⟩ := hrel
            have HL2 : Hid (L2 w3 wr R C cb L bf p xs (outOf (XX xs C) (IN RN) (IN CN) R C) i zz bb) := hl2
            clear hl2
            by_cases hlt : i < R
            · have hiC : (i + 1) * C ≤ L := by rw [← hL]; exact Nat.mul_le_mul_right _ hlt
              have hC1 : (i + 1) * C = i * C + C := by rw [Nat.add_mul, Nat.one_mul]
              have HXr : Hid (Ctx wr A T rn cn rm rs cm cs cu bf R C rf' cf cb L p zz RM RD ∧ FB wr cb zz ∧ p = some ⟨cb, 0, none⟩) := (by
                obtain ⟨x1, x2, _, ⟨x6, x7⟩, x8, x9⟩ := HX3.out
                have ho := HL2.out.2.2.2.2
                obtain ⟨y1, y2, y3⟩ := HL2.out.1
                have y4 : p = some ⟨cb, 0, none⟩ ∧ FB wr cb zz := by
                  rcases y3 with ⟨_, y3⟩ | y3
                  · exfalso; omega
                  · exact y3
                exact ⟨⟨(ho.2.2.2.2 A (lt_of_block x1) (by simp; exact ⟨apart_ne hd.out 0 9 (by decide), apart_ne hd.out 0 10 (by decide)⟩)).trans x1, OL.tb x2 ho (by simp; exact ⟨apart_ne hd.out 1 9 (by decide), apart_ne hd.out 1 10 (by decide)⟩), HL2.out.1, ⟨OL.fb x6 ho (by simp; exact ⟨apart_ne hd.out 4 9 (by decide), apart_ne hd.out 4 10 (by decide)⟩), x7⟩, OL.fb x8 ho (by simp; exact ⟨apart_ne hd.out 5 9 (by decide), apart_ne hd.out 5 10 (by decide)⟩), x9⟩, y4.2, y4.1⟩ : Ctx wr A T rn cn rm rs cm cs cu bf R C rf' cf cb L p zz RM RD ∧ FB wr cb zz ∧ p = some ⟨cb, 0, none⟩)
              have HMr : Hid (FB wr cm ms ∧ FB wr cs zs) := ⟨OL.fb HZ.out.2.2.2 HL2.out.2.2.2.2 (by simp; exact ⟨apart_ne hd.out 6 9 (by decide), apart_ne hd.out 6 10 (by decide)⟩), OL.fb HZ.out.1 HL2.out.2.2.2.2 (by simp; exact ⟨apart_ne hd.out 7 9 (by decide), apart_ne hd.out 7 10 (by decide)⟩)⟩
              have R33 : Hid (Calls Tryf.prog 33 #[.pointer (some ⟨T, 0, none⟩), .int .i64 (i : Int)] wr fun e w' => ∃ q cap, e = .returned (.slice q C cap) ∧ Dr wr w' ∧ RS wr q C cap cb (i * C) zz) := row_rs T i C L cb R p zz wr HXr.out.1.2.1 HXr.out.1.2.2.1 hiC (by omega)
              have HIC : Hid ((i + 1) * C ≤ L) := hiC
              have c0 := HXr.out.1.1.c0
              clear hiC hC1
              go_wp2_with (first
                | (go_at_call 33; refine R33.out.mono ?_; rintro e w4 ⟨q, cap, rfl, hd4, hq⟩; have HD4 : Hid (Dr wr w4) := hd4; have HQ : Hid (RS w4 q C cap cb (i * C) zz) := rs_dr hq hd4; have HX4 : Hid (Ctx w4 A T rn cn rm rs cm cs cu bf R C rf' cf cb L p zz RM RD) := ctx_bel HXr.out.1 (dr_bel hd4); have HB4 : Hid (FB w4 bf bb) := fb_dr HL2.out.2.2.2.1.1 hd4; clear hd4 hq)
                | (go_at_call 37; refine (srow37 A T rn cn rm rs cm cs cu bf R C rf' cf i cb L R p zz RM RD bb w4 HX4.out.1 HX4.out.2.1 HX4.out.2.2.1 HIC.out hlt (by omega) HX4.out.2.2.2.1.1 HX4.out.2.2.2.1.2 HX4.out.2.2.2.2.1 HX4.out.2.2.2.2.2 HB4.out HL2.out.2.2.2.1.2 (apart_ne hd.out 0 9 (by decide)) (apart_ne hd.out 1 9 (by decide)) (apart_ne hd.out 10 9 (by decide))).mono ?_; rintro e w5 ⟨q5, y5, rfl, hq5, hF5, hS5, hO5⟩; have H5 : Hid (RS w5 q5 C C bf 0 y5 ∧ FB w5 bf y5 ∧ Scl C C (cellsOf zz (i * C)) (fnum (RM.getD i 0)) (fnum (RD.getD i 0)) y5 ∧ Oth bf w4 w5) := ⟨hq5, hF5, hS5, hO5⟩; have HX5 : Hid (Ctx w5 A T rn cn rm rs cm cs cu bf R C rf' cf cb L p zz RM RD) := ctx_oth HX4.out hO5 (apart_ne hd.out 0 9 (by decide)) (apart_ne hd.out 1 9 (by decide)) (apart_ne hd.out 10 9 (by decide)) (apart_ne hd.out 4 9 (by decide)) (apart_ne hd.out 5 9 (by decide)); have HZ5 : Hid (FB w5 cb zz ∧ FB w5 cm ms ∧ FB w5 cs zs) := ⟨(fb_dr HXr.out.2.1 HD4.out).oth hO5 (apart_ne hd.out 10 9 (by decide)), (fb_dr HMr.out.1 HD4.out).oth hO5 (apart_ne hd.out 6 9 (by decide)), (fb_dr HMr.out.2 HD4.out).oth hO5 (apart_ne hd.out 7 9 (by decide))⟩; have HQ5 : Hid (RS w5 q C cap cb (i * C) zz) := ⟨HQ.out.1, HQ.out.2.1, fun h => ⟨(HQ.out.2.2 h).1, HZ5.out.1, (HQ.out.2.2 h).2.2⟩⟩; clear hq5 hF5 hS5 hO5)
                | (go_at_call 40; refine (repl40 A T rn cn rm rs cm cs cu bf R C rf' cf cb (i * C) cap q q5 zz y5 ms zs w5 HX5.out.1 HQ5.out H5.out.1 HZ5.out.2.1 HM2.out.2.1.1 HZ5.out.2.2 HZ.out.2.1 HZ5.out.1 (apart_ne hd.out 0 10 (by decide)) (apart_ne hd.out 9 10 (by decide)) (apart_ne hd.out 6 10 (by decide)) (apart_ne hd.out 7 10 (by decide))).mono ?_; rintro e w6 ⟨r, zz2, rfl, hF6, hR6, hO6⟩; obtain ⟨t, w7, e7, f7, d7⟩ := fstep .add (.inl rfl) s r w6; have H6 : Hid (FB w6 cb zz2 ∧ Rpl (i * C) C zz (fun j => fscaled (fnum (y5.getD j 0)) (fnum (ms.getD j 0)) (fnum (zs.getD j 0))) zz2 ∧ Oth cb w5 w6 ∧ Dr w6 w7) := ⟨hF6, hR6, hO6, d7⟩; clear hF6 hR6 hO6 d7 f7))
              go_roundw
              case rel =>
                refine ⟨i + 1, t, by omega, by go_num, rfl, zz2, y5, l2_step HL2.out HXr.out.2.2 (fb_dr H6.out.1 H6.out.2.2.2) H6.out.2.1 (fun j hj => ?_) ⟨fb_dr (H5.out.2.1.oth H6.out.2.2.1 (apart_ne hd.out 9 10 (by decide))) H6.out.2.2.2, H5.out.2.2.1.1⟩ ((((OL.below (dr_bel HD4.out)).trans (OL.of H5.out.2.2.2 (by simp))).trans (OL.of H6.out.2.2.1 (by simp))).trans (OL.below (dr_bel H6.out.2.2.2)))⟩
                have hy : cellsOf zz (i * C) j = cellsOf xs (i * C) j := by unfold cellsOf; rw [HL2.out.2.2.1 (i * C + j) (by omega)]
                show fscaled (fnum (y5.getD j 0)) (fnum (ms.getD j 0)) (fnum (zs.getD j 0)) = _
                rw [H5.out.2.2.1.2 j hj, (want_cs HLR.out HM2.out.2.1 j hj).1, HZ.out.2.2.1 j hj, hy, (HLR.out.2.1 i hlt).1, (HLR.out.2.1 i hlt).2.1]
                rfl
              case measure => simp [intOf]; omega
            · have ei : i = R := by omega
              go_wp2
              go_ret2
              refine .inl ⟨HRO.out, HCO.out, ⟨_, rfl⟩, zz, RD, zs, HL2.out.1, fun a ha j hj => HL2.out.2.1 a (by omega) j hj, ⟨OL.fb HX3.out.2.2.2.2.1 HL2.out.2.2.2.2 (by simp; exact ⟨apart_ne hd.out 5 9 (by decide), apart_ne hd.out 5 10 (by decide)⟩), HX3.out.2.2.2.2.2, fun a ha => (HLR.out.2.1 a ha).2.1⟩, ⟨OL.fb HZ.out.1 HL2.out.2.2.2.2 (by simp; exact ⟨apart_ne hd.out 7 9 (by decide), apart_ne hd.out 7 10 (by decide)⟩), HZ.out.2.1, HZ.out.2.2.1⟩, HO3.out.trans (HL2.out.2.2.2.2.mono (by intro k hk; simp at hk ⊢; rcases hk with h | h <;> simp [h]))⟩
        · have HJ : Hid (¬ colsOk (XX xs C) (IN RN) (IN CN) R C) := (fun h => by have := h j hj; rw [(want_cs HLR.out HM2.out.2.1 j hj).2, HLR.out.2.2.1.1] at hj2; rw [hj2] at this; cases this)
          go_wp2
          go_ret2
          refine .inr ⟨fun h => HJ.out h.2, ⟨_, _, rfl⟩, ?_, ((HLR.out.2.2.2.2.2.mono (sub5 A rm rs cm cs cu bf)).trans (OL.of HM2.out.2.2 (by simp))).trans (hO3.mono (by intro k hk; simp at hk ⊢; rcases hk with h | h | h <;> simp [h]))⟩
          obtain ⟨x3, x4, x5⟩ := HX2.out.2.2.1
          refine ⟨x3, x4, ?_⟩
          rcases x5 with x5 | ⟨x5, x10⟩
          · exact .inl x5
          · exact .inr ⟨x5, OL.fb x10 hO3 (by simp; exact ⟨apart_ne hd.out 10 0 (by decide), apart_ne hd.out 10 7 (by decide), apart_ne hd.out 10 9 (by decide)⟩)⟩
      · obtain rfl : C = 0 := by omega
        have hR0 : R = 0 := by
          rcases Nat.eq_zero_or_pos R with h | h
          · exact h
          · exfalso
            have h1 := HRO.out 0 h
            unfold rsOf at h1
            rw [ok_c0 (XX xs 0 0) (rmOf (XX xs 0) (IN RN) 0 0) (IN RN 0) (fnum rf) (hr.out 0 h).1 (hr.out 0 h).2] at h1
            cases h1
        have hTz : w2.cell? ⟨T, 0, none⟩ = some (.int .i64 0) := by
          have := HX2.out.2.1.rows
          rw [hR0] at this
          exact this
        have hLz : Hid (R = 0) := hR0
        refine (fit39_zero A T rn cn rm rs cm cs cu bf R rf cf w2 HX2.out.1 hTz (apart_ne hd.out 1 0 (by decide))).mono ?_
        rintro e w3 ⟨rfl, hA3, hO3⟩
        have HX3 : Hid (Ctx w3 A T rn cn rm rs cm cs cu bf R 0 0 cf cb L p xs RM RD) := (by
          obtain ⟨_, x2, ⟨x3, x4, x5⟩, ⟨x6, x7⟩, x8, x9⟩ := HX2.out
          refine ⟨hA3, (hO3.2.2.2.2 T (lt_of_block x2) (apart_ne hd.out 1 0 (by decide))).trans x2, ⟨x3, x4, ?_⟩, ⟨x6.oth hO3 (apart_ne hd.out 4 0 (by decide)), x7⟩, x8.oth hO3 (apart_ne hd.out 5 0 (by decide)), x9⟩
          rcases x5 with x5 | ⟨x5, x10⟩
          · exact .inl x5
          · exact .inr ⟨x5, x10.oth hO3 (apart_ne hd.out 10 0 (by decide))⟩ : Ctx w3 A T rn cn rm rs cm cs cu bf R 0 0 cf cb L p xs RM RD)
        have HO3 : Hid (OL [A, rm, rs, cm, cs, cu, bf, cb] w w3) := ((HLR.out.2.2.2.2.2.mono (sub5' A rm rs cm cs cu bf cb)).trans (OL.of HM2.out.2.2 (by simp))).trans (OL.of hO3 (by simp))
        have HCD : Hid (FB w3 cs CD0) := (HCM.out.2.1.oth HM2.out.2.2 (apart_ne hd.out 7 6 (by decide))).oth hO3 (apart_ne hd.out 7 0 (by decide))
        have c0 := HX3.out.1.c0
        have t0 : w3.cell? ⟨T, 0, none⟩ = some (.int .i64 0) := by
          have := HX3.out.2.1.rows
          rw [hR0] at this
          exact this
        clear hA3 hO3 hTz hR0
        go_wp2
        go_loopw [10, 94] (fun v10 v94 wx => v94 = .int .i64 0 ∧ v10 = .float .f64 0 ∧ wx = w3) (fun _ _ _ => 0)
        case atStart => exact ⟨rfl, rfl, rfl⟩
        case round =>
          obtain ⟨rfl, rfl, hwr⟩ := hrel
          obtain rfl : w3 = wr := hwr.symm
          clear hwr
          go_wp2
          go_ret2
          exact .inl ⟨HRO.out, fun j hj => by omega, ⟨_, rfl⟩, xs, RD, CD0, HX3.out.2.2.1, fun a ha => by have := hLz.out; omega, ⟨HX3.out.2.2.2.2.1, HX3.out.2.2.2.2.2, fun a ha => by have := hLz.out; omega⟩, ⟨HCD.out, hD.out.2, fun j hj => by omega⟩, HO3.out⟩
end Go.Proofs.Qxb6605746aFmt.C6
