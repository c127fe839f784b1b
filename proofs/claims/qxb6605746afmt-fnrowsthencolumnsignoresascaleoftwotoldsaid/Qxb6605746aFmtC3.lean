import Derived.Test.Qxb6605746aFmtC2
import Derived.Deep.DrawnRows
set_option linter.unusedVariables false
set_option linter.unusedSimpArgs false
namespace Go.Proofs.Qxb6605746aFmt.C3
open Go.RowKit Go.Extern.Stop Go.Stop Go.Extern Go.Proofs.Qxb6605746aFmt.P1 Go.Proofs.Qxb6605746aFmt.P3 Go.Proofs.Qxb6605746aFmt.P7 Go.Proofs.Qxb6605746aFmt.A1 Go.Proofs.Qxb6605746aFmt.A2 Go.Proofs.Qxb6605746aFmt.A3 Go.Proofs.Qxb6605746aFmt.A4 Go.Proofs.Qxb6605746aFmt.A5 Go.Proofs.Qxb6605746aFmt.A6 Go.Proofs.Qxb6605746aFmt.A7 Go.Proofs.Qxb6605746aFmt.A8 Go.Proofs.Qxb6605746aFmt.A9 Go.Proofs.Qxb6605746aFmt.B1 Go.Proofs.Qxb6605746aFmt.B3 Go.Proofs.Qxb6605746aFmt.B4 Go.Proofs.Qxb6605746aFmt.B6 Go.Proofs.Qxb6605746aFmt.B7 Go.Proofs.Qxb6605746aFmt.C1 Go.Proofs.Qxb6605746aFmt.C2

attribute [local go_sem ↓] Go.wp_at_zero Go.wp_at_succ

def FitOk (w w' : World) (A T rn cn rm rs cm cs cu bf R C cf : Nat) (WT : Nat → Option Nat) : Prop := ∃ zs ys rf', FB w' cs zs ∧ zs.length = C ∧ (∀ j, j < C → fnum (zs.getD j 0) = WT j) ∧ (FB w' bf ys ∧ ys.length = C) ∧ AB w' A T rn cn rm rs cm cs cu bf R C rf' cf ∧ OL [A, cs, bf] w w'

set_option maxRecDepth 100000 in
set_option maxHeartbeats 2000000 in
theorem fit39 (F : Interp) (A T rn cn rm rs cm cs cu bf R C rf cf cb L : Nat) (p : Option Addr) (xs RM RD CM S0 B0 : List Nat) (CN : List Int) (w : World) (h0 : 0 < C) (hR : R ≤ 65536) (hC : C ≤ 65536) (hL : R * C ≤ L) (hF : Hid (F.answers w.tape))
    (hX : Hid (Ctx w A T rn cn rm rs cm cs cu bf R C rf cf cb L p xs RM RD)) (hM : FB w cm CM) (hMl : CM.length = C) (hK : IB w cn CN) (hKl : CN.length = C) (hS : FB w cs S0) (hSl : S0.length = C) (hB : FB w bf B0) (hBl : B0.length = C) (hd : Hid (Apart A T rn cn rm rs cm cs cu bf cb))
    (hcn : Hid (∀ j, j < C → -1000000 ≤ CN.getD j 0 ∧ CN.getD j 0 ≤ 1000000)) :
    Calls Tryf.prog 39 #[.pointer (some ⟨A, 0, none⟩), .func (.func 37) #[.pointer (some ⟨A, 0, none⟩)] #[]] w fun e w' =>
      ((∀ j, j < C → P5.ok (Want xs RM RD CM CN C R j) (fnum cf) = true) ∧ e = .returned (.pointer none) ∧ FitOk w w' A T rn cn rm rs cm cs cu bf R C cf (Want xs RM RD CM CN C R)) ∨
      ((∃ j, j < C ∧ P5.ok (Want xs RM RD CM CN C R j) (fnum cf) = false) ∧ (∃ q, e = .returned (.pointer (some q))) ∧ OL [A, cs, bf] w w') := by
  have S52 : Hid (∀ nn, Calls Tryf.prog 52 #[.slice (some ⟨cs, 0, none⟩) C C, .slice (some ⟨cm, 0, none⟩) C C, .slice (some ⟨cn, 0, none⟩) C C, .int .i64 (R : Int), .func (.func 37) #[.pointer (some ⟨A, 0, none⟩)] #[]] (w.drewN nn) fun e w' =>
      e = .returned (.tuple #[]) ∧ ∃ zs, FB w' cs zs ∧ zs.length = C ∧ (∀ j, j < C → fnum (zs.getD j 0) = Want xs RM RD CM CN C R j) ∧ Oth2 cs bf w w' ∧ ∃ ys, FB w' bf ys ∧ ys.length = C) := fun nn => sds52 A T rn cn rm rs cm cs cu bf R C rf cf cb L p xs RM RD CM S0 B0 CN (w.drewN nn) h0 hR hC hL hX.out hM hMl hK hKl hS hSl hB hBl hd
  have c6 := hX.out.1.c6
  have c5 := hX.out.1.c5
  have c2 := hX.out.1.c2
  have c0 := hX.out.1.c0
  have t0 := hX.out.2.1.rows
  have HM : Hid (FB w cm CM) := hM
  have HK : Hid (IB w cn CN) := hK
  clear hM hK hS hB
  have hsf := store_float
  go_enter Tryf.func39, Tryf.ntmps39
  go_wp2
  go_region_held3 (fun w' => w'.cell? ⟨A, 6, none⟩ = some (.slice (some ⟨cs, 0, none⟩) C C) ∧ w'.cell? ⟨A, 5, none⟩ = some (.slice (some ⟨cm, 0, none⟩) C C) ∧ w'.cell? ⟨A, 2, none⟩ = some (.slice (some ⟨cn, 0, none⟩) C C) ∧ w'.cell? ⟨A, 0, none⟩ = some (.pointer (some ⟨T, 0, none⟩)) ∧ w'.cell? ⟨T, 0, none⟩ = some (.int .i64 (R : Int))) (go_keep)
    ((go_at_call 52; refine (S52.out _).mono ?_; rintro e w1 ⟨rfl, zs, hz1, hz2, hz3, hz4, ys, hz5, hz6⟩; have a1 : AB w1 A T rn cn rm rs cm cs cu bf R C rf cf := (hz4.2.2.2.2 A (lt_of_block hX.out.1) (apart_ne hd.out 0 7 (by decide)) (apart_ne hd.out 0 9 (by decide))).trans hX.out.1; have k6 := a1.c6; have k5 := a1.c5; have k2 := a1.c2; have k0 := a1.c0; have tt : TB w1 T (R : Int) (C : Int) p L L := (hz4.2.2.2.2 T (lt_of_block hX.out.2.1) (apart_ne hd.out 1 7 (by decide)) (apart_ne hd.out 1 9 (by decide))).trans hX.out.2.1; have kt := tt.rows; have HA1 : Hid (AB w1 A T rn cn rm rs cm cs cu bf R C rf cf) := a1; have HT1 : Hid (TB w1 T (R : Int) (C : Int) p L L) := tt; have HZ : Hid (FB w1 cs zs ∧ zs.length = C ∧ (∀ j, j < C → fnum (zs.getD j 0) = Want xs RM RD CM CN C R j) ∧ Oth2 cs bf w w1 ∧ FB w1 bf ys ∧ ys.length = C) := ⟨hz1, hz2, hz3, hz4, hz5, hz6⟩; clear hz1 hz2 hz3 hz4 hz5 hz6 a1 tt))
  have k9 := HA1.out.c9
  have kf9 := HA1.out.fz 9
  have s6 := (HA1.out.set9 0).c6
  clear c6 c5 c2 c0 t0 k6 k5 k2 k0 kt S52
  go_wp2
  refine wp_gen (fun W => AB W A T rn cn rm rs cm cs cu bf R C 0 cf ∧ TB W T (R : Int) (C : Int) p L L ∧ FB W cs zs ∧ FB W bf ys ∧ OL [A, cs, bf] w W) ⟨HA1.out.set9 0, OL.tb HT1.out (OL.of (Oth.set (Oth.refl A w1) 9 _) (List.mem_singleton.2 rfl)) (by simp; exact apart_ne hd.out 1 0 (by decide)), OL.fb HZ.out.1 (OL.of (Oth.set (Oth.refl A w1) 9 _) (List.mem_singleton.2 rfl)) (by simp; exact apart_ne hd.out 7 0 (by decide)), OL.fb HZ.out.2.2.2.2.1 (OL.of (Oth.set (Oth.refl A w1) 9 _) (List.mem_singleton.2 rfl)) (by simp; exact apart_ne hd.out 9 0 (by decide)), OL.set (OL.of2 HZ.out.2.2.2.1 (by simp) (by simp)) (by simp) 9 _⟩ ?_
  intro W hW
  have HW : Hid (AB W A T rn cn rm rs cm cs cu bf R C 0 cf ∧ TB W T (R : Int) (C : Int) p L L ∧ FB W cs zs ∧ FB W bf ys ∧ OL [A, cs, bf] w W) := hW
  have HZ2 : Hid (zs.length = C ∧ (∀ j, j < C → fnum (zs.getD j 0) = Want xs RM RD CM CN C R j) ∧ ys.length = C) := ⟨HZ.out.2.1, HZ.out.2.2.1, HZ.out.2.2.2.2.2⟩
  have HMW : Hid (FB W cm CM ∧ IB W cn CN) := ⟨OL.fb HM.out hW.2.2.2.2 (by simp; exact ⟨apart_ne hd.out 6 0 (by decide), apart_ne hd.out 6 7 (by decide), apart_ne hd.out 6 9 (by decide)⟩), OL.ib HK.out hW.2.2.2.2 (by simp; exact ⟨apart_ne hd.out 3 0 (by decide), apart_ne hd.out 3 7 (by decide), apart_ne hd.out 3 9 (by decide)⟩)⟩
  have HFW : Hid (F.answers W.tape) := (by rw [hW.2.2.2.2.2.1]; exact hF.out : F.answers W.tape)
  clear hW k9 kf9 s6 HA1 HT1 HZ
  go_loopw [37] (fun v37 wx => ∃ j : Nat, j ≤ C ∧ v37 = .int .i64 j ∧ (∀ i, i < j → P5.ok (Want xs RM RD CM CN C R i) (fnum cf) = true) ∧ ∃ rf', rf' < 2 ^ 64 ∧ AB wx A T rn cn rm rs cm cs cu bf R C rf' cf ∧ OL [A] W wx) (fun v37 _ => C - (intOf v37).toNat)
  case atStart => exact ⟨0, Nat.zero_le _, rfl, fun i hi => by omega, 0, by omega, HW.out.1, OL.refl _ _⟩
  case round =>
    obtain ⟨j, hj, rfl, hall, rf', hrf, hA, hO⟩ := hrel
    have HALL : Hid (∀ i, i < j → P5.ok (Want xs RM RD CM CN C R i) (fnum cf) = true) := hall
    have HA : Hid (AB wr A T rn cn rm rs cm cs cu bf R C rf' cf) := hA
    have HO : Hid (OL [A] W wr) := hO
    by_cases hlt : j < C
    · have hcs := (OL.fb HW.out.2.2.1 hO (by simp; exact apart_ne hd.out 7 0 (by decide))).cell j (by have := HZ2.out.1; omega)
      obtain ⟨sd, hsd⟩ : ∃ v, zs.getD j 0 = v := ⟨_, rfl⟩
      rw [hsd] at hcs
      have HSD : Hid (fnum sd = Want xs RM RD CM CN C R j) := (by rw [← hsd]; exact HZ2.out.2.1 j hlt : fnum sd = Want xs RM RD CM CN C R j)
      have HT : Hid (TB wr T (R : Int) (C : Int) p L L) := OL.tb HW.out.2.1 hO (by simp; exact apart_ne hd.out 1 0 (by decide))
      have HFr : Hid (F.answers wr.tape) := (by rw [hO.2.1]; exact HFW.out : F.answers wr.tape)
      have d10 := hA.c10
      have d0 := hA.c0
      have HN : ∀ nn, Calls Tryf.prog 47 #[.float .f64 sd, .float .f64 cf, .func (.func 53) #[.pointer (some ⟨T, 0, none⟩)] #[], .int .i64 (j : Int)] (wr.drewN nn) fun e w' =>
          (P5.ok (fnum sd) (fnum cf) = true ∧ e = .returned (.pointer none) ∧ w' = wr.drewN nn) ∨ (P5.ok (fnum sd) (fnum cf) = false ∧ (∃ q, e = .returned (.pointer (some q))) ∧ Below (wr.drewN nn).heap.size (wr.drewN nn) w') := fun nn => check47_53 sd cf T (j : Int) (wr.drewN nn) (name53 F T (j : Int) (wr.drewN nn) HFr.out HT.out.names)
      cases hok : P5.ok (fnum sd) (fnum cf) with
      | false =>
        have H47 : Hid (∀ nn, Calls Tryf.prog 47 #[.float .f64 sd, .float .f64 cf, .func (.func 53) #[.pointer (some ⟨T, 0, none⟩)] #[], .int .i64 (j : Int)] (wr.drewN nn) fun e w' => (∃ q, e = .returned (.pointer (some q))) ∧ Below wr.heap.size wr w') := by
          intro nn
          refine (HN nn).mono ?_
          rintro e w' (⟨h, _⟩ | ⟨_, h1, h2⟩)
          · rw [hok] at h; cases h
          · exact ⟨h1, ⟨h2.os, h2.tape, h2.output, h2.size, h2.block⟩⟩
        have HOK : Hid (P5.ok (Want xs RM RD CM CN C R j) (fnum cf) = false) := (by rw [← HSD.out]; exact hok : P5.ok (Want xs RM RD CM CN C R j) (fnum cf) = false)
        clear HN hok hall hA hO hsd
        go_wp2
        go_region_held3 (fun w' => w'.cell? ⟨A, 10, none⟩ = some (.float .f64 cf) ∧ w'.cell? ⟨A, 0, none⟩ = some (.pointer (some ⟨T, 0, none⟩))) (go_keep)
          ((go_at_call 47; refine (H47.out _).mono ?_; rintro e w2 ⟨⟨q2, rfl⟩, hb2⟩; have e10 := (HA.out.below hb2).c10; have e0 := (HA.out.below hb2).c0))
        go_wp2
        go_ret
        exact .inr ⟨⟨j, hlt, HOK.out⟩, ⟨_, rfl⟩, (HW.out.2.2.2.2.trans (HO.out.mono (fun k hk => by simp at hk; simp [hk]))).trans (OL.below hb2)⟩
      | true =>
        have H47 : Hid (∀ nn, Calls Tryf.prog 47 #[.float .f64 sd, .float .f64 cf, .func (.func 53) #[.pointer (some ⟨T, 0, none⟩)] #[], .int .i64 (j : Int)] (wr.drewN nn) fun e w' => e = .returned (.pointer none) ∧ w' = wr.drewN nn) := by
          intro nn
          refine (HN nn).mono ?_
          rintro e w' (⟨_, h1, h2⟩ | ⟨h, _⟩)
          · exact ⟨h1, h2⟩
          · rw [hok] at h; cases h
        have HOK : Hid (P5.ok (Want xs RM RD CM CN C R j) (fnum cf) = true) := (by rw [← HSD.out]; exact hok : P5.ok (Want xs RM RD CM CN C R j) (fnum cf) = true)
        clear HN hok hall hsd
        go_wp2
        go_region_held3 (fun w' => w'.cell? ⟨A, 10, none⟩ = some (.float .f64 cf) ∧ w'.cell? ⟨A, 0, none⟩ = some (.pointer (some ⟨T, 0, none⟩))) (go_keep)
          ((go_at_call 47; refine (H47.out _).mono ?_; rintro e w2 ⟨rfl, hw2⟩; have HD2 : Hid (Dr wr w2) := ⟨_, hw2⟩; have e10 := (HA.out.below (dr_bel HD2.out)).c10; have e0 := (HA.out.below (dr_bel HD2.out)).c0; clear hw2))
        clear hA hO d10 d0 e10 e0
        go_wp2_with (fail)
        have HA2 : Hid (AB w2 A T rn cn rm rs cm cs cu bf R C rf' cf) := HA.out.below (dr_bel HD2.out)
        have HO2 : Hid (OL [A] W w2) := HO.out.trans (OL.below (dr_bel HD2.out))
        have f9 := HA2.out.c9
        have f2 := HA2.out.c2
        have f5 := HA2.out.c5
        have ff := HA2.out.fz 9
        have fn := (OL.ib HMW.out.2 HO2.out (by simp; exact apart_ne hd.out 3 0 (by decide))).cell j (by omega)
        have fm := (OL.fb HMW.out.1 HO2.out (by simp; exact apart_ne hd.out 6 0 (by decide))).cell j (by omega)
        obtain ⟨kv, hkv⟩ : ∃ v, CN.getD j 0 = v := ⟨_, rfl⟩
        obtain ⟨mv, hmv⟩ : ∃ v, CM.getD j 0 = v := ⟨_, rfl⟩
        have hkb := hcn.out j hlt
        rw [hkv] at fn hkb
        rw [hmv] at fm
        have dn : cn ≠ A := apart_ne hd.out 3 0 (by decide)
        have dm : cm ≠ A := apart_ne hd.out 6 0 (by decide)
        have H49 : Hid (∀ W, Calls Tryf.prog 49 #[.int .i64 kv, .float .f64 mv, .float .f64 sd] W fun e w' => ∃ r, e = .returned (.float .f64 r) ∧ (fnum r = fscal kv (fnum mv) (fnum sd) ∧ r < 2 ^ 64) ∧ Dr W w') := fun W => scal49' kv mv sd hkb.1 hkb.2 W
        clear hkv hmv
        go_region_with (go_at_call 49; refine (H49.out _).mono ?_; rintro e w4 ⟨z, rfl, hz, hd4⟩; obtain ⟨RR, Wm, m1, m2, m3, m4, m5⟩ := B2.max_fun rf' z hrf hz.2; have HD4 : Hid (Dr w2 w4) := Dr.trans ⟨_, rfl⟩ hd4; have HA4 : Hid (AB w4 A T rn cn rm rs cm cs cu bf R C rf' cf) := HA2.out.below (dr_bel HD4.out); have g9 := HA4.out.c9; have gf := HA4.out.fz 9; have g2 := HA4.out.c2; have g5 := HA4.out.c5; have gn : w4.cell? ⟨cn, j, none⟩ = some (.int .i64 kv) := (by obtain ⟨nn, hnn⟩ := HD4.out; rw [hnn]; exact fn); have gm : w4.cell? ⟨cm, j, none⟩ = some (.float .f64 mv) := (by obtain ⟨nn, hnn⟩ := HD4.out; rw [hnn]; exact fm); have HM2 : Hid (∀ w, RR w < 2 ^ 64) := (fun w => (m2 w).2); have HM5 : Hid (∀ w, Dr w (Wm w)) := m5; clear hz hd4 m2 m5)
        all_goals (
          go_wp2
          go_roundw
          case rel => exact ⟨j + 1, by omega, by go_num, fun i hi => by rcases Nat.lt_succ_iff_lt_or_eq.1 hi with h | h; exact HALL.out i h; rw [h]; exact HOK.out, _, HM2.out _, (HA4.out.below (dr_bel (HM5.out _))).set9 _, OL.set (HO2.out.trans (OL.below (dr_bel (HD4.out.trans (HM5.out _))))) (by simp) _ _⟩
          case measure => simp [intOf]; omega)
    · have ej : j = C := by omega
      have HALC : Hid (∀ i, i < C → P5.ok (Want xs RM RD CM CN C R i) (fnum cf) = true) := (fun i hi => hall i (by omega))
      clear hall hA hO ej
      go_wp2
      go_ret
      exact .inl ⟨HALC.out, rfl, zs, ys, rf', OL.fb HW.out.2.2.1 HO.out (by simp; exact apart_ne hd.out 7 0 (by decide)), HZ2.out.1, HZ2.out.2.1, ⟨OL.fb HW.out.2.2.2.1 HO.out (by simp; exact apart_ne hd.out 9 0 (by decide)), HZ2.out.2.2⟩, HA.out, HW.out.2.2.2.2.trans (HO.out.mono (fun k hk => by simp at hk; simp [hk]))⟩
end Go.Proofs.Qxb6605746aFmt.C3
