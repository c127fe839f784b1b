import Derived.Test.Qxb6605746aFmtB3
set_option linter.unusedVariables false
set_option linter.unusedSimpArgs false
namespace Go.Proofs.Qxb6605746aFmt.B4
open Go.RowKit Go.Extern.Stop Go.Stop Go.Extern Go.Proofs.Qxb6605746aFmt.P1 Go.Proofs.Qxb6605746aFmt.P3 Go.Proofs.Qxb6605746aFmt.P7 Go.Proofs.Qxb6605746aFmt.A1 Go.Proofs.Qxb6605746aFmt.A2 Go.Proofs.Qxb6605746aFmt.A3 Go.Proofs.Qxb6605746aFmt.A4 Go.Proofs.Qxb6605746aFmt.A5 Go.Proofs.Qxb6605746aFmt.A6 Go.Proofs.Qxb6605746aFmt.A7 Go.Proofs.Qxb6605746aFmt.A8 Go.Proofs.Qxb6605746aFmt.A9 Go.Proofs.Qxb6605746aFmt.B1 Go.Proofs.Qxb6605746aFmt.B3

/-- The first k of a row scaled. -/
def Scl (C k : Nat) (X : Nat → Option Nat) (m sd : Option Nat) (ys : List Nat) : Prop := ys.length = C ∧ ∀ j, j < k → fnum (ys.getD j 0) = fscaled (X j) m sd
theorem Scl.put {C k v : Nat} {X : Nat → Option Nat} {m sd : Option Nat} {ys : List Nat} (h : Scl C k X m sd ys) (hk : k < C) (hv : fnum v = fscaled (X k) m sd) : Scl C (k + 1) X m sd (ys.set k v) := by
  obtain ⟨h1, h2⟩ := h
  refine ⟨by simp [h1], fun j hj => ?_⟩
  rw [getD_set _ _ _ _ (by omega)]
  by_cases e : j = k
  · subst e; rw [if_pos rfl]; exact hv
  · rw [if_neg e]; exact h2 j (by omega)

set_option maxRecDepth 100000 in
set_option maxHeartbeats 1000000 in
theorem srow37 (A T rn cn rm rs cm cs cu bf R C rf cf i cb L : Nat) (n1 : Int) (p : Option Addr) (xs RM RD B0 : List Nat) (w : World)
    (hA : AB w A T rn cn rm rs cm cs cu bf R C rf cf) (hT : TB w T n1 (C : Int) p L L) (hc : CS w p L cb xs) (hi : (i + 1) * C ≤ L) (hiR : i < R) (hR : R ≤ 1048576)
    (hM : FB w rm RM) (hMl : RM.length = R) (hD : FB w rs RD) (hDl : RD.length = R) (hB : FB w bf B0) (hBl : B0.length = C) (d1 : A ≠ bf) (d2 : T ≠ bf) (d3 : cb ≠ bf) :
    Calls Tryf.prog 37 #[.pointer (some ⟨A, 0, none⟩), .int .i64 (i : Int)] w fun e w' => ∃ q ys, e = .returned (.slice q C C) ∧ RS w' q C C bf 0 ys ∧ FB w' bf ys ∧ Scl C C (cellsOf xs (i * C)) (fnum (RM.getD i 0)) (fnum (RD.getD i 0)) ys ∧ Oth bf w w' := by
  have c0 := hA.c0
  have hCL : C ≤ 1048576 := by
    have e : (i + 1) * C = i * C + C := by rw [Nat.add_mul, Nat.one_mul]
    have := hc.2.1
    omega
  have R33 : Hid (Calls Tryf.prog 33 #[.pointer (some ⟨T, 0, none⟩), .int .i64 (i : Int)] w fun e w' => ∃ q cap, e = .returned (.slice q C cap) ∧ Dr w w' ∧ RS w q C cap cb (i * C) xs) := row_rs T i C L cb n1 p xs w hT hc hi (by omega)
  obtain ⟨mv, hmv⟩ : ∃ v, RM.getD i 0 = v := ⟨_, rfl⟩
  obtain ⟨dv, hdv⟩ : ∃ v, RD.getD i 0 = v := ⟨_, rfl⟩
  have km := hM.cell i (by omega)
  have kd := hD.cell i (by omega)
  rw [hmv] at km ⊢
  rw [hdv] at kd ⊢
  have HB : Hid (FB w bf B0) := hB
  have k3 := hA.c3
  have k4 := hA.c4
  have k8 := hA.c8
  have hsf := store_float
  clear hA hT hc hM hD hB hmv hdv
  go_enter Tryf.func37, Tryf.ntmps37
  go_wp2_with (go_at_call 33; refine R33.out.mono ?_; rintro e w1 ⟨q, cap, rfl, ⟨nn, rfl⟩, hq⟩)
  have HQ : Hid (RS w q C cap cb (i * C) xs) := hq
  have hcap := hq.1
  have hcap2 := hq.2.1
  clear hq R33
  by_cases h0 : 0 < C
  · obtain ⟨rfl, hFx, hlx⟩ := HQ.out.2.2 h0
    have HFX : Hid (FB w cb xs) := hFx
    clear hFx
    go_quiet (fail)
    go_wp2
    obtain ⟨lo, hlo⟩ : ∃ lo, i * C = lo := ⟨_, rfl⟩
    rw [hlo] at hlx HQ ⊢
    have HLO : Hid (i * C = lo) := hlo
    clear hlo
    go_loopw [40] (fun v40 wx => ∃ k : Nat, k ≤ C ∧ v40 = .int .i64 k ∧ ∃ ys, FB wx bf ys ∧ Scl C k (cellsOf xs lo) (fnum mv) (fnum dv) ys ∧ Oth bf w wx) (fun v40 _ => C - (intOf v40).toNat)
    case atStart => exact ⟨0, Nat.zero_le _, rfl, B0, HB.out, ⟨hBl, fun j hj => by omega⟩, ⟨rfl, rfl, rfl, Nat.le_refl _, fun _ _ _ => rfl⟩⟩
    case round =>
      obtain ⟨k, hk, rfl, ys, hF, hS, hO⟩ := hrel
      have HF : Hid (FB wr bf ys) := hF
      have HS : Hid (Scl C k (cellsOf xs lo) (fnum mv) (fnum dv) ys) := hS
      have HO : Hid (Oth bf w wr) := hO
      by_cases hlt : k < C
      · have hyl := hS.1
        have kx := (HFX.out.oth hO d3).cell (lo + k) (by omega)
        obtain ⟨x, hx⟩ : ∃ v, xs.getD (lo + k) 0 = v := ⟨_, rfl⟩
        rw [hx] at kx
        have HX : Hid (cellsOf xs lo k = fnum x) := (by unfold cellsOf; rw [hx] : cellsOf xs lo k = fnum x)
        clear hx hF hS hO
        go_wp2_with (go_at_call 50; refine (scaled50 x mv dv _).mono ?_; rintro e w2 ⟨r, rfl, hr, hd2⟩; have HF2 : Hid (FB w2 bf ys) := fb_dr HF.out hd2; have k1 := HF2.out.cell k (by omega); have k2 := HF2.out.frozen k; have HO2 : Hid (Oth bf w w2) := HO.out.trans (dr_oth bf hd2); have HRR : Hid (fnum r = fscaled (cellsOf xs lo k) (fnum mv) (fnum dv)) := (by rw [HX.out]; exact hr.1 : fnum r = fscaled (cellsOf xs lo k) (fnum mv) (fnum dv)); clear hr hd2)
        go_roundw
        case rel => exact ⟨k + 1, by omega, by go_num, _, HF2.out.set k r, HS.out.put hlt HRR.out, HO2.out.set _ _⟩
        case measure => simp [intOf]; omega
      · have ek : k = C := by omega
        subst ek
        clear hF hS hO
        go_wp2
        go_ret
        exact ⟨_, ys, rfl, ⟨Nat.le_refl _, hCL, fun _ => ⟨rfl, HF.out, by have := HS.out.1; omega⟩⟩, HF.out, by rw [HLO.out]; exact HS.out, HO.out⟩
  · obtain rfl : C = 0 := by omega
    go_quiet (fail)
    go_wp2
    go_loopw [40] (fun v40 wx => v40 = .int .i64 0 ∧ Dr w wx) (fun _ _ => 0)
    case atStart => exact ⟨rfl, ⟨_, rfl⟩⟩
    case round =>
      obtain ⟨rfl, hd⟩ := hrel
      go_wp2
      go_ret
      exact ⟨_, B0, rfl, ⟨Nat.le_refl _, by omega, fun h => absurd h (by omega)⟩, fb_dr HB.out hd, ⟨hBl, fun j hj => by omega⟩, dr_oth _ hd⟩
end Go.Proofs.Qxb6605746aFmt.B4
