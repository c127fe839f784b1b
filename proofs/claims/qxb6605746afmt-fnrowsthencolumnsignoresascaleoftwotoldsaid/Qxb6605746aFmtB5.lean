import Derived.Test.Qxb6605746aFmtB3
set_option linter.unusedVariables false
set_option linter.unusedSimpArgs false
namespace Go.Proofs.Qxb6605746aFmt.B5
open Go.RowKit Go.Extern.Stop Go.Stop Go.Extern Go.Proofs.Qxb6605746aFmt.P1 Go.Proofs.Qxb6605746aFmt.P3 Go.Proofs.Qxb6605746aFmt.P7 Go.Proofs.Qxb6605746aFmt.A1 Go.Proofs.Qxb6605746aFmt.A2 Go.Proofs.Qxb6605746aFmt.A3 Go.Proofs.Qxb6605746aFmt.A4 Go.Proofs.Qxb6605746aFmt.A5 Go.Proofs.Qxb6605746aFmt.A6 Go.Proofs.Qxb6605746aFmt.A7 Go.Proofs.Qxb6605746aFmt.A8 Go.Proofs.Qxb6605746aFmt.A9 Go.Proofs.Qxb6605746aFmt.B1 Go.Proofs.Qxb6605746aFmt.B3

/-- The first k cells from lo on replaced. -/
def Rpl (lo k : Nat) (xs : List Nat) (Z : Nat → Option Nat) (zs : List Nat) : Prop := zs.length = xs.length ∧ (∀ j, j < k → fnum (zs.getD (lo + j) 0) = Z j) ∧ ∀ j, (j < lo ∨ lo + k ≤ j) → zs.getD j 0 = xs.getD j 0
theorem Rpl.start {lo : Nat} {xs : List Nat} {Z : Nat → Option Nat} : Rpl lo 0 xs Z xs := ⟨rfl, fun j hj => by omega, fun _ _ => rfl⟩
theorem Rpl.put {lo k v : Nat} {xs : List Nat} {Z : Nat → Option Nat} {zs : List Nat} (h : Rpl lo k xs Z zs) (hk : lo + k < xs.length) (hv : fnum v = Z k) : Rpl lo (k + 1) xs Z (zs.set (lo + k) v) := by
  obtain ⟨h1, h2, h3⟩ := h
  refine ⟨by simp [h1], fun j hj => ?_, fun j hj => ?_⟩
  · rw [getD_set _ _ _ _ (by omega)]
    by_cases e : j = k
    · subst e; rw [if_pos rfl]; exact hv
    · rw [if_neg (by omega)]; exact h2 j (by omega)
  · rw [getD_set _ _ _ _ (by omega), if_neg (by omega)]
    exact h3 j (by omega)

set_option maxRecDepth 100000 in
set_option maxHeartbeats 2000000 in
theorem repl40 (A T rn cn rm rs cm cs cu bf R C rf cf cb lo cap : Nat) (q1 q2 : Option Addr) (xs ys CM CD : List Nat) (w : World)
    (hA : AB w A T rn cn rm rs cm cs cu bf R C rf cf) (h1 : RS w q1 C cap cb lo xs) (h2 : RS w q2 C C bf 0 ys) (hM : FB w cm CM) (hMl : CM.length = C) (hD : FB w cs CD) (hDl : CD.length = C) (hX : FB w cb xs)
    (d1 : A ≠ cb) (d2 : bf ≠ cb) (d3 : cm ≠ cb) (d4 : cs ≠ cb) :
    Calls Tryf.prog 40 #[.pointer (some ⟨A, 0, none⟩), .slice q1 C cap, .slice q2 C C] w fun e w' => ∃ r zs, e = .returned (.float .f64 r) ∧ FB w' cb zs ∧ Rpl lo C xs (fun j => fscaled (fnum (ys.getD j 0)) (fnum (CM.getD j 0)) (fnum (CD.getD j 0))) zs ∧ Oth cb w w' := by
  have k5 := hA.c5
  have k6 := hA.c6
  have hcap := h1.1
  have hcap2 := h1.2.1
  have hsf := store_float
  have HX : Hid (FB w cb xs) := hX
  have HM : Hid (FB w cm CM) := hM
  have HD : Hid (FB w cs CD) := hD
  have H1 : Hid (RS w q1 C cap cb lo xs) := h1
  have H2 : Hid (RS w q2 C C bf 0 ys) := h2
  clear hA hX hM hD h1 h2
  by_cases h0 : 0 < C
  · obtain ⟨rfl, _, hl1⟩ := H1.out.2.2 h0
    obtain ⟨rfl, hY, hl2⟩ := H2.out.2.2 h0
    have HY : Hid (FB w bf ys) := hY
    clear hY
    go_enter Tryf.func40, Tryf.ntmps40
    go_wp2
    go_quiet (fail)
    go_wp2
    go_loopw [7, 33] (fun v7 v33 wx => ∃ k s : Nat, k ≤ C ∧ v33 = .int .i64 k ∧ v7 = .float .f64 s ∧ ∃ zs, FB wx cb zs ∧ Rpl lo k xs (fun j => fscaled (fnum (ys.getD j 0)) (fnum (CM.getD j 0)) (fnum (CD.getD j 0))) zs ∧ Oth cb w wx) (fun _ v33 _ => C - (intOf v33).toNat)
    case atStart => exact ⟨0, 0, Nat.zero_le _, rfl, rfl, xs, HX.out, Rpl.start, ⟨rfl, rfl, rfl, Nat.le_refl _, fun _ _ _ => rfl⟩⟩
    case round =>
      obtain ⟨k, s, hk, rfl, rfl, zs, hF, hS, hO⟩ := hrel
      have HF : Hid (FB wr cb zs) := hF
      have HS : Hid (Rpl lo k xs (fun j => fscaled (fnum (ys.getD j 0)) (fnum (CM.getD j 0)) (fnum (CD.getD j 0))) zs) := hS
      have HO : Hid (Oth cb w wr) := hO
      by_cases hlt : k < C
      · have hzl : zs.length = xs.length := hS.1
        have ky := (HY.out.oth hO d2).cell k (by omega)
        have km := (HM.out.oth hO d3).cell k (by omega)
        have kd := (HD.out.oth hO d4).cell k (by omega)
        have kz := hF.cell (lo + k) (by omega)
        have kf := hF.frozen (lo + k)
        obtain ⟨y, hy⟩ : ∃ v, ys.getD k 0 = v := ⟨_, rfl⟩
        obtain ⟨mv, hm⟩ : ∃ v, CM.getD k 0 = v := ⟨_, rfl⟩
        obtain ⟨dv, hd⟩ : ∃ v, CD.getD k 0 = v := ⟨_, rfl⟩
        rw [hy] at ky
        rw [hm] at km
        rw [hd] at kd
        have HV : Hid ((fun j => fscaled (fnum (ys.getD j 0)) (fnum (CM.getD j 0)) (fnum (CD.getD j 0))) k = fscaled (fnum y) (fnum mv) (fnum dv)) := (by simp only [hy, hm, hd] : (fun j => fscaled (fnum (ys.getD j 0)) (fnum (CM.getD j 0)) (fnum (CD.getD j 0))) k = fscaled (fnum y) (fnum mv) (fnum dv))
        generalize zs.getD (lo + k) 0 = z0 at kz
        clear hy hm hd hF hS hO
        go_wp2
        go_region_with (go_at_call 50; refine (scaled50 y mv dv _).mono ?_; rintro e w2 ⟨r, rfl, hr, hd2⟩)
        all_goals (
          have HD2 : Hid (Dr wr w2) := Dr.trans ⟨_, rfl⟩ hd2
          have HRR : Hid (fnum r = fscaled (fnum (ys.getD k 0)) (fnum (CM.getD k 0)) (fnum (CD.getD k 0))) := hr.1.trans HV.out.symm
          have kz2 : w2.cell? ⟨cb, lo + k, none⟩ = some (.float .f64 z0) := by obtain ⟨nn, hnn⟩ := HD2.out; rw [hnn]; exact kz
          have kf2 : w2.frozen? ⟨cb, lo + k, none⟩ = false := by obtain ⟨nn, hnn⟩ := HD2.out; rw [hnn]; exact kf
          clear hr hd2 ky km kd kz kf
          cases hx : fnum r with
          | none =>
            have eo := ord_none r r hx
            go_wp2
            go_roundw
            case rel => exact ⟨k + 1, s, by omega, by go_num, rfl, _, (fb_dr HF.out HD2.out).set (lo + k) r, HS.out.put (by omega) HRR.out, (HO.out.trans (dr_oth cb HD2.out)).set _ _⟩
            case measure => simp [intOf]; omega
          | some v' =>
            have eo := ord_self r
            rw [hx] at eo
            simp only [Option.map_some] at eo
            obtain ⟨d, w3, e3, f3, d3⟩ := fstep .sub (.inr (.inl rfl)) r z0 w2
            obtain ⟨y2, w4, e4, f4, d4⟩ := fstep .mul (.inr (.inr (.inl rfl))) d d w3
            obtain ⟨z2, w5, e5, f5, d5⟩ := fstep .add (.inl rfl) s y2 w4
            have HD5 : Hid (Dr wr w5) := ((HD2.out.trans d3).trans d4).trans d5
            have kz5 : w5.cell? ⟨cb, lo + k, none⟩ = some (.float .f64 z0) := by obtain ⟨nn, hnn⟩ := (d3.trans d4).trans d5; rw [hnn]; exact kz2
            have kf5 : w5.frozen? ⟨cb, lo + k, none⟩ = false := by obtain ⟨nn, hnn⟩ := (d3.trans d4).trans d5; rw [hnn]; exact kf2
            clear hx f3 f4 f5 d3 d4 d5
            go_wp2
            go_roundw
            case rel => exact ⟨k + 1, z2, by omega, by go_num, rfl, _, (fb_dr HF.out HD5.out).set (lo + k) r, HS.out.put (by omega) HRR.out, (HO.out.trans (dr_oth cb HD5.out)).set _ _⟩
            case measure => simp [intOf]; omega)
      · have ek : k = C := by omega
        subst ek
        clear hF hS hO
        go_wp2
        go_ret
        exact ⟨_, zs, rfl, HF.out, HS.out, HO.out⟩
  · obtain rfl : C = 0 := by omega
    have hq1 := H1.out.1
    go_enter Tryf.func40, Tryf.ntmps40
    go_wp2
    cases q1 with
    | none =>
      go_quiet (fail)
      go_wp2
      go_loopw [7, 33] (fun v7 v33 wx => v7 = .float .f64 0 ∧ v33 = .int .i64 0 ∧ Dr w wx) (fun _ _ _ => 0)
      case atStart => exact ⟨rfl, rfl, ⟨_, rfl⟩⟩
      case round =>
        obtain ⟨rfl, rfl, hd⟩ := hrel
        go_wp2
        go_ret
        exact ⟨_, xs, rfl, fb_dr HX.out hd, Rpl.start, dr_oth _ hd⟩
    | some a1 =>
      go_quiet (fail)
      go_wp2
      go_loopw [7, 33] (fun v7 v33 wx => v7 = .float .f64 0 ∧ v33 = .int .i64 0 ∧ Dr w wx) (fun _ _ _ => 0)
      case atStart => exact ⟨rfl, rfl, ⟨_, rfl⟩⟩
      case round =>
        obtain ⟨rfl, rfl, hd⟩ := hrel
        go_wp2
        go_ret
        exact ⟨_, xs, rfl, fb_dr HX.out hd, Rpl.start, dr_oth _ hd⟩
end Go.Proofs.Qxb6605746aFmt.B5
