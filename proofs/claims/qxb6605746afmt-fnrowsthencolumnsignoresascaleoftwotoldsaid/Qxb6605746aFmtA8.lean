import Derived.Test.Qxb6605746aFmtA7
set_option linter.unusedVariables false
set_option linter.unusedSimpArgs false
namespace Go.Proofs.Qxb6605746aFmt.A8
open Go.RowKit Go.Proofs.Qxb6605746aFmt.P1 Go.Proofs.Qxb6605746aFmt.P3 Go.Proofs.Qxb6605746aFmt.P7 Go.Proofs.Qxb6605746aFmt.A1 Go.Proofs.Qxb6605746aFmt.A2 Go.Proofs.Qxb6605746aFmt.A3 Go.Proofs.Qxb6605746aFmt.A4 Go.Proofs.Qxb6605746aFmt.A5 Go.Proofs.Qxb6605746aFmt.A6 Go.Proofs.Qxb6605746aFmt.A7

theorem wp_gen {P : Program} {c : Code} {Q : Exit → Act → World → Prop} {a : Act} {w : World} (R : World → Prop) (hR : R w) (h : ∀ w', R w' → Code.wp P c Q a w') : Code.wp P c Q a w := h w hR

theorem fnum0 : fnum 0 = some 0 := by decide +kernel

/-- A slice of floats that is read: if it has cells, they lie in the block b from off on. -/
def RS (w : World) (q : Option Addr) (n cap b off : Nat) (xs : List Nat) : Prop := n ≤ cap ∧ cap ≤ 1048576 ∧ (0 < n → q = some ⟨b, off, none⟩ ∧ FB w b xs ∧ off + n ≤ xs.length)
def cellsOf (xs : List Nat) (off : Nat) : Nat → Option Nat := fun j => fnum (xs.getD (off + j) 0)

theorem drewFB {w : World} {b : Nat} {zs : List Nat} (h : FB w b zs) (n : Nat) : FB (w.drewN n) b zs := h

set_option maxRecDepth 100000 in
set_option maxHeartbeats 1000000 in
theorem mean34 (q : Option Addr) (n cap b off : Nat) (xs : List Nat) (c : Int) (w : World) (h : RS w q n cap b off xs) :
    Calls Tryf.prog 34 #[.slice q n cap, .int .i64 c] w fun e w' => ∃ r, e = .returned (.float .f64 r) ∧ (fnum r = fmean (cellsOf xs off) n c ∧ r < 2 ^ 64) ∧ Dr w w' := by
  obtain ⟨hn, hcap, hq⟩ := h
  obtain ⟨cf, hcf⟩ : ∃ cf, floatOfInt .f64 c = cf := ⟨_, rfl⟩
  have HC : Hid (fnum cf = fcnt c) := (by unfold fcnt; rw [hcf] : fnum cf = fcnt c)
  go_enter Tryf.func34, Tryf.ntmps34
  go_wp2
  go_loopw [5, 10] (fun v5 v10 wx => ∃ i s nn : Nat, i ≤ n ∧ v10 = .int .i64 i ∧ v5 = .float .f64 s ∧ wx = w.drewN nn ∧ fnum s = fsum (cellsOf xs off) i) (fun _ v10 _ => n - (intOf v10).toNat)
  case atStart => exact ⟨0, 0, 0, Nat.zero_le _, rfl, rfl, rfl, fnum0⟩
  case round =>
    obtain ⟨i, s, nn, hi, rfl, rfl, rfl, hs⟩ := hrel
    have HS : Hid (fnum s = fsum (cellsOf xs off) i) := hs
    clear hs
    by_cases hlt : i < n
    · obtain ⟨rfl, hF, hl⟩ := hq (by omega)
      have hc := (drewFB hF nn).cell (off + i) (by omega)
      obtain ⟨v, hv⟩ : ∃ v, xs.getD (off + i) 0 = v := ⟨_, rfl⟩
      rw [hv] at hc
      have HV : Hid (cellsOf xs off i = fnum v) := (by unfold cellsOf; rw [hv] : cellsOf xs off i = fnum v)
      clear hv hF hq
      cases hx : fnum v with
      | none =>
        have eo := ord_none v v hx
        go_wp2
        go_roundw
        case rel => exact ⟨i + 1, s, nn, by omega, by go_num, rfl, rfl, by rw [HS.out]; simp only [fsum]; rw [HV.out, hx]; rfl⟩
        case measure => simp [intOf]; omega
      | some v' =>
        have eo := ord_self v
        rw [hx] at eo
        simp only [Option.map_some] at eo
        have HX : Hid (fnum v = some v') := hx
        clear hx
        rcases float_case .add (.inl rfl) s v with ⟨z, hop, hfz⟩ | ⟨hop, hfz⟩
        · have HFZ : Hid _ := hfz
          clear hfz
          go_wp2
          go_roundw
          case rel => exact ⟨i + 1, z, nn, by omega, by go_num, rfl, rfl, by rw [HFZ.out, HS.out]; simp only [fsum]; rw [HV.out, HX.out]; rfl⟩
          case measure => simp [intOf]; omega
        · have HFZ : Hid _ := hfz
          clear hfz
          go_wp2
          go_roundw
          case rel => exact ⟨i + 1, _, nn + 1, by omega, by go_num, rfl, rfl, by rw [nanOf_nan, HFZ.out, HS.out]; simp only [fsum]; rw [HV.out, HX.out]; rfl⟩
          case measure => simp [intOf]; omega
    · have ein : i = n := by omega
      obtain ⟨z, w2, e2, f2, d2⟩ := fstep' .quo (.inr (.inr (.inr rfl))) s cf (w.drewN nn)
      have HR : Hid ((fnum z = fmean (cellsOf xs off) n c ∧ z < 2 ^ 64) ∧ Dr w w2) := (⟨⟨by rw [f2.1, HS.out, HC.out, ein]; rfl, f2.2⟩, Dr.trans ⟨nn, rfl⟩ d2⟩ : (fnum z = fmean (cellsOf xs off) n c ∧ z < 2 ^ 64) ∧ Dr w w2)
      clear f2 d2 hq
      go_wp2
      go_ret
      exact ⟨_, rfl, HR.out.1, HR.out.2⟩

theorem fb_dr {w w' : World} {b : Nat} {zs : List Nat} (h : FB w b zs) (d : Dr w w') : FB w' b zs := by
  obtain ⟨n, rfl⟩ := d
  exact h

set_option maxRecDepth 100000 in
set_option maxHeartbeats 1000000 in
theorem sd46 (q : Option Addr) (n cap b off : Nat) (xs : List Nat) (m : Nat) (c : Int) (w : World) (h : RS w q n cap b off xs) :
    Calls Tryf.prog 46 #[.slice q n cap, .float .f64 m, .int .i64 c] w fun e w' => ∃ r, e = .returned (.float .f64 r) ∧ (fnum r = fsd (cellsOf xs off) (fnum m) n c ∧ r < 2 ^ 64) ∧ Dr w w' := by
  obtain ⟨hn, hcap, hq⟩ := h
  obtain ⟨cf, hcf⟩ : ∃ cf, floatOfInt .f64 c = cf := ⟨_, rfl⟩
  have HC : Hid (fnum cf = fcnt c) := (by unfold fcnt; rw [hcf] : fnum cf = fcnt c)
  go_enter Tryf.func46, Tryf.ntmps46
  go_wp2
  go_loopw [7, 13] (fun v7 v13 wx => ∃ i s : Nat, i ≤ n ∧ v13 = .int .i64 i ∧ v7 = .float .f64 s ∧ Dr w wx ∧ fnum s = fsqs (cellsOf xs off) (fun _ => fnum m) i) (fun _ v13 _ => n - (intOf v13).toNat)
  case atStart => exact ⟨0, 0, Nat.zero_le _, rfl, rfl, Dr.refl _, fnum0⟩
  case round =>
    obtain ⟨i, s, hi, rfl, rfl, hD, hs⟩ := hrel
    have HS : Hid (fnum s = fsqs (cellsOf xs off) (fun _ => fnum m) i) := hs
    have HD : Hid (Dr w wr) := hD
    clear hs
    by_cases hlt : i < n
    · obtain ⟨rfl, hF, hl⟩ := hq (by omega)
      have hc := (fb_dr hF hD).cell (off + i) (by omega)
      obtain ⟨v, hv⟩ : ∃ v, xs.getD (off + i) 0 = v := ⟨_, rfl⟩
      rw [hv] at hc
      have HV : Hid (cellsOf xs off i = fnum v) := (by unfold cellsOf; rw [hv] : cellsOf xs off i = fnum v)
      clear hv hF hq hD
      cases hx : fnum v with
      | none =>
        have eo := ord_none v v hx
        go_wp2
        go_roundw
        case rel => exact ⟨i + 1, s, by omega, by go_num, rfl, HD.out, by rw [HS.out]; simp only [fsqs]; rw [HV.out, hx]; rfl⟩
        case measure => simp [intOf]; omega
      | some v' =>
        have eo := ord_self v
        rw [hx] at eo
        simp only [Option.map_some] at eo
        obtain ⟨d, w1, e1, f1, d1⟩ := fstep .sub (.inr (.inl rfl)) v m wr
        obtain ⟨y, w2, e2, f2, d2⟩ := fstep .mul (.inr (.inr (.inl rfl))) d d w1
        obtain ⟨z, w3, e3, f3, d3⟩ := fstep .add (.inl rfl) s y w2
        have HZ : Hid (fnum z = fsqs (cellsOf xs off) (fun _ => fnum m) (i + 1) ∧ Dr w w3) := (⟨by rw [f3, f2, f1, HS.out]; simp only [fsqs]; rw [HV.out, hx]; rfl, ((HD.out.trans d1).trans d2).trans d3⟩ : fnum z = fsqs (cellsOf xs off) (fun _ => fnum m) (i + 1) ∧ Dr w w3)
        clear f1 f2 f3 d1 d2 d3 hx
        go_wp2
        go_roundw
        case rel => exact ⟨i + 1, z, by omega, by go_num, rfl, HZ.out.2, HZ.out.1⟩
        case measure => simp [intOf]; omega
    · have ein : i = n := by omega
      obtain ⟨z, w2, e2, f2, d2⟩ := fstep .quo (.inr (.inr (.inr rfl))) s cf wr
      have HR : Hid (fnum z = fop .quo (fsqs (cellsOf xs off) (fun _ => fnum m) n) (fcnt c) ∧ Dr w w2) := (⟨by rw [f2, HS.out, HC.out, ein], HD.out.trans d2⟩ : fnum z = fop .quo (fsqs (cellsOf xs off) (fun _ => fnum m) n) (fcnt c) ∧ Dr w w2)
      clear f2 d2 hq hD
      go_wp2_with (go_at_call 25; refine (sqrt25 z _).mono ?_; rintro e w3 ⟨r, rfl, hr, hd3⟩)
      go_ret
      exact ⟨_, rfl, ⟨by rw [hr.1, HR.out.1]; rfl, hr.2⟩, HR.out.2.trans hd3⟩
end Go.Proofs.Qxb6605746aFmt.A8
