import Derived.Test.Qxb6605746aFmtB1
set_option linter.unusedVariables false
set_option linter.unusedSimpArgs false
namespace Go.Proofs.Qxb6605746aFmt.B2
open Go.RowKit Go.Extern.Stop Go.Stop Go.Extern Go.Proofs.Qxb6605746aFmt.P1 Go.Proofs.Qxb6605746aFmt.P3 Go.Proofs.Qxb6605746aFmt.P7 Go.Proofs.Qxb6605746aFmt.A1 Go.Proofs.Qxb6605746aFmt.A2 Go.Proofs.Qxb6605746aFmt.A3 Go.Proofs.Qxb6605746aFmt.A4 Go.Proofs.Qxb6605746aFmt.A5 Go.Proofs.Qxb6605746aFmt.A6 Go.Proofs.Qxb6605746aFmt.A7 Go.Proofs.Qxb6605746aFmt.A8 Go.Proofs.Qxb6605746aFmt.A9 Go.Proofs.Qxb6605746aFmt.B1

theorem dr_bel {w w' : World} (h : Dr w w') : Below w.heap.size w w' := by
  obtain ⟨n, rfl⟩ := h
  exact ⟨rfl, rfl, rfl, Nat.le_refl _, fun _ _ => rfl⟩
theorem dr_oth {w w' : World} (s : Nat) (h : Dr w w') : Oth s w w' := by
  obtain ⟨n, rfl⟩ := h
  exact ⟨rfl, rfl, rfl, Nat.le_refl _, fun _ _ _ => rfl⟩
theorem bel_trans {w wx wy : World} (h : Below w.heap.size w wx) (k : Below wx.heap.size wx wy) : Below w.heap.size w wy := h.trans (k.mono h.size)

theorem max_fun (x y : Nat) (hx : x < 2 ^ 64) (hy : y < 2 ^ 64) : ∃ (R : World → Nat) (Wm : World → World), (∀ w ats t, (Builtin.max_ ats t #[.float .f64 x, .float .f64 y]).run Tryf.prog w = .ok (.float .f64 (R w)) (Wm w)) ∧ (∀ w, fnum (R w) = fmax (fnum x) (fnum y) ∧ R w < 2 ^ 64) ∧ (∀ w a, (Wm w).cell? a = w.cell? a) ∧ (∀ w a, (Wm w).frozen? a = w.frozen? a) ∧ ∀ w, Dr w (Wm w) := by
  have h := fun w => max_step x y hx hy w
  obtain ⟨R, hR⟩ := Classical.skolem.1 h
  obtain ⟨Wm, hW⟩ := Classical.skolem.1 hR
  refine ⟨R, Wm, fun w => (hW w).1, fun w => (hW w).2.1, fun w a => ?_, fun w a => ?_, fun w => (hW w).2.2⟩
  · obtain ⟨n, hn⟩ := (hW w).2.2
    rw [hn]; rfl
  · obtain ⟨n, hn⟩ := (hW w).2.2
    rw [hn]; rfl

def SDok (w w' : World) (e : Ending) (sd : Option Nat) (A T rn cn rm rs cm cs cu bf R C rf cf : Nat) (mx : Option Nat) : Prop :=
  ∃ r v, e = .returned (.tuple #[.float .f64 r, .pointer none]) ∧ (fnum r = sd ∧ r < 2 ^ 64) ∧ (fnum v = mx ∧ v < 2 ^ 64) ∧ AB w' A T rn cn rm rs cm cs cu bf R C rf v ∧ Oth A w w'
def Bad (w w' : World) (e : Ending) : Prop := ∃ q, e = .returned (.tuple #[.float .f64 0, .pointer (some q)]) ∧ Below w.heap.size w w'

set_option maxRecDepth 100000 in
set_option maxHeartbeats 2000000 in
theorem sdof35 (F : Interp) (A T rn cn rm rs cm cs cu bf R C rf cf i : Nat) (n1 n2 : Int) (p3 : Option Addr) (L3 C3 : Nat) (q : Option Addr) (n cap b off : Nat) (xs : List Nat) (RN : List Int) (m : Nat) (w : World)
    (hF : Hid (F.answers w.tape)) (hA : AB w A T rn cn rm rs cm cs cu bf R C rf cf) (hT : TB w T n1 n2 p3 L3 C3) (hR : IB w rn RN) (hRl : RN.length = R) (hi : i < R) (hR' : R ≤ 1048576) (hx : Hid (RS w q n cap b off xs)) (hm : m < 2 ^ 64) (hcf : cf < 2 ^ 64)
    (hc1 : -1000000 ≤ RN.getD i 0) (hc2 : RN.getD i 0 ≤ 1000000) :
    Calls Tryf.prog 35 #[.pointer (some ⟨A, 0, none⟩), .int .i64 (i : Int), .slice q n cap, .float .f64 m] w fun e w' =>
      (P5.ok (fsd (cellsOf xs off) (fnum m) n (RN.getD i 0)) (fnum rf) = true ∧ SDok w w' e (fsd (cellsOf xs off) (fnum m) n (RN.getD i 0)) A T rn cn rm rs cm cs cu bf R C rf cf (fmax (fnum cf) (fscal (RN.getD i 0) (fnum m) (fsd (cellsOf xs off) (fnum m) n (RN.getD i 0))))) ∨
      (P5.ok (fsd (cellsOf xs off) (fnum m) n (RN.getD i 0)) (fnum rf) = false ∧ Bad w w' e) := by
  have hcr := hR.cell i (by omega)
  obtain ⟨c, hc⟩ : ∃ c, RN.getD i 0 = c := ⟨_, rfl⟩
  rw [hc] at hcr hc1 hc2 ⊢
  have c0 := hA.c0
  have c1 := hA.c1
  have HA : Hid (AB w A T rn cn rm rs cm cs cu bf R C rf cf) := hA
  have HT : Hid (TB w T n1 n2 p3 L3 C3) := hT
  have HR : Hid (IB w rn RN) := hR
  have HRC : Hid (RN.getD i 0 = c ∧ i < RN.length) := ⟨hc, by omega⟩
  clear hA hT hR hc
  have hsf := store_float
  go_enter Tryf.func35, Tryf.ntmps35
  go_wp2_with (go_at_call 46; refine (sd46 q n cap b off xs m c _ hx.out).mono ?_; rintro e w1 ⟨sd, rfl, hsd, hd1⟩)
  have HSD : Hid ((fnum sd = fsd (cellsOf xs off) (fnum m) n c ∧ sd < 2 ^ 64) ∧ Dr w w1) := ⟨hsd, hd1⟩
  have HA1 : Hid (AB w1 A T rn cn rm rs cm cs cu bf R C rf cf) := HA.out.below (dr_bel hd1)
  have HT1 : Hid (TB w1 T n1 n2 p3 L3 C3) := ((dr_bel hd1).block T (lt_of_block HT.out)).trans HT.out
  have d0 := HA1.out.c0
  have d9 := HA1.out.c9
  have HF1 : Hid (F.answers w1.tape) := (by rw [(dr_bel hd1).tape]; exact hF.out : F.answers w1.tape)
  clear c0 c1 hcr hsd hd1
  have HN : ∀ nn, Calls Tryf.prog 47 #[.float .f64 sd, .float .f64 rf, .func (.func 48) #[.pointer (some ⟨T, 0, none⟩)] #[], .int .i64 (i : Int)] (w1.drewN nn) fun e w' =>
      (P5.ok (fnum sd) (fnum rf) = true ∧ e = .returned (.pointer none) ∧ w' = w1.drewN nn) ∨ (P5.ok (fnum sd) (fnum rf) = false ∧ (∃ q, e = .returned (.pointer (some q))) ∧ Below (w1.drewN nn).heap.size (w1.drewN nn) w') := fun nn => check47_48 sd rf T (i : Int) (w1.drewN nn) (name48 F T (i : Int) (w1.drewN nn) HF1.out HT1.out.labels HT1.out.lines)
  cases hok : P5.ok (fnum sd) (fnum rf) with
  | false =>
    have H47 : Hid (∀ nn, Calls Tryf.prog 47 #[.float .f64 sd, .float .f64 rf, .func (.func 48) #[.pointer (some ⟨T, 0, none⟩)] #[], .int .i64 (i : Int)] (w1.drewN nn) fun e w' => (∃ q, e = .returned (.pointer (some q))) ∧ Below w1.heap.size w1 w') := by
      intro nn
      refine (HN nn).mono ?_
      rintro e w' (⟨h, _⟩ | ⟨_, h1, h2⟩)
      · rw [hok] at h; cases h
      · exact ⟨h1, ⟨h2.os, h2.tape, h2.output, h2.size, h2.block⟩⟩
    have HOK : Hid (P5.ok (fsd (cellsOf xs off) (fnum m) n c) (fnum rf) = false) := (by rw [← HSD.out.1.1]; exact hok : P5.ok (fsd (cellsOf xs off) (fnum m) n c) (fnum rf) = false)
    clear HN hok
    go_region_with (go_at_call 47; refine (H47.out _).mono ?_; rintro e w2 ⟨⟨q2, rfl⟩, hb2⟩)
    all_goals go_wp2
    all_goals go_ret2
    all_goals exact .inr ⟨HOK.out, _, rfl, bel_trans (dr_bel HSD.out.2) hb2⟩
  | true =>
    have H47 : Hid (∀ nn, Calls Tryf.prog 47 #[.float .f64 sd, .float .f64 rf, .func (.func 48) #[.pointer (some ⟨T, 0, none⟩)] #[], .int .i64 (i : Int)] (w1.drewN nn) fun e w' => e = .returned (.pointer none) ∧ w' = w1.drewN nn) := by
      intro nn
      refine (HN nn).mono ?_
      rintro e w' (⟨_, h1, h2⟩ | ⟨h, _⟩)
      · exact ⟨h1, h2⟩
      · rw [hok] at h; cases h
    have HOK : Hid (P5.ok (fsd (cellsOf xs off) (fnum m) n c) (fnum rf) = true) := (by rw [← HSD.out.1.1]; exact hok : P5.ok (fsd (cellsOf xs off) (fnum m) n c) (fnum rf) = true)
    clear HN hok
    go_region_with (go_at_call 47; refine (H47.out _).mono ?_; rintro e w2 ⟨rfl, rfl⟩)
    all_goals go_wp2_with (fail)
    all_goals (
      refine wp_gen (fun W => Dr w1 W) ⟨_, rfl⟩ ?_
      intro w3 hd3
      have HD3 : Hid (Dr w w3) := HSD.out.2.trans hd3
      have HA3 : Hid (AB w3 A T rn cn rm rs cm cs cu bf R C rf cf) := HA1.out.below (dr_bel hd3)
      have HB3 : Hid (IB w3 rn RN) := HR.out.below (dr_bel HD3.out)
      have k1 := HA3.out.c1
      have k10 := HA3.out.c10
      have kf := HA3.out.fz 10
      have kr := HB3.out.cell i HRC.out.2
      rw [HRC.out.1] at kr
      clear hd3 d0 d9
      have H49 : Hid (∀ W, Calls Tryf.prog 49 #[.int .i64 c, .float .f64 m, .float .f64 sd] W fun e w' => ∃ r, e = .returned (.float .f64 r) ∧ (fnum r = fscal c (fnum m) (fnum sd) ∧ r < 2 ^ 64) ∧ Dr W w') := fun W => scal49 c m sd hc1 hc2 hm W
      go_region_with (go_at_call 49; refine (H49.out _).mono ?_; rintro e w4 ⟨z, rfl, hz, hd4⟩; obtain ⟨RR, Wm, m1, m2, m3, m4, m5⟩ := max_fun cf z hcf hz.2; have HZ : Hid (fnum z = fscal c (fnum m) (fnum sd)) := hz.1; have HD4 : Hid (Dr w3 w4) := Dr.trans ⟨_, rfl⟩ hd4; have q10 : w4.cell? ⟨A, 10, none⟩ = some (.float .f64 cf) := (HA3.out.below (dr_bel HD4.out)).c10; have qf : w4.frozen? ⟨A, 10, none⟩ = false := (HA3.out.below (dr_bel HD4.out)).fz 10; have q1 : w4.cell? ⟨A, 1, none⟩ = some (.slice (some ⟨rn, 0, none⟩) R R) := (HA3.out.below (dr_bel HD4.out)).c1; have HM2 : Hid (∀ w, fnum (RR w) = fmax (fnum cf) (fnum z) ∧ RR w < 2 ^ 64) := m2; have HM5 : Hid (∀ w, Dr w (Wm w)) := m5; clear hz hd4 m2 m5)
      all_goals go_wp2
      all_goals go_ret2
      all_goals exact .inl ⟨HOK.out, sd, _, rfl, HSD.out.1, ⟨by rw [(HM2.out _).1, HZ.out, HSD.out.1.1], (HM2.out _).2⟩, (HA3.out.below (dr_bel (HD4.out.trans (HM5.out _)))).set10 _, ((dr_oth A ((HD3.out.trans HD4.out).trans (HM5.out _))).set _ _)⟩)
end Go.Proofs.Qxb6605746aFmt.B2
