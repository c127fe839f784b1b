import Derived.Test.Qxb6605746aFmtC4
set_option linter.unusedVariables false
set_option linter.unusedSimpArgs false
namespace Go.Proofs.Qxb6605746aFmt.C5
open Go.RowKit Go.Extern.Stop Go.Stop Go.Extern Go.Proofs.Qxb6605746aFmt.P1 Go.Proofs.Qxb6605746aFmt.P3 Go.Proofs.Qxb6605746aFmt.P7 Go.Proofs.Qxb6605746aFmt.P8 Go.Proofs.Qxb6605746aFmt.A1 Go.Proofs.Qxb6605746aFmt.A2 Go.Proofs.Qxb6605746aFmt.A3 Go.Proofs.Qxb6605746aFmt.A4 Go.Proofs.Qxb6605746aFmt.A5 Go.Proofs.Qxb6605746aFmt.A6 Go.Proofs.Qxb6605746aFmt.A7 Go.Proofs.Qxb6605746aFmt.A8 Go.Proofs.Qxb6605746aFmt.A9 Go.Proofs.Qxb6605746aFmt.B1 Go.Proofs.Qxb6605746aFmt.B3 Go.Proofs.Qxb6605746aFmt.B4 Go.Proofs.Qxb6605746aFmt.B5 Go.Proofs.Qxb6605746aFmt.B6 Go.Proofs.Qxb6605746aFmt.B7 Go.Proofs.Qxb6605746aFmt.C1 Go.Proofs.Qxb6605746aFmt.C2 Go.Proofs.Qxb6605746aFmt.C3 Go.Proofs.Qxb6605746aFmt.C4

def XX (xs : List Nat) (C : Nat) : Nat → Nat → Option Nat := fun i => cellsOf xs (i * C)
def IN (RN : List Int) : Nat → Int := fun i => RN.getD i 0

theorem rs_dr {w w' : World} {q : Option Addr} {n cap b off : Nat} {xs : List Nat} (h : RS w q n cap b off xs) (d : Dr w w') : RS w' q n cap b off xs :=
  ⟨h.1, h.2.1, fun h0 => ⟨(h.2.2 h0).1, fb_dr (h.2.2 h0).2.1 d, (h.2.2 h0).2.2⟩⟩

section
variable (w0 wx : World) (A T rn cn rm rs cm cs cu bf R C rf cb L : Nat) (p : Option Addr) (xs : List Nat) (RN : List Int)
/-- The state when i rows are fitted. -/
def L1 (i : Nat) (RM RD US bs : List Nat) (cf : Nat) : Prop :=
  Ctx wx A T rn cn rm rs cm cs cu bf R C rf cf cb L p xs RM RD ∧
  (∀ a, a < i → fnum (RM.getD a 0) = rmOf (XX xs C) (IN RN) C a ∧ fnum (RD.getD a 0) = rsOf (XX xs C) (IN RN) C a ∧ P5.ok (rsOf (XX xs C) (IN RN) C a) (fnum rf) = true) ∧
  (fnum cf = cfOf (XX xs C) (IN RN) C i ∧ cf < 2 ^ 64) ∧
  (FB wx cu US ∧ US.length = C ∧ ∀ j, j < C → fnum (US.getD j 0) = fsum (fun a => yOf (XX xs C) (IN RN) C a j) i) ∧
  (FB wx bf bs ∧ bs.length = C) ∧ OL [A, rm, rs, cu, bf] w0 wx
end

theorem sd_bad (F : Interp) (A T rn cn rm rs cm cs cu bf R C rf cf i : Nat) (n1 n2 : Int) (p3 : Option Addr) (L3 C3 : Nat) (q : Option Addr) (n cap b off : Nat) (xs : List Nat) (RN : List Int) (m : Nat) (w : World)
    (hF : Hid (F.answers w.tape)) (hA : AB w A T rn cn rm rs cm cs cu bf R C rf cf) (hT : TB w T n1 n2 p3 L3 C3) (hR : IB w rn RN) (hRl : RN.length = R) (hi : i < R) (hR' : R ≤ 1048576) (hx : Hid (RS w q n cap b off xs)) (hm : m < 2 ^ 64) (hcf : cf < 2 ^ 64)
    (hc1 : -1000000 ≤ RN.getD i 0) (hc2 : RN.getD i 0 ≤ 1000000) (hok : P5.ok (fsd (cellsOf xs off) (fnum m) n (RN.getD i 0)) (fnum rf) = false) :
    Calls Tryf.prog 35 #[.pointer (some ⟨A, 0, none⟩), .int .i64 (i : Int), .slice q n cap, .float .f64 m] w fun e w' => B2.Bad w w' e := by
  refine (B2.sdof35 F A T rn cn rm rs cm cs cu bf R C rf cf i n1 n2 p3 L3 C3 q n cap b off xs RN m w hF hA hT hR hRl hi hR' hx hm hcf hc1 hc2).mono ?_
  rintro e w' (⟨h, _⟩ | ⟨_, h⟩)
  · rw [hok] at h; cases h
  · exact h
theorem sd_good (F : Interp) (A T rn cn rm rs cm cs cu bf R C rf cf i : Nat) (n1 n2 : Int) (p3 : Option Addr) (L3 C3 : Nat) (q : Option Addr) (n cap b off : Nat) (xs : List Nat) (RN : List Int) (m : Nat) (w : World)
    (hF : Hid (F.answers w.tape)) (hA : AB w A T rn cn rm rs cm cs cu bf R C rf cf) (hT : TB w T n1 n2 p3 L3 C3) (hR : IB w rn RN) (hRl : RN.length = R) (hi : i < R) (hR' : R ≤ 1048576) (hx : Hid (RS w q n cap b off xs)) (hm : m < 2 ^ 64) (hcf : cf < 2 ^ 64)
    (hc1 : -1000000 ≤ RN.getD i 0) (hc2 : RN.getD i 0 ≤ 1000000) (hok : P5.ok (fsd (cellsOf xs off) (fnum m) n (RN.getD i 0)) (fnum rf) = true) :
    Calls Tryf.prog 35 #[.pointer (some ⟨A, 0, none⟩), .int .i64 (i : Int), .slice q n cap, .float .f64 m] w fun e w' => B2.SDok w w' e (fsd (cellsOf xs off) (fnum m) n (RN.getD i 0)) A T rn cn rm rs cm cs cu bf R C rf cf (fmax (fnum cf) (fscal (RN.getD i 0) (fnum m) (fsd (cellsOf xs off) (fnum m) n (RN.getD i 0)))) := by
  refine (B2.sdof35 F A T rn cn rm rs cm cs cu bf R C rf cf i n1 n2 p3 L3 C3 q n cap b off xs RN m w hF hA hT hR hRl hi hR' hx hm hcf hc1 hc2).mono ?_
  rintro e w' (⟨_, h⟩ | ⟨h, _⟩)
  · exact h
  · rw [hok] at h; cases h

theorem ctx_cf {w w' : World} {A T rn cn rm rs cm cs cu bf R C rf cf cf' cb L : Nat} {p : Option Addr} {xs RM RD : List Nat} (h : Ctx w A T rn cn rm rs cm cs cu bf R C rf cf cb L p xs RM RD) (hO : Oth A w w') (hA : AB w' A T rn cn rm rs cm cs cu bf R C rf cf')
    (d1 : T ≠ A) (d2 : cb ≠ A) (d3 : rm ≠ A) (d4 : rs ≠ A) : Ctx w' A T rn cn rm rs cm cs cu bf R C rf cf' cb L p xs RM RD := by
  obtain ⟨h1, h2, ⟨h3, h4, h5⟩, ⟨h6, h7⟩, h8, h9⟩ := h
  refine ⟨hA, (hO.2.2.2.2 T (lt_of_block h2) d1).trans h2, ⟨h3, h4, ?_⟩, ⟨h6.oth hO d3, h7⟩, h8.oth hO d4, h9⟩
  rcases h5 with h5 | ⟨h5, h10⟩
  · exact .inl h5
  · exact .inr ⟨h5, h10.oth hO d2⟩
theorem ctx_rm {w : World} {A T rn cn rm rs cm cs cu bf R C rf cf cb L i m : Nat} {p : Option Addr} {xs RM RD : List Nat} (h : Ctx w A T rn cn rm rs cm cs cu bf R C rf cf cb L p xs RM RD)
    (d1 : A ≠ rm) (d2 : T ≠ rm) (d3 : cb ≠ rm) (d4 : rs ≠ rm) : Ctx (w.setCell ⟨rm, i, none⟩ (.float .f64 m)) A T rn cn rm rs cm cs cu bf R C rf cf cb L p xs (RM.set i m) RD := by
  have hO : Oth rm w (w.setCell ⟨rm, i, none⟩ (.float .f64 m)) := (Oth.refl rm w).set i _
  obtain ⟨h1, h2, ⟨h3, h4, h5⟩, ⟨h6, h7⟩, h8, h9⟩ := h
  refine ⟨h1.oth hO d1, (hO.2.2.2.2 T (lt_of_block h2) d2).trans h2, ⟨h3, h4, ?_⟩, ⟨h6.set i m, by simp [h7]⟩, h8.oth hO d4, h9⟩
  rcases h5 with h5 | ⟨h5, h10⟩
  · exact .inl h5
  · exact .inr ⟨h5, h10.oth hO d3⟩
theorem ctx_rs {w : World} {A T rn cn rm rs cm cs cu bf R C rf cf cb L i m : Nat} {p : Option Addr} {xs RM RD : List Nat} (h : Ctx w A T rn cn rm rs cm cs cu bf R C rf cf cb L p xs RM RD)
    (d1 : A ≠ rs) (d2 : T ≠ rs) (d3 : cb ≠ rs) (d4 : rm ≠ rs) : Ctx (w.setCell ⟨rs, i, none⟩ (.float .f64 m)) A T rn cn rm rs cm cs cu bf R C rf cf cb L p xs RM (RD.set i m) := by
  have hO : Oth rs w (w.setCell ⟨rs, i, none⟩ (.float .f64 m)) := (Oth.refl rs w).set i _
  obtain ⟨h1, h2, ⟨h3, h4, h5⟩, ⟨h6, h7⟩, h8, h9⟩ := h
  refine ⟨h1.oth hO d1, (hO.2.2.2.2 T (lt_of_block h2) d2).trans h2, ⟨h3, h4, ?_⟩, ⟨h6.oth hO d4, h7⟩, h8.set i m, by simp [h9]⟩
  rcases h5 with h5 | ⟨h5, h10⟩
  · exact .inl h5
  · exact .inr ⟨h5, h10.oth hO d3⟩
theorem ctx_bel {w w' : World} {A T rn cn rm rs cm cs cu bf R C rf cf cb L : Nat} {p : Option Addr} {xs RM RD : List Nat} (h : Ctx w A T rn cn rm rs cm cs cu bf R C rf cf cb L p xs RM RD) (hb : Below w.heap.size w w') : Ctx w' A T rn cn rm rs cm cs cu bf R C rf cf cb L p xs RM RD :=
  h.step (fun k hk _ => hb.block k hk)

section
variable {w0 w : World} {A T rn cn rm rs cm cs cu bf R C rf cb L : Nat} {p : Option Addr} {xs : List Nat} {RN : List Int}
/-- The stores of a row's mean and SD, in either order. -/
def Put (wr W : World) (A T rn cn rm rs cm cs cu bf R C rf cf cb L i m sd : Nat) (p : Option Addr) (xs RM RD US bs : List Nat) : Prop :=
  Ctx W A T rn cn rm rs cm cs cu bf R C rf cf cb L p xs (RM.set i m) (RD.set i sd) ∧ FB W cu US ∧ FB W bf bs ∧ OL [A, rm, rs] wr W

theorem l1_step {wr w6 : World} {i m sd v : Nat} {RM RD US bs ys U2 : List Nat} {cf : Nat} (h : L1 w0 wr A T rn cn rm rs cm cs cu bf R C rf cb L p xs RN i RM RD US bs cf) (hi : i < R)
    (hm : fnum m = rmOf (XX xs C) (IN RN) C i) (hsd : fnum sd = rsOf (XX xs C) (IN RN) C i) (hok : P5.ok (rsOf (XX xs C) (IN RN) C i) (fnum rf) = true) (hv : fnum v = fmax (fnum cf) (fscal (RN.getD i 0) (fnum m) (fnum sd)) ∧ v < 2 ^ 64)
    (hX : Ctx w6 A T rn cn rm rs cm cs cu bf R C rf v cb L p xs (RM.set i m) (RD.set i sd)) (hU : FB w6 cu U2) (hys : Scl C C (cellsOf xs (i * C)) (fnum ((RM.set i m).getD i 0)) (fnum ((RD.set i sd).getD i 0)) ys) (hP : Part C C US ys 0 U2) (hB : FB w6 bf ys) (hO : OL [A, rm, rs, cu, bf] wr w6) :
    L1 w0 w6 A T rn cn rm rs cm cs cu bf R C rf cb L p xs RN (i + 1) (RM.set i m) (RD.set i sd) U2 ys v := by
  obtain ⟨h1, h2, h3, h4, h5, h6⟩ := h
  have hRM : RM.length = R := h1.2.2.2.1.2
  have hRD : RD.length = R := h1.2.2.2.2.2
  have e1 : (RM.set i m).getD i 0 = m := by rw [getD_set _ _ _ _ (by omega), if_pos rfl]
  have e2 : (RD.set i sd).getD i 0 = sd := by rw [getD_set _ _ _ _ (by omega), if_pos rfl]
  rw [e1, e2] at hys
  refine ⟨hX, fun a ha => ?_, ⟨?_, hv.2⟩, ⟨hU, hP.1, fun j hj => ?_⟩, ⟨hB, hys.1⟩, h6.trans hO⟩
  · by_cases e : a = i
    · subst e
      rw [e1, e2]
      exact ⟨hm, hsd, hok⟩
    · rw [getD_set _ _ _ _ (by omega), if_neg e, getD_set _ _ _ _ (by omega), if_neg e]
      exact h2 a (by omega)
  · rw [hv.1, h3.1, hm, hsd]
    rfl
  · rw [hP.2.1 j hj, h4.2.2 j hj, Nat.zero_add, hys.2 j hj, hm, hsd]
    rfl
end
end Go.Proofs.Qxb6605746aFmt.C5
