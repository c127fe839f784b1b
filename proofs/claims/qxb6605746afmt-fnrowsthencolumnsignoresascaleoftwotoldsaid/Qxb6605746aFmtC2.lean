import Derived.Test.Qxb6605746aFmtC1
import Derived.Test.Qxb6605746aFmtB2
set_option linter.unusedVariables false
set_option linter.unusedSimpArgs false
namespace Go.Proofs.Qxb6605746aFmt.C2
open Go.RowKit Go.Extern.Stop Go.Stop Go.Extern Go.Proofs.Qxb6605746aFmt.P1 Go.Proofs.Qxb6605746aFmt.P3 Go.Proofs.Qxb6605746aFmt.P7 Go.Proofs.Qxb6605746aFmt.A1 Go.Proofs.Qxb6605746aFmt.A2 Go.Proofs.Qxb6605746aFmt.A3 Go.Proofs.Qxb6605746aFmt.A4 Go.Proofs.Qxb6605746aFmt.A5 Go.Proofs.Qxb6605746aFmt.A6 Go.Proofs.Qxb6605746aFmt.A7 Go.Proofs.Qxb6605746aFmt.A8 Go.Proofs.Qxb6605746aFmt.A9 Go.Proofs.Qxb6605746aFmt.B1 Go.Proofs.Qxb6605746aFmt.B3 Go.Proofs.Qxb6605746aFmt.B4 Go.Proofs.Qxb6605746aFmt.B6 Go.Proofs.Qxb6605746aFmt.B7 Go.Proofs.Qxb6605746aFmt.C1

theorem clear_sign' (x : Nat) : bits .andNot .u64 (x : Int) 9223372036854775808 = ((x % 2 ^ 63 : Nat) : Int) := by
  have e1 : ~~~(BitVec.ofInt 64 9223372036854775808) = BitVec.ofNat 64 (2 ^ 63 - 1) := by decide
  have e2 : BitVec.ofInt 64 (x : Int) = BitVec.ofNat 64 x := BitVec.ofInt_natCast _ _
  show IntKind.u64.wrap (((BitVec.ofInt 64 (x : Int)) &&& ~~~(BitVec.ofInt 64 9223372036854775808)).toNat : Int) = _
  rw [e1, e2, BitVec.toNat_and, BitVec.toNat_ofNat, BitVec.toNat_ofNat, Nat.mod_eq_of_lt (by decide : 2 ^ 63 - 1 < 2 ^ 64), Nat.and_two_pow_sub_one_eq_mod, Nat.mod_mod_of_dvd _ (by decide : 2 ^ 63 ∣ 2 ^ 64)]
  have h : x % 2 ^ 63 < 2 ^ 63 := Nat.mod_lt _ (by decide)
  generalize x % 2 ^ 63 = y at *
  simp only [IntKind.wrap_u64]
  omega
theorem abs29' (x : Nat) (w : World) : Calls Tryf.prog 29 #[.float .f64 x] w fun e w' => ∃ r, e = .returned (.float .f64 r) ∧ (fnum r = fabs (fnum x) ∧ r < 2 ^ 64) ∧ w' = w := by
  have h1 := bits42
  have h2 := from41
  go_enter Tryf.func29, Tryf.ntmps29
  go_wp2
  go_ret
  refine ⟨_, rfl, ?_, rfl⟩
  rw [clear_sign' x, Int.toNat_natCast, fabs_fnum]
  have h : x % 2 ^ 63 < 2 ^ 63 := Nat.mod_lt _ (by decide)
  exact ⟨rfl, by omega⟩
set_option maxHeartbeats 400000 in
theorem scal49' (n : Int) (m sd : Nat) (h1 : -1000000 ≤ n) (h2 : n ≤ 1000000) (w : World) :
    Calls Tryf.prog 49 #[.int .i64 n, .float .f64 m, .float .f64 sd] w fun e w' => ∃ r, e = .returned (.float .f64 r) ∧ (fnum r = fscal n (fnum m) (fnum sd) ∧ r < 2 ^ 64) ∧ Dr w w' := by
  obtain ⟨nf, hnf⟩ : ∃ nf, floatOfInt .f64 n = nf := ⟨_, rfl⟩
  have HN : Hid (fnum nf = fcnt n) := (by unfold fcnt; rw [hnf] : fnum nf = fcnt n)
  go_enter Tryf.func49, Tryf.ntmps49
  go_wp2_with (first
    | (go_at_call 29; refine (abs29' m _).mono ?_; rintro e w0 ⟨a, rfl, ha, hw⟩; obtain rfl : w = w0 := hw.symm; clear hw; have HA : Hid (fnum a = fabs (fnum m)) := ha.1; clear ha)
    | (go_at_call 25; refine (sqrt25 nf _).mono ?_; rintro e w1 ⟨q, rfl, hq, hd1⟩; obtain ⟨x, w2, e2, f2, d2⟩ := fstep' .mul (.inr (.inr (.inl rfl))) q sd w1; obtain ⟨y, w3, e3, f3, d3⟩ := fstep' .add (.inl rfl) a x w2; have HY : Hid (fnum y = fop .add (fabs (fnum m)) (fop .mul (fsqrt (fcnt n)) (fnum sd)) ∧ Dr w w3) := (⟨by rw [f3.1, HA.out, f2.1, hq.1, HN.out], (hd1.trans d2).trans d3⟩ : fnum y = fop .add (fabs (fnum m)) (fop .mul (fsqrt (fcnt n)) (fnum sd)) ∧ Dr w w3); clear hq hd1 f2 d2 f3 d3)
    | (go_at_call 55; refine (round55 n y h1 h2 _).mono ?_; rintro e w4 ⟨z, rfl, hz, hd4⟩; obtain ⟨u, w5, e5, f5, d5⟩ := fstep' .quo (.inr (.inr (.inr rfl))) z sd w4; have HU : Hid ((fnum u = fscal n (fnum m) (fnum sd) ∧ u < 2 ^ 64) ∧ Dr w w5) := (⟨⟨by rw [f5.1, hz.1, HY.out.1]; rfl, f5.2⟩, (HY.out.2.trans hd4).trans d5⟩ : (fnum u = fscal n (fnum m) (fnum sd) ∧ u < 2 ^ 64) ∧ Dr w w5); clear hz hd4 f5 d5))
  go_ret
  exact ⟨_, rfl, HU.out.1, HU.out.2⟩

/-- Behind a walk that writes the blocks of l alone, and makes new ones. -/
def OL (l : List Nat) (w w' : World) : Prop := w'.os = w.os ∧ w'.tape = w.tape ∧ w'.output = w.output ∧ w.heap.size ≤ w'.heap.size ∧ ∀ k, k < w.heap.size → k ∉ l → w'.heap[k]? = w.heap[k]?
theorem OL.refl (l : List Nat) (w : World) : OL l w w := ⟨rfl, rfl, rfl, Nat.le_refl _, fun _ _ _ => rfl⟩
theorem OL.trans {l : List Nat} {w w1 w2 : World} (h : OL l w w1) (k : OL l w1 w2) : OL l w w2 := by
  obtain ⟨a1, a2, a3, a4, a5⟩ := h
  obtain ⟨b1, b2, b3, b4, b5⟩ := k
  exact ⟨b1.trans a1, b2.trans a2, b3.trans a3, Nat.le_trans a4 b4, fun i hi hs => (b5 i (Nat.lt_of_lt_of_le hi a4) hs).trans (a5 i hi hs)⟩
theorem OL.of {s : Nat} {l : List Nat} {w w' : World} (h : Oth s w w') (hs : s ∈ l) : OL l w w' := ⟨h.1, h.2.1, h.2.2.1, h.2.2.2.1, fun k hk hn => h.2.2.2.2 k hk (fun e => hn (e ▸ hs))⟩
theorem OL.of2 {s t : Nat} {l : List Nat} {w w' : World} (h : Oth2 s t w w') (hs : s ∈ l) (ht : t ∈ l) : OL l w w' := ⟨h.1, h.2.1, h.2.2.1, h.2.2.2.1, fun k hk hn => h.2.2.2.2 k hk (fun e => hn (e ▸ hs)) (fun e => hn (e ▸ ht))⟩
theorem OL.below {l : List Nat} {w w' : World} (h : Below w.heap.size w w') : OL l w w' := ⟨h.os, h.tape, h.output, h.size, fun k hk _ => h.block k hk⟩
theorem OL.set {s : Nat} {l : List Nat} {w w1 : World} (h : OL l w w1) (hs : s ∈ l) (i : Nat) (v : Value) : OL l w (w1.setCell ⟨s, i, none⟩ v) :=
  h.trans (OL.of (Oth.set (Oth.refl s w1) i v) hs)
theorem OL.mono {l l' : List Nat} {w w1 : World} (h : OL l w w1) (hs : ∀ k, k ∈ l → k ∈ l') : OL l' w w1 := ⟨h.1, h.2.1, h.2.2.1, h.2.2.2.1, fun k hk hn => h.2.2.2.2 k hk (fun hm => hn (hs k hm))⟩
theorem OL.fb {l : List Nat} {w w' : World} {b : Nat} {zs : List Nat} (h : FB w b zs) (ho : OL l w w') (hs : b ∉ l) : FB w' b zs := (ho.2.2.2.2 b h.lt hs).trans h
theorem OL.ib {l : List Nat} {w w' : World} {b : Nat} {zs : List Int} (h : IB w b zs) (ho : OL l w w') (hs : b ∉ l) : IB w' b zs := (ho.2.2.2.2 b h.lt hs).trans h
theorem OL.tb {l : List Nat} {w w' : World} {T : Nat} {n cols : Int} {p : Option Addr} {L C : Nat} (h : TB w T n cols p L C) (ho : OL l w w') (hs : T ∉ l) : TB w' T n cols p L C := (ho.2.2.2.2 T (lt_of_block h) hs).trans h
theorem ab_rf {w : World} {A T rn cn rm rs cm cs cu bf R C rf cf : Nat} (h : AB w A T rn cn rm rs cm cs cu bf R C rf cf) : ∃ rf', AB w A T rn cn rm rs cm cs cu bf R C rf' cf := ⟨rf, h⟩
end Go.Proofs.Qxb6605746aFmt.C2
