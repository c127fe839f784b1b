import Derived.Test.Qxb6605746aD1
import Derived.Laws.Externs
set_option linter.unusedVariables false
set_option linter.unusedSimpArgs false
namespace Go.Proofs.Qxb6605746a.D2
open Go.RowKit Go.Proofs.Qxb6605746a.A1 Go.Proofs.Qxb6605746a.A2 Go.Proofs.Qxb6605746a.D1

theorem log_one (w : World) : (Extern.MathLog.archLog #[.float .f64 0x3FF0000000000000]).run Try.prog w = .ok (.float .f64 0) w := by
  kernel_rfl

theorem arch20 (w : World) : (callFunc 20 #[.float .f64 4607182418800017408]).run Try.prog w = .ok (.value (.float .f64 0)) w := by
  rw [run_callFunc_extern (e := Extern.MathLog.archLog) Try.func20 (by kernel_rfl) (by kernel_rfl) (by kernel_rfl) (by kernel_rfl)]
  rw [log_one]
  rfl

set_option maxRecDepth 100000 in
theorem log17 (w : World) : Calls Try.prog 17 #[.float .f64 4607182418800017408] w fun e w' => e = .returned (.float .f64 0) ∧ w' = w := by
  have hlog := arch20
  go_enter Try.func17, Try.ntmps17
  go_wp2
  go_ret
  exact ⟨rfl, rfl⟩

def Dr (w w' : World) : Prop := ∃ n, w' = w.drewN n
theorem Dr.refl (w : World) : Dr w w := ⟨0, rfl⟩
theorem Dr.trans {w w1 w2 : World} (h : Dr w w1) (k : Dr w1 w2) : Dr w w2 := by
  obtain ⟨a, rfl⟩ := h
  obtain ⟨b, rfl⟩ := k
  exact ⟨a + b, by rw [World.drewN_drewN]⟩
theorem Dr.below {w w' : World} (h : Dr w w') : Below w.heap.size w w' := by
  obtain ⟨n, rfl⟩ := h
  exact ⟨rfl, rfl, rfl, Nat.le_refl _, fun _ _ => rfl⟩

/-- One operation on floats, at a world. -/
theorem fstep (op : BinOp) (hop : op = .add ∨ op = .sub ∨ op = .mul ∨ op = .quo) (x y : Nat) (w : World) :
    ∃ r w', (∀ t, (binOp op t (.float .f64 x) (.float .f64 y)).run Try.prog w = .ok (.float .f64 r) w') ∧ fnum r = fop op (fnum x) (fnum y) ∧ Dr w w' := by
  rcases float_case op hop x y with ⟨r, h, hf⟩ | ⟨h, hf⟩
  · exact ⟨r, w, fun t => h t w, hf, Dr.refl w⟩
  · exact ⟨_, _, fun t => h t w, by rw [nanOf_nan]; exact hf, ⟨1, rfl⟩⟩

theorem add_zero' (x r : Nat) (h : fnum r = fop .mul (fnum x) (fnum x)) : fop .add (fnum r) (fnum 0) = fnum r := by
  rw [fop_bits] at h
  cases hr : fnum r with
  | none => rfl
  | some r' =>
    have e : r' = r := by unfold fnum at hr; split at hr <;> simp_all
    subst e
    have hm : Ieee.double.mul x x = some r' := by rw [hr] at h; exact h.symm
    have h0 : fnum 0 = some 0 := by unfold fnum; rw [if_neg (by decide)]
    rw [h0]
    exact add_zero r' (square_word x r' hm)

set_option maxRecDepth 100000 in
theorem dev14 (sum : Nat) (n : Int) (hn : n ≠ 0) (hb : n.natAbs < 2 ^ 64) (nf : Nat) (hnf : nf = floatOfInt .f64 n) (w : World) :
    Calls Try.prog 14 #[.float .f64 sum, .float .f64 nf, .int .i64 n] w fun e w' => ∃ r, e = .returned (.float .f64 r) ∧ fnum r = fop .mul (fop .quo (fnum sum) (fnum nf)) (fop .quo (fnum sum) (fnum nf)) ∧ Dr w w' := by
  obtain ⟨s, m, e, hr, hm⟩ := read_int n hn hb
  rw [← hnf] at hr
  have hq : ∀ t wx, (binOp .quo t (.float .f64 nf) (.float .f64 nf)).run Try.prog wx = .ok (.float .f64 4607182418800017408) wx := fun t wx => run_float_arith wx .quo t .f64 nf nf _ (quo_self nf s m e hr hm)
  have hz : ∀ t wx, (binOp .mul t (.float .f64 0) (.float .f64 0)).run Try.prog wx = .ok (.float .f64 0) wx := fun t wx => run_float_arith wx .mul t .f64 0 0 0 (by kernel_rfl)
  have hcv : floatOfInt .f64 n = nf := hnf.symm
  obtain ⟨x, w1, e1, f1, d1⟩ := fstep .quo (.inr (.inr (.inr rfl))) sum nf w
  obtain ⟨y, w2, e2, f2, d2⟩ := fstep .mul (.inr (.inr (.inl rfl))) x x w1
  obtain ⟨z, w3, e3, f3, d3⟩ := fstep .add (.inl rfl) y 0 w2
  have HR : Hid (fnum z = fop .mul (fop .quo (fnum sum) (fnum nf)) (fop .quo (fnum sum) (fnum nf)) ∧ Dr w w3) := (by
    refine ⟨?_, (d1.trans d2).trans d3⟩
    rw [f3, add_zero' x y f2, f2, f1] : fnum z = fop .mul (fop .quo (fnum sum) (fnum nf)) (fop .quo (fnum sum) (fnum nf)) ∧ Dr w w3)
  clear f1 f2 f3 d1 d2 d3 hr hm hnf
  go_enter Try.func14, Try.ntmps14
  go_wp2_with (go_at_call 17; refine (log17 _).mono ?_; rintro e w' ⟨rfl, hw⟩; obtain rfl := hw)
  go_ret
  exact ⟨_, rfl, HR.out.1, HR.out.2⟩

theorem zz7 (sum : Nat) (n : Int) (hn : n ≠ 0) (hb : n.natAbs < 2 ^ 64) (nf : Nat) (hnf : nf = floatOfInt .f64 n) (w : World) :
    Calls Try.prog 7 #[.float .f64 sum, .float .f64 nf, .int .i64 n] w fun e w' => ∃ r, e = .returned (.float .f64 r) ∧ fnum r = fop .mul (fop .quo (fnum sum) (fnum nf)) (fop .quo (fnum sum) (fnum nf)) ∧ Dr w w' := by
  have H : Hid (Calls Try.prog 14 #[.float .f64 sum, .float .f64 nf, .int .i64 n] w fun e w' => ∃ r, e = .returned (.float .f64 r) ∧ fnum r = fop .mul (fop .quo (fnum sum) (fnum nf)) (fop .quo (fnum sum) (fnum nf)) ∧ Dr w w') := dev14 sum n hn hb nf hnf w
  clear hn hb hnf
  go_enter Try.func7, Try.ntmps7
  go_wp2_with (go_at_call 14; refine H.out.mono ?_; rintro e w' ⟨r, rfl, hf, hd⟩)
  go_ret
  exact ⟨_, rfl, hf, hd⟩

set_option maxRecDepth 100000 in
theorem walk3 (sum : Nat) (n : Int) (hb : n.natAbs < 2 ^ 64) (w : World) :
    Calls Try.prog 3 #[.float .f64 sum, .int .i64 n] w fun e w' => e = .returned (.bool true) ∧ Below w.heap.size w w' := by
  by_cases hn : n = 0
  · subst hn
    go_enter Try.func3, Try.ntmps3
    go_wp2
    go_ret
    exact ⟨rfl, Below.refl _ _⟩
  · obtain ⟨nf, hnf⟩ : ∃ nf, nf = floatOfInt .f64 n := ⟨_, rfl⟩
    have hcv : floatOfInt .f64 n = nf := hnf.symm
    obtain ⟨x, w1, e1, f1, d1⟩ := fstep .quo (.inr (.inr (.inr rfl))) sum nf w
    have HN : Hid (nf = floatOfInt .f64 n) := hnf
    have HF : Hid (fnum x = fop .quo (fnum sum) (fnum nf) ∧ Dr w w1) := ⟨f1, d1⟩
    have H : Hid (Calls Try.prog 7 #[.float .f64 sum, .float .f64 nf, .int .i64 n] w1 fun e w' => ∃ r, e = .returned (.float .f64 r) ∧ fnum r = fop .mul (fop .quo (fnum sum) (fnum nf)) (fop .quo (fnum sum) (fnum nf)) ∧ Dr w1 w') := zz7 sum n hn hb nf hnf w1
    clear hnf f1 d1 hb
    go_enter Try.func3, Try.ntmps3
    go_wp2_with (go_at_call 7; refine H.out.mono ?_; rintro e w2 ⟨r, rfl, hf, hd⟩; obtain ⟨y, w3, e2, f2, d2⟩ := fstep .mul (.inr (.inr (.inl rfl))) x x w2; have HR : Hid (fnum r = fnum y ∧ Dr w w3) := ⟨by rw [hf, f2, HF.out.1], (HF.out.2.trans hd).trans d2⟩; clear hf hd f2 d2)
    refine (same6 _ _ HR.out.1 _).mono ?_
    rintro e w' ⟨rfl, rfl⟩
    go_wp2
    go_ret
    exact ⟨rfl, HR.out.2.below⟩
end Go.Proofs.Qxb6605746a.D2
