import Derived.Test.Qxb6605746aFmtProg
import Derived.Test.Qxb6605746aFmtP7
import Derived.WalkKit
import Derived.WalkSpells
import Derived.WalkLawsBesides
import Derived.KernelRfl
import Derived.BigQuiet
import Derived.Deep.RegionHeld3
import Derived.Laws.CopyOwn
import Derived.Laws.Externs
set_option linter.unusedVariables false
set_option linter.unusedSimpArgs false
namespace Go.Proofs.Qxb6605746aFmt.A1
open Go.RowKit Go.Proofs.Qxb6605746aFmt.P1 Go.Proofs.Qxb6605746aFmt.P3 Go.Proofs.Qxb6605746aFmt.P7

/-- a NaN's bits, as the tape gives them -/
def nanOf (x y : Nat) (w : World) : Nat := (Question.nanBits .f64 x y).cut (w.tape w.drawn (Question.nanBits .f64 x y))

theorem word_nan (t : Nat) : (FloatKind.f64.format.read ((t % 2) * 2 ^ 63 + 0x7ff0000000000000 + 1 + (t / 2) % (2 ^ 52 - 1))).isNaN = true := by
  have h1 : t % 2 < 2 := Nat.mod_lt _ (by decide)
  have h2 : (t / 2) % (2 ^ 52 - 1) < 2 ^ 52 - 1 := Nat.mod_lt _ (by decide)
  generalize (t / 2) % (2 ^ 52 - 1) = k at *
  have hf : FloatKind.f64.format = Ieee.double := rfl
  have e1 : Ieee.double.signWeight = 9223372036854775808 := by decide
  have e2 : Ieee.double.binade = 4503599627370496 := by decide
  have e3 : Ieee.double.infRung = 9218868437227405312 := by decide
  have e4 : ((t % 2) * 2 ^ 63 + 0x7ff0000000000000 + 1 + k) % 9223372036854775808 = 9218868437227405313 + k := by omega
  rw [hf]
  unfold Ieee.Format.read
  simp only [e1, e2, e3, e4]
  rw [if_neg (by omega), if_neg (by omega), if_neg (by omega)]
  rfl

theorem nanOf_nan (x y : Nat) (w : World) : fnum (nanOf x y w) = none := fnum_none (word_nan _)

/-- Every '+', '-', '*', '/' on float64: valid: the bits, the world as it was; invalid: a NaN off the tape, the world with one more drawn. -/
theorem float_case (op : BinOp) (hop : op = .add ∨ op = .sub ∨ op = .mul ∨ op = .quo) (x y : Nat) :
    (∃ r, (∀ t w, (binOp op t (.float .f64 x) (.float .f64 y)).run Tryf.prog w = .ok (.float .f64 r) w) ∧ fnum r = fop op (fnum x) (fnum y)) ∨
    ((∀ t w, (binOp op t (.float .f64 x) (.float .f64 y)).run Tryf.prog w = .ok (.float .f64 (nanOf x y w)) w.drew) ∧ none = fop op (fnum x) (fnum y)) := by
  rw [fop_bits]
  cases h : floatBits op .f64 x y with
  | some r => exact .inl ⟨r, fun t w => run_float_arith w op t .f64 x y r h, bits_num h⟩
  | none =>
    refine .inr ⟨fun t w => ?_, rfl⟩
    unfold floatBits at h
    rcases hop with rfl | rfl | rfl | rfl <;> simp only at h <;> simp [binOp, Op.floatArith, h, Question.forced, nanOf]

def Dr (w w' : World) : Prop := ∃ n, w' = w.drewN n
theorem Dr.refl (w : World) : Dr w w := ⟨0, rfl⟩
theorem Dr.trans {w w1 w2 : World} (h : Dr w w1) (k : Dr w1 w2) : Dr w w2 := by
  obtain ⟨a, rfl⟩ := h
  obtain ⟨b, rfl⟩ := k
  exact ⟨a + b, by rw [World.drewN_drewN]⟩
theorem Dr.below {w w' : World} (h : Dr w w') : Below w.heap.size w w' := by
  obtain ⟨n, rfl⟩ := h
  exact ⟨rfl, rfl, rfl, Nat.le_refl _, fun _ _ => rfl⟩

/-- One operation on floats, at a world. -/
theorem fstep (op : BinOp) (hop : op = .add ∨ op = .sub ∨ op = .mul ∨ op = .quo) (x y : Nat) (w : World) :
    ∃ r w', (∀ t, (binOp op t (.float .f64 x) (.float .f64 y)).run Tryf.prog w = .ok (.float .f64 r) w') ∧ fnum r = fop op (fnum x) (fnum y) ∧ Dr w w' := by
  rcases float_case op hop x y with ⟨r, h, hf⟩ | ⟨h, hf⟩
  · exact ⟨r, w, fun t => h t w, hf, Dr.refl w⟩
  · exact ⟨_, _, fun t => h t w, by rw [nanOf_nan]; exact hf, ⟨1, rfl⟩⟩


theorem Dr.drewN {w w' : World} (h : Dr w w') (n : Nat) : Dr w (w'.drewN n) := h.trans ⟨n, rfl⟩

theorem nan_lt (x y : Nat) (w : World) : nanOf x y w < 2 ^ 64 := by
  unfold nanOf
  generalize w.tape w.drawn (Question.nanBits .f64 x y) = t
  show (t % 2) * 2 ^ 63 + 0x7ff0000000000000 + 1 + (t / 2) % (2 ^ 52 - 1) < 2 ^ 64
  have h1 : t % 2 < 2 := Nat.mod_lt _ (by decide)
  have h2 : (t / 2) % (2 ^ 52 - 1) < 2 ^ 52 - 1 := Nat.mod_lt _ (by decide)
  generalize (t / 2) % (2 ^ 52 - 1) = k at *
  omega
theorem bits_lt {op : BinOp} {x y r : Nat} (h : floatBits op .f64 x y = some r) : r < 2 ^ 64 := by
  have := floatBits_wf h
  simpa [Lit.wf] using this
/-- The same, with the bits' bound. -/
theorem fstep' (op : BinOp) (hop : op = .add ∨ op = .sub ∨ op = .mul ∨ op = .quo) (x y : Nat) (w : World) :
    ∃ r w', (∀ t, (binOp op t (.float .f64 x) (.float .f64 y)).run Tryf.prog w = .ok (.float .f64 r) w') ∧ (fnum r = fop op (fnum x) (fnum y) ∧ r < 2 ^ 64) ∧ Dr w w' := by
  cases h : floatBits op .f64 x y with
  | some r => exact ⟨r, w, fun t => run_float_arith w op t .f64 x y r h, ⟨by rw [fop_bits, h]; exact bits_num h, bits_lt h⟩, Dr.refl w⟩
  | none =>
    refine ⟨nanOf x y w, w.drew, fun t => ?_, ⟨by rw [fop_bits, h]; exact nanOf_nan _ _ _, nan_lt _ _ _⟩, ⟨1, rfl⟩⟩
    unfold floatBits at h
    rcases hop with rfl | rfl | rfl | rfl <;> simp only at h <;> simp [binOp, Op.floatArith, h, Question.forced, nanOf]

theorem sqrt_num {x r : Nat} (h : Ieee.double.sqrt x = some r) : fnum r = some r := by
  apply fnum_some
  show (Ieee.double.read r).isNaN = false
  unfold Ieee.Format.sqrt at h
  obtain ⟨d, hd, rfl⟩ := Option.map_eq_some_iff.1 h
  apply write_num
  cases hr : Ieee.double.read x with
  | nan s t => rw [hr] at hd; simp [Ieee.Datum.root] at hd
  | infinity s =>
    rw [hr] at hd
    simp [Ieee.Datum.root] at hd
    obtain ⟨_, rfl⟩ := hd
    rfl
  | number s m e =>
    rw [hr] at hd
    simp only [Ieee.Datum.root] at hd
    split at hd
    · cases hd; rfl
    · split at hd
      · cases hd
      · cases hd; rfl
theorem sqrt_fnum (x : Nat) : fsqrt (fnum x) = Ieee.double.sqrt x := by
  cases h : fnum x with
  | none =>
    unfold fnum at h
    split at h
    · rename_i hn
      unfold Ieee.Format.sqrt
      have hn' : (Ieee.double.read x).isNaN = true := hn
      cases hr : Ieee.double.read x <;> rw [hr] at hn' <;> simp [Ieee.Datum.isNaN] at hn'
      rfl
    · cases h
  | some y =>
    have e : y = x := by unfold fnum at h; split at h <;> simp_all
    subst e
    rfl

/-- math.sqrt -/
theorem sqrt32 (x : Nat) (w : World) : ∃ r w', (callFunc 32 #[.float .f64 x]).run Tryf.prog w = .ok (.value (.float .f64 r)) w' ∧ (fnum r = fsqrt (fnum x) ∧ r < 2 ^ 64) ∧ Dr w w' := by
  rw [run_callFunc_extern (e := Extern.MathSqrt.sqrt) Tryf.func32 (by kernel_rfl) (by kernel_rfl) (by kernel_rfl) (by kernel_rfl)]
  rw [sqrt_fnum]
  have e : Extern.MathSqrt.sqrt #[.float .f64 x] = (match FloatKind.f64.format.sqrt x with
    | some r => pure (.float .f64 r)
    | none => do pure (.float .f64 (← choose (.nanBits .f64 x x)))) := rfl
  cases h : Ieee.double.sqrt x with
  | some r =>
    have hs : FloatKind.f64.format.sqrt x = some r := h
    exact ⟨r, w, by rw [e, hs]; simp, ⟨sqrt_num h, Ieee.Format.sqrt_lt _ h⟩, Dr.refl w⟩
  | none =>
    have hs : FloatKind.f64.format.sqrt x = none := h
    refine ⟨nanOf x x w, w.drew, by rw [e, hs]; simp [Question.forced, nanOf], ⟨nanOf_nan _ _ _, nan_lt _ _ _⟩, ⟨1, rfl⟩⟩

theorem sqrt25 (x : Nat) (w : World) : Calls Tryf.prog 25 #[.float .f64 x] w fun e w' => ∃ r, e = .returned (.float .f64 r) ∧ (fnum r = fsqrt (fnum x) ∧ r < 2 ^ 64) ∧ Dr w w' := by
  obtain ⟨r, w1, h, hf, hd⟩ := sqrt32 x w
  go_enter Tryf.func25, Tryf.ntmps25
  go_wp2
  go_ret
  exact ⟨_, rfl, hf, hd⟩

end Go.Proofs.Qxb6605746aFmt.A1
