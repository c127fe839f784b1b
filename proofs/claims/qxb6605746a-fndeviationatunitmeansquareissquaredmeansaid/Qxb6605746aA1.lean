import Derived.Test.Qxb6605746aProg
import Derived.WalkKit
import Derived.WalkSpells
import Derived.WalkLawsBesides
import Derived.KernelRfl
import Derived.BigQuiet
import Derived.Deep.RegionHeld3
import Derived.Laws.CopyOwn
import Derived.Laws.FloatArith
set_option linter.unusedVariables false
set_option linter.unusedSimpArgs false
namespace Go.Proofs.Qxb6605746a.A1
open Go.RowKit

/-- The bits of a float64, or 'none' where they are a NaN's. -/
def fnum (x : Nat) : Option Nat := if (FloatKind.f64.format.read x).isNaN then none else some x

/-- An operation on such: 'none' where it is invalid. -/
def fop (op : BinOp) (a b : Option Nat) : Option Nat := a.bind fun x => b.bind fun y => floatBits op .f64 x y

theorem fnum_none {x : Nat} (h : (FloatKind.f64.format.read x).isNaN = true) : fnum x = none := by unfold fnum; rw [if_pos h]
theorem fnum_some {x : Nat} (h : (FloatKind.f64.format.read x).isNaN = false) : fnum x = some x := by unfold fnum; rw [if_neg (by simp [h])]

theorem order_self (d : Ieee.Datum) : d.order d = if d.isNaN then none else some .eq := by
  cases d with
  | number s m e => simp [Ieee.Datum.order, Ieee.Datum.isNaN]
  | infinity s => simp [Ieee.Datum.order, Ieee.Datum.isNaN]
  | nan s t => simp [Ieee.Datum.order, Ieee.Datum.isNaN]

theorem ord_self (x : Nat) : FloatKind.f64.format.order x x = (fnum x).map (fun _ => Ordering.eq) := by
  unfold Ieee.Format.order
  rw [order_self]
  cases h : (FloatKind.f64.format.read x).isNaN
  · rw [fnum_some h]; simp
  · rw [fnum_none h]; simp

theorem ord_none (x y : Nat) (h : fnum x = none) : FloatKind.f64.format.order x y = none := by
  unfold fnum at h
  split at h
  · rename_i hn
    unfold Ieee.Format.order
    generalize FloatKind.f64.format.read x = d at *
    cases d <;> simp_all [Ieee.Datum.isNaN, Ieee.Datum.order]
  · cases h

/-- a NaN's bits, as the tape gives them -/
def nanOf (x y : Nat) (w : World) : Nat := (Question.nanBits .f64 x y).cut (w.tape w.drawn (Question.nanBits .f64 x y))

theorem word_nan (t : Nat) : (FloatKind.f64.format.read ((t % 2) * 2 ^ 63 + 0x7ff0000000000000 + 1 + (t / 2) % (2 ^ 52 - 1))).isNaN = true := by
  have h1 : t % 2 < 2 := Nat.mod_lt _ (by decide)
  have h2 : (t / 2) % (2 ^ 52 - 1) < 2 ^ 52 - 1 := Nat.mod_lt _ (by decide)
  generalize (t / 2) % (2 ^ 52 - 1) = k at *
  have hf : FloatKind.f64.format = Ieee.double := rfl
  have e1 : Ieee.double.signWeight = 9223372036854775808 := by decide
  have e2 : Ieee.double.binade = 4503599627370496 := by decide
  have e3 : Ieee.double.infRung = 9218868437227405312 := by decide
  have e4 : ((t % 2) * 2 ^ 63 + 0x7ff0000000000000 + 1 + k) % 9223372036854775808 = 9218868437227405313 + k := by omega
  rw [hf]
  unfold Ieee.Format.read
  simp only [e1, e2, e3, e4]
  rw [if_neg (by omega), if_neg (by omega), if_neg (by omega)]
  rfl

theorem nanOf_nan (x y : Nat) (w : World) : fnum (nanOf x y w) = none := fnum_none (word_nan _)

theorem sum_nan {a b : Ieee.Datum} (h : a.isNaN = true ∨ b.isNaN = true) : a.sum b = none := by
  cases a <;> cases b <;> simp_all [Ieee.Datum.isNaN, Ieee.Datum.sum]
theorem product_nan {a b : Ieee.Datum} (h : a.isNaN = true ∨ b.isNaN = true) : a.product b = none := by
  cases a <;> cases b <;> simp_all [Ieee.Datum.isNaN, Ieee.Datum.product]
theorem quotient_nan {n : Nat} {a b : Ieee.Datum} (h : a.isNaN = true ∨ b.isNaN = true) : a.quotient n b = none := by
  cases a <;> cases b <;> simp_all [Ieee.Datum.isNaN, Ieee.Datum.quotient]
theorem opp_nan (a : Ieee.Datum) : a.opposite.isNaN = a.isNaN := by cases a <;> rfl

theorem bits_nan (op : BinOp) (x y : Nat) (h : fnum x = none ∨ fnum y = none) : floatBits op .f64 x y = none := by
  have h' : (FloatKind.f64.format.read x).isNaN = true ∨ (FloatKind.f64.format.read y).isNaN = true := by
    rcases h with h | h
    · left; unfold fnum at h; split at h
      · assumption
      · cases h
    · right; unfold fnum at h; split at h
      · assumption
      · cases h
  unfold floatBits
  split
  · unfold Ieee.Format.add; rw [sum_nan h']; rfl
  · unfold Ieee.Format.sub; rw [sum_nan (by rw [opp_nan]; exact h')]; rfl
  · unfold Ieee.Format.mul; rw [product_nan h']; rfl
  · unfold Ieee.Format.div; rw [quotient_nan h']; rfl
  · rfl

theorem fop_bits (op : BinOp) (x y : Nat) : fop op (fnum x) (fnum y) = floatBits op .f64 x y := by
  unfold fop
  cases hx : fnum x with
  | none => rw [bits_nan op x y (.inl hx)]; rfl
  | some x' =>
    cases hy : fnum y with
    | none => rw [bits_nan op x y (.inr hy)]; rfl
    | some y' =>
      have e1 : x' = x := by unfold fnum at hx; split at hx <;> simp_all
      have e2 : y' = y := by unfold fnum at hy; split at hy <;> simp_all
      subst e1; subst e2; rfl

theorem read_word (s : Bool) (k : Nat) (hk : k ≤ Ieee.double.infRung) : (Ieee.double.read (Ieee.double.word s k)).isNaN = false := by
  have e1 : Ieee.double.signWeight = 9223372036854775808 := by decide
  have e3 : Ieee.double.infRung = 9218868437227405312 := by decide
  have hm : Ieee.double.word s k % Ieee.double.signWeight = k := by
    unfold Ieee.Format.word
    rw [e1]
    cases s <;> simp <;> omega
  unfold Ieee.Format.read
  simp only [hm]
  split
  · rfl
  · split
    · rfl
    · split
      · rfl
      · omega

theorem write_num (d : Ieee.Datum) (h : d.isNaN = false) : (Ieee.double.read (Ieee.double.write d)).isNaN = false := by
  cases d with
  | number s m e =>
    unfold Ieee.Format.write Ieee.Format.nearest
    dsimp only
    split
    · exact read_word _ _ (by omega)
    · exact read_word _ _ (Nat.min_le_right _ _)
  | infinity s => exact read_word _ _ (Nat.le_refl _)
  | nan s t => simp [Ieee.Datum.isNaN] at h

theorem sum_num {a b c : Ieee.Datum} (h : a.sum b = some c) : c.isNaN = false := by
  cases a <;> cases b <;> simp [Ieee.Datum.sum] at h
  · subst h; rfl
  · subst h; rfl
  · subst h; rfl
  · obtain ⟨_, rfl⟩ := h; rfl
theorem product_num {a b c : Ieee.Datum} (h : a.product b = some c) : c.isNaN = false := by
  cases a <;> cases b <;> simp [Ieee.Datum.product] at h
  · subst h; rfl
  · obtain ⟨_, rfl⟩ := h; rfl
  · obtain ⟨_, rfl⟩ := h; rfl
  · subst h; rfl
theorem quotient_num {n : Nat} {a b c : Ieee.Datum} (h : a.quotient n b = some c) : c.isNaN = false := by
  cases a <;> cases b <;> simp [Ieee.Datum.quotient] at h
  · split at h
    · split at h
      · cases h
      · cases h; rfl
    · simp at h; subst h; rfl
  · subst h; rfl
  · subst h; rfl

theorem bits_num {op : BinOp} {x y r : Nat} (h : floatBits op .f64 x y = some r) : fnum r = some r := by
  have hf : FloatKind.f64.format = Ieee.double := rfl
  refine fnum_some ?_
  rw [hf]
  unfold floatBits at h
  split at h
  · unfold Ieee.Format.add at h
    obtain ⟨d, hd, rfl⟩ := Option.map_eq_some_iff.1 h
    exact write_num d (sum_num hd)
  · unfold Ieee.Format.sub at h
    obtain ⟨d, hd, rfl⟩ := Option.map_eq_some_iff.1 h
    exact write_num d (sum_num hd)
  · unfold Ieee.Format.mul at h
    obtain ⟨d, hd, rfl⟩ := Option.map_eq_some_iff.1 h
    exact write_num d (product_num hd)
  · unfold Ieee.Format.div at h
    obtain ⟨d, hd, rfl⟩ := Option.map_eq_some_iff.1 h
    exact write_num d (quotient_num hd)
  · cases h

/-- Every '+', '-', '*', '/' on float64: valid: the bits, the world as it was; invalid: a NaN off the tape, the world with one more drawn. -/
theorem float_case (op : BinOp) (hop : op = .add ∨ op = .sub ∨ op = .mul ∨ op = .quo) (x y : Nat) :
    (∃ r, (∀ t w, (binOp op t (.float .f64 x) (.float .f64 y)).run Try.prog w = .ok (.float .f64 r) w) ∧ fnum r = fop op (fnum x) (fnum y)) ∨
    ((∀ t w, (binOp op t (.float .f64 x) (.float .f64 y)).run Try.prog w = .ok (.float .f64 (nanOf x y w)) w.drew) ∧ none = fop op (fnum x) (fnum y)) := by
  rw [fop_bits]
  cases h : floatBits op .f64 x y with
  | some r => exact .inl ⟨r, fun t w => run_float_arith w op t .f64 x y r h, bits_num h⟩
  | none =>
    refine .inr ⟨fun t w => ?_, rfl⟩
    unfold floatBits at h
    rcases hop with rfl | rfl | rfl | rfl <;> simp only at h <;> simp [binOp, Op.floatArith, h, Question.forced, nanOf]
end Go.Proofs.Qxb6605746a.A1
