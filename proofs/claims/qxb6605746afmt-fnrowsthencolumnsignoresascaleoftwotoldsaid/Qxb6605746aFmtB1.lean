import Derived.Test.Qxb6605746aFmtA9
import Derived.Deep.RegionWith
set_option linter.unusedVariables false
set_option linter.unusedSimpArgs false
namespace Go.Proofs.Qxb6605746aFmt.B1
open Go.RowKit Go.Extern.Stop Go.Stop Go.Extern Go.Proofs.Qxb6605746aFmt.P1 Go.Proofs.Qxb6605746aFmt.P3 Go.Proofs.Qxb6605746aFmt.P7 Go.Proofs.Qxb6605746aFmt.A1 Go.Proofs.Qxb6605746aFmt.A2 Go.Proofs.Qxb6605746aFmt.A3 Go.Proofs.Qxb6605746aFmt.A4 Go.Proofs.Qxb6605746aFmt.A5 Go.Proofs.Qxb6605746aFmt.A6 Go.Proofs.Qxb6605746aFmt.A7 Go.Proofs.Qxb6605746aFmt.A8 Go.Proofs.Qxb6605746aFmt.A9

/-- The block of the alternation. -/
def AB (w : World) (A T rn cn rm rs cm cs cu bf R C rf cf : Nat) : Prop := w.heap[A]? = some (.cells #[.pointer (some ⟨T, 0, none⟩), .slice (some ⟨rn, 0, none⟩) R R, .slice (some ⟨cn, 0, none⟩) C C, .slice (some ⟨rm, 0, none⟩) R R, .slice (some ⟨rs, 0, none⟩) R R, .slice (some ⟨cm, 0, none⟩) C C, .slice (some ⟨cs, 0, none⟩) C C, .slice (some ⟨cu, 0, none⟩) C C, .slice (some ⟨bf, 0, none⟩) C C, .float .f64 rf, .float .f64 cf] 66 (0, 0))

section
variable {w : World} {A T rn cn rm rs cm cs cu bf R C rf cf : Nat} (h : AB w A T rn cn rm rs cm cs cu bf R C rf cf)
include h
theorem AB.c0 : w.cell? ⟨A, 0, none⟩ = some (.pointer (some ⟨T, 0, none⟩)) := by rw [cell_of_row w A 0 _ _ _ h]; rfl
theorem AB.c1 : w.cell? ⟨A, 1, none⟩ = some (.slice (some ⟨rn, 0, none⟩) R R) := by rw [cell_of_row w A 1 _ _ _ h]; rfl
theorem AB.c2 : w.cell? ⟨A, 2, none⟩ = some (.slice (some ⟨cn, 0, none⟩) C C) := by rw [cell_of_row w A 2 _ _ _ h]; rfl
theorem AB.c3 : w.cell? ⟨A, 3, none⟩ = some (.slice (some ⟨rm, 0, none⟩) R R) := by rw [cell_of_row w A 3 _ _ _ h]; rfl
theorem AB.c4 : w.cell? ⟨A, 4, none⟩ = some (.slice (some ⟨rs, 0, none⟩) R R) := by rw [cell_of_row w A 4 _ _ _ h]; rfl
theorem AB.c5 : w.cell? ⟨A, 5, none⟩ = some (.slice (some ⟨cm, 0, none⟩) C C) := by rw [cell_of_row w A 5 _ _ _ h]; rfl
theorem AB.c6 : w.cell? ⟨A, 6, none⟩ = some (.slice (some ⟨cs, 0, none⟩) C C) := by rw [cell_of_row w A 6 _ _ _ h]; rfl
theorem AB.c7 : w.cell? ⟨A, 7, none⟩ = some (.slice (some ⟨cu, 0, none⟩) C C) := by rw [cell_of_row w A 7 _ _ _ h]; rfl
theorem AB.c8 : w.cell? ⟨A, 8, none⟩ = some (.slice (some ⟨bf, 0, none⟩) C C) := by rw [cell_of_row w A 8 _ _ _ h]; rfl
theorem AB.c9 : w.cell? ⟨A, 9, none⟩ = some (.float .f64 rf) := by rw [cell_of_row w A 9 _ _ _ h]; rfl
theorem AB.c10 : w.cell? ⟨A, 10, none⟩ = some (.float .f64 cf) := by rw [cell_of_row w A 10 _ _ _ h]; rfl
theorem AB.fz (j : Nat) : w.frozen? ⟨A, j, none⟩ = false := frozen_of_row w A j _ _ h
theorem AB.lt : A < w.heap.size := lt_of_block h
theorem AB.set9 (v : Nat) : AB (w.setCell ⟨A, 9, none⟩ (.float .f64 v)) A T rn cn rm rs cm cs cu bf R C v cf := by
  unfold AB
  rw [heap_setCell_same _ _ _ _ _ _ h]
  rfl
theorem AB.set10 (v : Nat) : AB (w.setCell ⟨A, 10, none⟩ (.float .f64 v)) A T rn cn rm rs cm cs cu bf R C rf v := by
  unfold AB
  rw [heap_setCell_same _ _ _ _ _ _ h]
  rfl
theorem AB.oth {s : Nat} {w' : World} (ho : Oth s w w') (hs : A ≠ s) : AB w' A T rn cn rm rs cm cs cu bf R C rf cf := (ho.2.2.2.2 A (lt_of_block h) hs).trans h
theorem AB.below {w' : World} (ho : Below w.heap.size w w') : AB w' A T rn cn rm rs cm cs cu bf R C rf cf := (ho.block A (lt_of_block h)).trans h
end

def fmax (a b : Option Nat) : Option Nat := match a, b with
  | some u, some v => match Ieee.double.order u v with
    | none => none
    | some .lt => some v
    | some .gt => some u
    | some .eq => some (if (Ieee.double.read u).neg then v else u)
  | _, _ => none

def nanMax (x y : Nat) (w : World) : Nat := (Question.nanMinMax .f64 true x y).cut (w.tape w.drawn (Question.nanMinMax .f64 true x y))
theorem nanMax_nan (x y : Nat) (w : World) : fnum (nanMax x y w) = none := fnum_none (word_nan _)
theorem nanMax_lt (x y : Nat) (w : World) : nanMax x y w < 2 ^ 64 := by
  unfold nanMax
  generalize w.tape w.drawn (Question.nanMinMax .f64 true x y) = t
  show (t % 2) * 2 ^ 63 + 0x7ff0000000000000 + 1 + (t / 2) % (2 ^ 52 - 1) < 2 ^ 64
  have h1 : t % 2 < 2 := Nat.mod_lt _ (by decide)
  have h2 : (t / 2) % (2 ^ 52 - 1) < 2 ^ 52 - 1 := Nat.mod_lt _ (by decide)
  generalize (t / 2) % (2 ^ 52 - 1) = k at *
  omega
theorem order_num {x y : Nat} {o : Ordering} (h : FloatKind.f64.format.order x y = some o) : fnum x = some x ∧ fnum y = some y := by
  constructor
  · cases hx : fnum x with
    | none => rw [ord_none x y hx] at h; cases h
    | some x' =>
      have : x' = x := by unfold fnum at hx; split at hx <;> simp_all
      rw [this]
  · cases hy : fnum y with
    | none =>
      exfalso
      unfold fnum at hy
      split at hy
      · rename_i hn
        unfold Ieee.Format.order at h
        generalize FloatKind.f64.format.read y = d at *
        generalize FloatKind.f64.format.read x = d' at *
        cases d <;> cases d' <;> simp_all [Ieee.Datum.isNaN, Ieee.Datum.order]
      · cases hy
    | some y' =>
      have : y' = y := by unfold fnum at hy; split at hy <;> simp_all
      rw [this]

theorem max_step (x y : Nat) (hx : x < 2 ^ 64) (hy : y < 2 ^ 64) (w : World) : ∃ r w', (∀ ats t, (Builtin.max_ ats t #[.float .f64 x, .float .f64 y]).run Tryf.prog w = .ok (.float .f64 r) w') ∧ (fnum r = fmax (fnum x) (fnum y) ∧ r < 2 ^ 64) ∧ Dr w w' := by
  have e : ∀ ats t, (Builtin.max_ ats t #[.float .f64 x, .float .f64 y]).run Tryf.prog w = (Builtin.max2 (.float .f64 x) (.float .f64 y)).run Tryf.prog w := by
    intro ats t
    simp [Builtin.max_]
  cases ho : FloatKind.f64.format.order x y with
  | none =>
    refine ⟨nanMax x y w, w.drew, fun ats t => ?_, ⟨?_, nanMax_lt _ _ _⟩, ⟨1, rfl⟩⟩
    · rw [e]
      simp [Builtin.max2, ho, Question.forced, nanMax]
    · rw [nanMax_nan]
      cases h1 : fnum x with
      | none => rfl
      | some x' =>
        have : x' = x := by unfold fnum at h1; split at h1 <;> simp_all
        subst this
        cases h2 : fnum y with
        | none => rfl
        | some y' =>
          have : y' = y := by unfold fnum at h2; split at h2 <;> simp_all
          subst this
          have ho' : Ieee.double.order x' y' = none := ho
          simp only [fmax, ho']
  | some o =>
    obtain ⟨n1, n2⟩ := order_num ho
    have ho' : Ieee.double.order x y = some o := ho
    rw [n1, n2]
    cases o with
    | lt => exact ⟨y, w, fun ats t => by rw [e]; simp [Builtin.max2, ho], ⟨by simp only [fmax, ho']; exact n2, hy⟩, Dr.refl w⟩
    | gt => exact ⟨x, w, fun ats t => by rw [e]; simp [Builtin.max2, ho], ⟨by simp only [fmax, ho']; exact n1, hx⟩, Dr.refl w⟩
    | eq =>
      refine ⟨if (FloatKind.f64.decode x).neg then y else x, w, fun ats t => by rw [e]; simp [Builtin.max2, ho], ⟨?_, ?_⟩, Dr.refl w⟩
      · simp only [fmax, ho']
        have hd : FloatKind.f64.decode x = Ieee.double.read x := rfl
        rw [hd]
        split
        · exact n2
        · exact n1
      · split
        · exact hy
        · exact hx
end Go.Proofs.Qxb6605746aFmt.B1
