import Derived.Test.Qxb6605746aD2
import Derived.ProofKit
import Derived.OpenShut
set_option linter.unusedVariables false
set_option linter.unusedSimpArgs false
namespace Go.Proofs.Qxb6605746a.D3
open Go.RowKit Go.ChangeShapes Go.WideShapes

theorem okWide_float {P : Program} {w : World} {r : Reach} {base : Nat} {t : TypeId} {v : Value} {k : FloatKind} (ht : P.underlying t = some (.float k)) (h : Value.okWide P w r base t v) : ∃ b, v = .float k b := by
  simp only [Value.okWide, ht, Cell.okWide] at h
  cases v <;> simp_all [Cell.ok]

theorem trod_float {H : Type} {enc : TypeId × Value → H} {P : Program} {w : World} {base : Nat} {sp : Nat → Bool} {held : Bool} {fuel : Nat} {t : TypeId} {k : FloatKind} {v : Value} {x : DataW H × List MemPlace} (ht : P.underlying t = some (.float k)) (h : DataW.trod enc P w base sp held fuel t [v] = some x) :
    ∃ b, v = .float k b ∧ x = (.lit (.float k b), []) ∧ (Lit.float k b).wf = true := by
  cases fuel with
  | zero => simp [DataW.trod] at h
  | succ fuel =>
    cases v <;> simp [DataW.trod, ht] at h
    rename_i k' b
    obtain ⟨⟨rfl, hw⟩, rfl⟩ := h
    exact ⟨b, rfl, rfl, hw⟩

theorem open_float {H : Type} {enc : TypeId × Value → H} {P : Program} {w : World} {base : Nat} {sp : Nat → Bool} {held : Bool} {r : Reach} {b0 : Nat} {t : TypeId} {k : FloatKind} {v : Value} {d : DataW H} {ps : List MemPlace} (ht : P.underlying t = some (.float k)) (hval : Value.okWide P w r b0 t v) (hd : DataW.Trod enc P w base sp held t v d ps) :
    ∃ n, v = .float k n ∧ d = .lit (.float k n) ∧ ps = [] ∧ (Lit.float k n).wf = true := by
  obtain ⟨n, rfl⟩ := okWide_float ht hval
  obtain ⟨fuel, hf⟩ := hd
  obtain ⟨n', h, hx, hw⟩ := trod_float ht hf
  cases h
  simp only [Prod.mk.injEq] at hx
  exact ⟨n, rfl, hx.1, hx.2, hw⟩

theorem shut_float {H : Type} {enc : TypeId × Value → H} {P : Program} {w : World} {base : Nat} {sp : Nat → Bool} {held : Bool} {t : TypeId} {k : FloatKind} {n : Nat} (ht : P.underlying t = some (.float k)) (hw : (Lit.float k n).wf = true) : DataW.Trod enc P w base sp held t (.float k n) (.lit (.float k n)) [] :=
  ⟨1, by simp [DataW.trod, Value.cells, ht, hw]⟩
end Go.Proofs.Qxb6605746a.D3
