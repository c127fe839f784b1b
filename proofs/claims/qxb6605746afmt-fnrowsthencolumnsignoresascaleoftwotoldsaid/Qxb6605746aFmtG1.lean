import Derived.Test.Qxb6605746aFmtA3
import Derived.Deep.Slices
import Derived.ProofKit
import Derived.OpenShut
set_option linter.unusedVariables false
set_option linter.unusedSimpArgs false
namespace Go.Proofs.Qxb6605746aFmt.G1
open Go.RowKit Go.ChangeShapes Go.WideShapes Go.Deep Go.Proofs.Qxb6605746aFmt.A3

theorem okWide_float {P : Program} {w : World} {r : Reach} {base : Nat} {t : TypeId} {v : Value} {k : FloatKind} (ht : P.underlying t = some (.float k)) (h : Value.okWide P w r base t v) : ∃ b, v = .float k b := by
  simp only [Value.okWide, ht, Cell.okWide] at h
  cases v <;> simp_all [Cell.ok]
theorem trod_float {H : Type} {enc : TypeId × Value → H} {P : Program} {w : World} {base : Nat} {sp : Nat → Bool} {held : Bool} {fuel : Nat} {t : TypeId} {k : FloatKind} {v : Value} {x : DataW H × List MemPlace} (ht : P.underlying t = some (.float k)) (h : DataW.trod enc P w base sp held fuel t [v] = some x) :
    ∃ b, v = .float k b ∧ x = (.lit (.float k b), []) ∧ (Lit.float k b).wf = true := by
  cases fuel with
  | zero => simp [DataW.trod] at h
  | succ fuel =>
    cases v <;> simp [DataW.trod, ht] at h
    rename_i k' b
    obtain ⟨⟨rfl, hw⟩, rfl⟩ := h
    exact ⟨b, rfl, rfl, hw⟩
theorem open_float {H : Type} {enc : TypeId × Value → H} {P : Program} {w : World} {base : Nat} {sp : Nat → Bool} {held : Bool} {r : Reach} {b0 : Nat} {t : TypeId} {k : FloatKind} {v : Value} {d : DataW H} {ps : List MemPlace} (ht : P.underlying t = some (.float k)) (hval : Value.okWide P w r b0 t v) (hd : DataW.Trod enc P w base sp held t v d ps) :
    ∃ n, v = .float k n ∧ d = .lit (.float k n) ∧ ps = [] ∧ (Lit.float k n).wf = true := by
  obtain ⟨n, rfl⟩ := okWide_float ht hval
  obtain ⟨fuel, hf⟩ := hd
  obtain ⟨n', h, hx, hw⟩ := trod_float ht hf
  cases h
  simp only [Prod.mk.injEq] at hx
  exact ⟨n, rfl, hx.1, hx.2, hw⟩
theorem shut_float {H : Type} {enc : TypeId × Value → H} {P : Program} {w : World} {base : Nat} {sp : Nat → Bool} {held : Bool} {t : TypeId} {k : FloatKind} {n : Nat} (ht : P.underlying t = some (.float k)) (hw : (Lit.float k n).wf = true) : DataW.Trod enc P w base sp held t (.float k n) (.lit (.float k n)) [] :=
  ⟨1, by simp [DataW.trod, Value.cells, ht, hw]⟩

theorem row_float {H : Type} {enc : TypeId × Value → H} {w : World} {held : Bool} {t e : TypeId} {a : Option Addr} {len cap : Nat} {d : DataW H} {ps : List MemPlace} (ht : Tryf.prog.underlying t = some (.slice e)) (he : Tryf.prog.underlying e = some (.float .f64)) (hc : Tryf.prog.cellsOf e = 1)
    (h : DataW.Trod enc Tryf.prog w 0 (fun _ => true) held t (.slice a len cap) d ps) : ∃ xs : List Nat, IsRow w a len cap (xs.map (Value.float .f64)) ∧ ∀ x ∈ xs, x < 2 ^ 64 := by
  obtain ⟨fuel, hf⟩ := h
  rcases open_slice1 ht hc hf with ⟨hcs, _⟩ | ⟨x, l, c, m, n, V, D, Pl, hcs, _, hl, hm, hmm, _, hall⟩
  · simp [Value.cells] at hcs
    obtain ⟨rfl, rfl, rfl⟩ := hcs
    exact ⟨[], .inl ⟨rfl, rfl, rfl, rfl⟩, by simp⟩
  · simp [Value.cells] at hcs
    obtain ⟨rfl, rfl, rfl⟩ := hcs
    simp at hmm
    subst hmm
    refine ⟨(List.range m).map fun i => match V i with | .float _ b => b | _ => 0, .inr ⟨x, rfl, hl, hm, by simp, fun i v hi => ?_⟩, fun y hy => ?_⟩
    · simp only [List.map_map, List.getElem?_map] at hi
      by_cases him : i < m
      · rw [List.getElem?_range him] at hi
        obtain ⟨hv, hd⟩ := hall i him
        obtain ⟨b, hb, _, _⟩ := trod_float he hd
        simp only [Option.map_some, Option.some.injEq, Function.comp, hb] at hi
        rw [hv, hb, hi]
      · rw [List.getElem?_eq_none (by simpa using him)] at hi
        cases hi
    · obtain ⟨i, hi, rfl⟩ := List.mem_map.1 hy
      have him : i < m := by simpa using hi
      obtain ⟨hv, hd⟩ := hall i him
      obtain ⟨b, hb, _, hw⟩ := trod_float he hd
      rw [hb]
      simpa [Lit.wf] using hw
end Go.Proofs.Qxb6605746aFmt.G1
