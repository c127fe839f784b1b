import Derived.Test.Qxb6605746aB2
import Derived.Deep.Slices
import Derived.ProofKit
import Derived.OpenShut
set_option linter.unusedVariables false
set_option linter.unusedSimpArgs false
namespace Go.Proofs.Qxb6605746a.B3
open Go.RowKit Go.Proofs.Qxb6605746a.A3 Go.Deep

theorem trod_float {H : Type} {enc : TypeId × Value → H} {P : Program} {w : World} {base : Nat} {sp : Nat → Bool} {held : Bool} {fuel : Nat} {t : TypeId} {k : FloatKind} {v : Value} {x : DataW H × List MemPlace} (ht : P.underlying t = some (.float k)) (h : DataW.trod enc P w base sp held fuel t [v] = some x) :
    ∃ b, v = .float k b ∧ x = (.lit (.float k b), []) ∧ (Lit.float k b).wf = true := by
  cases fuel with
  | zero => simp [DataW.trod] at h
  | succ fuel =>
    cases v <;> simp [DataW.trod, ht] at h
    rename_i k' b
    obtain ⟨⟨rfl, hw⟩, rfl⟩ := h
    exact ⟨b, rfl, rfl, hw⟩

theorem row_float {H : Type} {enc : TypeId × Value → H} {w : World} {held : Bool} {t e : TypeId} {a : Option Addr} {len cap : Nat} {d : DataW H} {ps : List MemPlace} (ht : Try.prog.underlying t = some (.slice e)) (he : Try.prog.underlying e = some (.float .f64)) (hc : Try.prog.cellsOf e = 1)
    (h : DataW.Trod enc Try.prog w 0 (fun _ => true) held t (.slice a len cap) d ps) : ∃ xs : List Nat, IsRow w a len cap (xs.map (Value.float .f64)) := by
  obtain ⟨fuel, hf⟩ := h
  rcases open_slice1 ht hc hf with ⟨hcs, _⟩ | ⟨x, l, c, m, n, V, D, Pl, hcs, _, hl, hm, hmm, _, hall⟩
  · simp [Value.cells] at hcs
    obtain ⟨rfl, rfl, rfl⟩ := hcs
    exact ⟨[], .inl ⟨rfl, rfl, rfl, rfl⟩⟩
  · simp [Value.cells] at hcs
    obtain ⟨rfl, rfl, rfl⟩ := hcs
    simp at hmm
    subst hmm
    refine ⟨(List.range m).map fun i => match V i with | .float _ b => b | _ => 0, .inr ⟨x, rfl, hl, hm, by simp, fun i v hi => ?_⟩⟩
    simp only [List.map_map, List.getElem?_map] at hi
    by_cases him : i < m
    · rw [List.getElem?_range him] at hi
      obtain ⟨hv, hd⟩ := hall i him
      obtain ⟨b, hb, _, _⟩ := trod_float he hd
      simp only [Option.map_some, Option.some.injEq, Function.comp, hb] at hi
      rw [hv, hb, hi]
    · rw [List.getElem?_eq_none (by simpa using him)] at hi
      cases hi

theorem row_int {H : Type} {enc : TypeId × Value → H} {w : World} {held : Bool} {t e : TypeId} {a : Option Addr} {len cap : Nat} {d : DataW H} {ps : List MemPlace} (ht : Try.prog.underlying t = some (.slice e)) (he : Try.prog.underlying e = some (.int .i64)) (hc : Try.prog.cellsOf e = 1)
    (h : DataW.Trod enc Try.prog w 0 (fun _ => true) held t (.slice a len cap) d ps) : ∃ xs : List Int, IsRow w a len cap (xs.map (Value.int .i64)) := by
  obtain ⟨fuel, hf⟩ := h
  rcases open_slice1 ht hc hf with ⟨hcs, _⟩ | ⟨x, l, c, m, n, V, D, Pl, hcs, _, hl, hm, hmm, _, hall⟩
  · simp [Value.cells] at hcs
    obtain ⟨rfl, rfl, rfl⟩ := hcs
    exact ⟨[], .inl ⟨rfl, rfl, rfl, rfl⟩⟩
  · simp [Value.cells] at hcs
    obtain ⟨rfl, rfl, rfl⟩ := hcs
    simp at hmm
    subst hmm
    refine ⟨(List.range m).map fun i => match V i with | .int _ b => b | _ => 0, .inr ⟨x, rfl, hl, hm, by simp, fun i v hi => ?_⟩⟩
    simp only [List.map_map, List.getElem?_map] at hi
    by_cases him : i < m
    · rw [List.getElem?_range him] at hi
      obtain ⟨hv, hd⟩ := hall i him
      obtain ⟨b, hb, _, _⟩ := DataW.trod_int he hd
      simp only [List.cons.injEq, and_true] at hb
      simp only [Option.map_some, Option.some.injEq, Function.comp, hb] at hi
      rw [hv, hb, hi]
    · rw [List.getElem?_eq_none (by simpa using him)] at hi
      cases hi
end Go.Proofs.Qxb6605746a.B3
