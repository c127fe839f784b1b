import Derived.Test.Qxb6605746aFmtB7
import Derived.Laws.CopyRow
set_option linter.unusedVariables false
set_option linter.unusedSimpArgs false
namespace Go.Proofs.Qxb6605746aFmt.C1
open Go.RowKit Go.Extern.Stop Go.Stop Go.Extern Go.Proofs.Qxb6605746aFmt.P1 Go.Proofs.Qxb6605746aFmt.P3 Go.Proofs.Qxb6605746aFmt.P7 Go.Proofs.Qxb6605746aFmt.A1 Go.Proofs.Qxb6605746aFmt.A2 Go.Proofs.Qxb6605746aFmt.A3 Go.Proofs.Qxb6605746aFmt.A4 Go.Proofs.Qxb6605746aFmt.A5 Go.Proofs.Qxb6605746aFmt.A6 Go.Proofs.Qxb6605746aFmt.A7 Go.Proofs.Qxb6605746aFmt.A8 Go.Proofs.Qxb6605746aFmt.A9 Go.Proofs.Qxb6605746aFmt.B1 Go.Proofs.Qxb6605746aFmt.B3 Go.Proofs.Qxb6605746aFmt.B4 Go.Proofs.Qxb6605746aFmt.B6 Go.Proofs.Qxb6605746aFmt.B7

theorem copy_run (w : World) (cm cu C : Nat) (M0 US : List Nat) (h0 : 0 < C) (hM : FB w cm M0) (hMl : M0.length = C) (hU : FB w cu US) (hUl : US.length = C) (hne : cm ≠ cu) (ty : TypeId) :
    ∃ w', (Builtin.copy_ #[22, 22] ty #[.slice (some ⟨cm, 0, none⟩) C C, .slice (some ⟨cu, 0, none⟩) C C]).run Tryf.prog w = .ok (goInt C) w' ∧ FB w' cm US ∧ Oth cm w w' := by
  have := run_copy_row (P := Tryf.prog) w 22 22 ty 23 cm 0 C C ⟨cu, 0, none⟩ C C (M0.map (Value.float .f64)).toArray 23 (US.map (Value.float .f64)) Tryf.underlying22 size23 hM (by simp [hUl]) (fun j v hj => by
    have hj' : j < US.length := by
      rcases Nat.lt_or_ge j US.length with h | h
      · exact h
      · rw [List.getElem?_eq_none (by simpa using h)] at hj; cases hj
    have e : (⟨cu, 0, none⟩ : Addr).add j = ⟨cu, j, none⟩ := by simp [Addr.add]; omega
    rw [e, hU.cell j hj']
    simp [List.getElem?_eq_getElem hj'] at hj
    rw [← hj]
    simp [List.getElem?_eq_getElem hj']) (by simp; omega) (fun v hv => by obtain ⟨x, _, rfl⟩ := List.mem_map.1 hv; rfl)
  have el : (M0.map (Value.float .f64)).toArray.toList.take 0 ++ US.map (Value.float .f64) ++ (M0.map (Value.float .f64)).toArray.toList.drop (0 + (US.map (Value.float .f64)).length) = US.map (Value.float .f64) := by
    simp
    omega
  rw [el] at this
  refine ⟨w.setRow cm (US.map (Value.float .f64)).toArray, by rw [this]; simp [hUl], ?_, ?_⟩
  · exact setRow_heap w cm _ _ _ _ hM
  · exact ⟨rfl, rfl, rfl, by simp, fun k hk hs => setRow_other w cm k _ hs⟩

set_option maxRecDepth 100000 in
set_option maxHeartbeats 1000000 in
theorem mos38 (A T rn cn rm rs cm cs cu bf R C rf cf : Nat) (M0 US : List Nat) (CN : List Int) (w : World) (hC : C ≤ 65536) (hA : AB w A T rn cn rm rs cm cs cu bf R C rf cf)
    (hM : FB w cm M0) (hMl : M0.length = C) (hU : FB w cu US) (hUl : US.length = C) (hK : IB w cn CN) (hKl : CN.length = C) (d1 : cm ≠ cu) (d2 : A ≠ cm) (d3 : cn ≠ cm) :
    Calls Tryf.prog 38 #[.pointer (some ⟨A, 0, none⟩)] w fun e w' => e = .returned (.tuple #[]) ∧ ∃ ms, FB w' cm ms ∧ PartQ C C US CN ms ∧ Oth cm w w' := by
  have c5 := hA.c5
  have c7 := hA.c7
  have HA : Hid (AB w A T rn cn rm rs cm cs cu bf R C rf cf) := hA
  have HK : Hid (IB w cn CN) := hK
  have key : ∃ w1, (∀ ty, (Builtin.copy_ #[22, 22] ty #[.slice (some ⟨cm, 0, none⟩) C C, .slice (some ⟨cu, 0, none⟩) C C]).run Tryf.prog w.drew = .ok (goInt C) w1) ∧ FB w1 cm US ∧ Oth cm w w1 := by
    by_cases h0 : 0 < C
    · obtain ⟨w1, h1, h2, h3⟩ := copy_run w.drew cm cu C M0 US h0 hM hMl hU hUl d1 0
      exact ⟨w1, fun ty => h1, h2, h3⟩
    · obtain rfl : C = 0 := by omega
      refine ⟨w.drew, fun ty => ?_, ?_, ⟨rfl, rfl, rfl, Nat.le_refl _, fun _ _ _ => rfl⟩⟩
      · exact run_copy_none (P := Tryf.prog) w.drew 22 22 ty 23 _ _ 0 0 0 0 Tryf.underlying22 size23 rfl
      · have e1 : US = [] := List.eq_nil_of_length_eq_zero hUl
        have e2 : M0 = [] := List.eq_nil_of_length_eq_zero hMl
        rw [e1, ← e2]; exact hM
  obtain ⟨w1, hcp, hF1, hO1⟩ := key
  have HF1 : Hid (FB w1 cm US ∧ Oth cm w w1) := ⟨hF1, hO1⟩
  have HA1 : Hid (AB w1 A T rn cn rm rs cm cs cu bf R C rf cf) := hA.oth hO1 d2
  clear hF1 hO1 hA hM hU hK
  go_enter Tryf.func38, Tryf.ntmps38
  go_wp2
  go_region
  go_wp2
  have e5 := HA1.out.c5
  have e2 := HA1.out.c2
  have M51 : Hid (∀ nn, Calls Tryf.prog 51 #[.slice (some ⟨cm, 0, none⟩) C C, .slice (some ⟨cn, 0, none⟩) C C] (w1.drewN nn) fun e w' => e = .returned (.tuple #[]) ∧ ∃ ys, FB w' cm ys ∧ PartQ C C US CN ys ∧ Oth cm w1 w') := fun nn => means51 cm C cn C C US CN (w1.drewN nn) HF1.out.1 (HK.out.oth HF1.out.2 d3) d3 hUl hKl (Nat.le_refl _) (by omega) (by omega)
  clear c5 c7 hcp
  go_region_with (go_at_call 51; refine (M51.out _).mono ?_; rintro e w2 ⟨rfl, ms, hm1, hm2, hm3⟩)
  all_goals go_wp2
  all_goals go_end0
  all_goals exact ⟨rfl, ms, hm1, hm2, HF1.out.2.trans hm3⟩
end Go.Proofs.Qxb6605746aFmt.C1
