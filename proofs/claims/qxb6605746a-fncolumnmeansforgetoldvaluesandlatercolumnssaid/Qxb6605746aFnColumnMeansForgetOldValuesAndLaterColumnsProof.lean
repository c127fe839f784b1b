/-
  The proof of 'Rows.FnColumnMeansForgetOldValuesAndLaterColumnsSaid': the frame is the guide's template at this function; the walk is Qxb6605746aC1, C2.
-/
import Derived.Test.Qxb6605746aRows
import Derived.WalkKit
import Derived.ProofKit
import Derived.OpenShut
import Derived.ShutString
import Derived.ChangeOld
import Derived.Below
import Derived.Test.Qxb6605746aC2
namespace Go.Proofs.Qxb6605746a.fnColumnMeansForgetOldValuesAndLaterColumns
open Go.ChangeShapes Go.WideShapes Go.ChangeAt Go.RowKit
open Go.Proofs.Qxb6605746a.A3
set_option linter.unusedVariables false

theorem own : ownKnob Try.prog.godebug = none := by kernel_rfl
theorem laidOut : laidOutB Try.prog = true := by kernel_rfl


theorem row_max {w : World} {a : Option Addr} {n c : Nat} {vs : List Value} (h : IsRow w a n c vs) : n < 9223372036854775808 := by
  rcases h with ⟨_, h, _, _⟩ | ⟨_, _, h1, h2, _⟩
  · omega
  · unfold maxLen at h2; omega

theorem walk (a0 a1 a3 : Option Addr) (n0 c0 n1 c1 n3 c3 : Nat) (n cols : Int) (x0 x3 : List Nat) (ks : List Int) (w : World) (r0 : IsRow w a0 n0 c0 (x0.map (Value.float .f64))) (r1 : IsRow w a1 n1 c1 (ks.map (Value.int .i64))) (r3 : IsRow w a3 n3 c3 (x3.map (Value.float .f64))) :
    Calls Try.prog 5 #[.slice a0 n0 c0, .slice a1 n1 c1, .int .i64 n, .slice a3 n3 c3, .int .i64 cols] w fun e w' => e = .returned (.bool true) ∧ Below w.heap.size w w' := by
  exact C2.walk5 a0 a1 a3 n0 c0 n1 c1 n3 c3 n cols w x0 x3 ks (row_max r0) (row_max r1) (row_max r3) r0 r1 r3

set_option maxRecDepth 100000 in
theorem lifted (os : Os) (started : os.Started) (H : Type) (enc : TypeId × Value → H) :
    ReturnsInHanded {} Try.checked os 5 .any (Rows.fnColumnMeansForgetOldValuesAndLaterColumnsSpec.pre6 enc Try.prog Try.f5 Rows.fnColumnMeansForgetOldValuesAndLaterColumnsRow.domain false) (Rows.fnColumnMeansForgetOldValuesAndLaterColumnsSpec.post enc Try.prog Try.f5 false true false false) := by
  refine returnsInHanded_of_change (C := Try.checked) own started (by kernel_rfl) Try.func5
    (ChangeSpec.witness6 (enc := enc) (C := Try.checked) false ⟨#[], #[.slice none 0 0, .slice none 0 0, .int .i64 0, .slice none 0 0, .int .i64 0], []⟩ 8 (by kernel_rfl) (by kernel_rfl) (by kernel_rfl) (by kernel_rfl)) ?_
  intro W base args ds gs before hval0 hW hcnd _
  have hval : ∀ (j : Nat) t v, Try.f5.params[j]? = some t → args[j]? = some v → Value.okWide Try.prog W .any base t v := hval0
  have hW' := hW
  obtain ⟨p, q, hA0, hV, rfl, hfz, hnd⟩ := hW
  have hA : DataW.TrodAll enc Try.prog W 0 (fun _ => true) true Try.f5.params.toList args.toList ds p := hA0
  rw [Try.params5] at hA hval
  obtain ⟨v0, vs0, d0, ds0, p0, q0, hargs, rfl, rfl, h0, r0⟩ := trodAll_cons hA
  obtain ⟨v1, vs1, d1, ds1, p1, q1, rfl, rfl, rfl, h1, r1⟩ := trodAll_cons r0
  obtain ⟨v2, vs2, d2, ds2, p2, q2, rfl, rfl, rfl, h2, r2⟩ := trodAll_cons r1
  obtain ⟨v3, vs3, d3, ds3, p3, q3, rfl, rfl, rfl, h3, r3⟩ := trodAll_cons r2
  obtain ⟨v4, vs4, d4, ds4, p4, q4, rfl, rfl, rfl, h4, r4⟩ := trodAll_cons r3
  obtain ⟨rfl, rfl, rfl⟩ := trodAll_nil r4
  obtain rfl : args = #[v0, v1, v2, v3, v4] := by cases args; simp_all
  obtain ⟨rfl, rfl⟩ := trodVars_none hV
  obtain ⟨a0, n0, c0, rfl⟩ := okWide_slice Try.underlying26 (hval 0 26 v0 rfl rfl)
  obtain ⟨a1, n1, c1, rfl⟩ := okWide_slice Try.underlying27 (hval 1 27 v1 rfl rfl)
  obtain ⟨n, rfl, rfl, rfl, w2⟩ := open_int Try.underlying3 (hval 2 3 v2 rfl rfl) h2
  obtain ⟨a3, n3, c3, rfl⟩ := okWide_slice Try.underlying26 (hval 3 26 v3 rfl rfl)
  obtain ⟨cols, rfl, rfl, rfl, w4⟩ := open_int Try.underlying3 (hval 4 3 v4 rfl rfl) h4
  have lt0 : ∀ x ∈ p0, x.block < W.heap.size := by obtain ⟨m, hm⟩ := h0; exact DataW.trod_lt m _ _ _ hm
  have lt1 : ∀ x ∈ p1, x.block < W.heap.size := by obtain ⟨m, hm⟩ := h1; exact DataW.trod_lt m _ _ _ hm
  have lt3 : ∀ x ∈ p3, x.block < W.heap.size := by obtain ⟨m, hm⟩ := h3; exact DataW.trod_lt m _ _ _ hm
  obtain ⟨x0, s0⟩ := B3.row_float Try.underlying26 Try.underlying22 (by kernel_rfl) h0
  obtain ⟨x1, s1⟩ := B3.row_int Try.underlying27 Try.underlying3 (by kernel_rfl) h1
  obtain ⟨x3, s3⟩ := B3.row_float Try.underlying26 Try.underlying22 (by kernel_rfl) h3
  clear hA0 hval0
  refine (walk a0 a1 a3 n0 c0 n1 c1 n3 c3 n cols x0 x3 x1 W s0 s1 s3).mono fun e W' ⟨he, bel⟩ => ?_
  subst he
  exact ⟨_, rfl, _, _, _, [], _, [], hW', trodAll_mk1 (shut_bool Try.underlying4 _), (trodAll_cons_mk (Below.trod laidOut (by kernel_rfl) (of_decide_eq_true (by kernel_rfl)) h0 bel lt0) (trodAll_cons_mk (Below.trod laidOut (by kernel_rfl) (of_decide_eq_true (by kernel_rfl)) h1 bel lt1) (trodAll_cons_mk (shut_int Try.underlying3 w2) (trodAll_cons_mk (Below.trod laidOut (by kernel_rfl) (of_decide_eq_true (by kernel_rfl)) h3 bel lt3) (trodAll_cons_mk (shut_int Try.underlying3 w4) trodAll_mk0))))), rfl, bel.frame _, fun h => by cases h⟩

theorem over : Rows.fnColumnMeansForgetOldValuesAndLaterColumnsRow.holds Try.pinned (OpenSpec.ofChange Rows.fnColumnMeansForgetOldValuesAndLaterColumnsSpec) :=
  OpenClaim.holds_of_wide 5 Try.f5 rfl rfl rfl rfl rfl rfl rfl ⟨rfl, rfl, rfl, rfl, rfl⟩ rfl rfl rfl rfl rfl (by kernel_rfl) Try.func5 (by kernel_rfl)
    (of_decide_eq_true (by kernel_rfl)) (by unfold Func.isWrapper; first | (rw [if_pos (by decide +kernel)]; kernel_rfl) | (rw [if_neg (by decide +kernel)]; exact ⟨rfl, rfl⟩))
    (fun os started H enc _ => lifted os started H enc)

theorem proved : Rows.FnColumnMeansForgetOldValuesAndLaterColumnsSaid :=
  over
#print axioms proved
end Go.Proofs.Qxb6605746a.fnColumnMeansForgetOldValuesAndLaterColumns
