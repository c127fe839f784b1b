import Derived.Test.Qxb6605746aFmtA8
import Derived.Stop.CallBack
import Derived.Stop.IfaceNil
import Derived.Laws.Cover3
import GoSem.ClaimData
set_option linter.unusedVariables false
set_option linter.unusedSimpArgs false
namespace Go.Proofs.Qxb6605746aFmt.A9
open Go.RowKit Go.Extern.Stop Go.Stop Go.Extern Go.Proofs.Qxb6605746aFmt.P1 Go.Proofs.Qxb6605746aFmt.P3 Go.Proofs.Qxb6605746aFmt.P7 Go.Proofs.Qxb6605746aFmt.A1 Go.Proofs.Qxb6605746aFmt.A2 Go.Proofs.Qxb6605746aFmt.A3 Go.Proofs.Qxb6605746aFmt.A4 Go.Proofs.Qxb6605746aFmt.A5 Go.Proofs.Qxb6605746aFmt.A6 Go.Proofs.Qxb6605746aFmt.A7 Go.Proofs.Qxb6605746aFmt.A8

@[go_sem] theorem call56 (args : Array Value) (w : World) : (callFunc 56 args).run Tryf.prog w = ((FmtStop.sprintf #[9, 107] #[9] args).run Tryf.prog w).andThen fun v w' => .ok (.value v) w' :=
  run_callFunc_extern Tryf.func56 (by kernel_rfl) (by kernel_rfl) (by kernel_rfl) (by kernel_rfl) args w
@[go_sem] theorem guard (name : String) (w : World) : (FmtStop.guard name).run Tryf.prog w = .ok () w := by kernel_rfl
-- "row %d"
@[go_sem] theorem fmt0 : FmtStop.printed? ⟨#[114, 111, 119, 32, 37, 100]⟩ 1 = some [(0, 100, false)] := by kernel_rfl
@[go_sem] theorem fmt0r (w : World) : (FmtDoors.printed ⟨#[114, 111, 119, 32, 37, 100]⟩ 1).run Tryf.prog w = .ok [(0, 100, false)] w := by kernel_rfl
-- "column %d"
@[go_sem] theorem fmt1 : FmtStop.printed? ⟨#[99, 111, 108, 117, 109, 110, 32, 37, 100]⟩ 1 = some [(0, 100, false)] := by kernel_rfl
@[go_sem] theorem fmt1r (w : World) : (FmtDoors.printed ⟨#[99, 111, 108, 117, 109, 110, 32, 37, 100]⟩ 1).run Tryf.prog w = .ok [(0, 100, false)] w := by kernel_rfl
def shape3 : List UInt8 := [5, 3, 0, 0, 0, 0, 0, 0, 0, 105, 110, 116]
@[go_sem] theorem op3_100 (name : String) (x : Int) (w : World) : (FmtStop.operand name false 100 false (.iface 3 (.int .i64 x))).run Tryf.prog w = .ok (shape3, Go.Extern.Stop.digits 8 (x % 2 ^ 64).toNat) w := by kernel_rfl

def TB (w : World) (T : Nat) (n cols : Int) (p : Option Addr) (L C : Nat) : Prop := w.heap[T]? = some (.cells #[.int .i64 n, .int .i64 cols, .slice p L C, .slice none 0 0, .slice none 0 0, .string ⟨#[]⟩, .slice none 0 0] 39 (0, 0))
theorem TB.rows {w : World} {T : Nat} {n cols : Int} {p : Option Addr} {L C : Nat} (h : TB w T n cols p L C) : w.cell? ⟨T, 0, none⟩ = some (.int .i64 n) := by rw [cell_of_row w T 0 _ _ _ h]; rfl
theorem TB.cols {w : World} {T : Nat} {n cols : Int} {p : Option Addr} {L C : Nat} (h : TB w T n cols p L C) : w.cell? ⟨T, 1, none⟩ = some (.int .i64 cols) := by rw [cell_of_row w T 1 _ _ _ h]; rfl
theorem TB.cells {w : World} {T : Nat} {n cols : Int} {p : Option Addr} {L C : Nat} (h : TB w T n cols p L C) : w.cell? ⟨T, 2, none⟩ = some (.slice p L C) := by rw [cell_of_row w T 2 _ _ _ h]; rfl
theorem TB.names {w : World} {T : Nat} {n cols : Int} {p : Option Addr} {L C : Nat} (h : TB w T n cols p L C) : w.cell? ⟨T, 3, none⟩ = some (.slice none 0 0) := by rw [cell_of_row w T 3 _ _ _ h]; rfl
theorem TB.labels {w : World} {T : Nat} {n cols : Int} {p : Option Addr} {L C : Nat} (h : TB w T n cols p L C) : w.cell? ⟨T, 4, none⟩ = some (.slice none 0 0) := by rw [cell_of_row w T 4 _ _ _ h]; rfl
theorem TB.lines {w : World} {T : Nat} {n cols : Int} {p : Option Addr} {L C : Nat} (h : TB w T n cols p L C) : w.cell? ⟨T, 6, none⟩ = some (.slice none 0 0) := by rw [cell_of_row w T 6 _ _ _ h]; rfl

theorem cell_alloc {w : World} {a : Addr} {v : Value} (h : w.cell? a = some v) (o : Obj) : (w.alloc o).cell? a = some v :=
  (((Below.refl _ w).alloc (Nat.le_refl _) o).cell (block_lt_of_cell h)).trans h

set_option maxHeartbeats 400000 in
theorem name53 (F : Interp) (T : Nat) (j : Int) (w : World) (hF : F.answers w.tape) (hT : w.cell? ⟨T, 3, none⟩ = some (.slice none 0 0)) :
    Calls Tryf.prog 53 #[.pointer (some ⟨T, 0, none⟩), .int .i64 j] w fun e w' => ∃ s, e = .returned (.string s) ∧ Below w.heap.size w w' := by
  have hF' := answers_open hF
  go_enter Tryf.func53, Tryf.ntmps53
  go_wp2
  go_ret
  exact ⟨_, rfl, ((Below.refl _ w).alloc (Nat.le_refl _) _).drew⟩

set_option maxHeartbeats 400000 in
theorem name48 (F : Interp) (T : Nat) (i : Int) (w : World) (hF : F.answers w.tape) (hT : w.cell? ⟨T, 4, none⟩ = some (.slice none 0 0)) (hT2 : w.cell? ⟨T, 6, none⟩ = some (.slice none 0 0)) :
    Calls Tryf.prog 48 #[.pointer (some ⟨T, 0, none⟩), .int .i64 i] w fun e w' => ∃ s, e = .returned (.string s) ∧ Below w.heap.size w w' := by
  have hF' := answers_open hF
  have g1 := fun o => cell_alloc hT o
  have g2 := fun o => cell_alloc hT2 o
  go_enter Tryf.func48, Tryf.ntmps48
  go_wp2
  go_ret
  exact ⟨_, rfl, ((Below.refl _ w).alloc (Nat.le_refl _) _).drew⟩

/-- What a line's name is made by. -/
def Names (w : World) (f : Nat) (T : Nat) : Prop := ∀ (k : Int) (wx : World), Below w.heap.size w wx → Calls Tryf.prog f #[.pointer (some ⟨T, 0, none⟩), .int .i64 k] wx fun e w' => ∃ s, e = .returned (.string s) ∧ Below wx.heap.size wx w'

theorem gt_ord (x y : Nat) : P5.fgt (fnum x) (fnum y) = (FloatKind.f64.format.order x y == some .gt) := by
  cases hx : fnum x with
  | none => rw [ord_none x y hx]; rfl
  | some x' =>
    have ex : x' = x := by unfold fnum at hx; split at hx <;> simp_all
    subst ex
    cases hy : fnum y with
    | none =>
      have : FloatKind.f64.format.order x' y = none := by
        unfold fnum at hy
        split at hy
        · rename_i hn
          unfold Ieee.Format.order
          generalize FloatKind.f64.format.read y = d at *
          generalize FloatKind.f64.format.read x' = d' at *
          cases d <;> cases d' <;> simp_all [Ieee.Datum.isNaN, Ieee.Datum.order]
        · cases hy
      rw [this]; rfl
    | some y' =>
      have ey : y' = y := by unfold fnum at hy; split at hy <;> simp_all
      subst ey
      rfl
theorem le_ord (x : Nat) : P5.fle (fnum x) (some 9218868437227405311) = (FloatKind.f64.format.order x 9218868437227405311 == some .lt || FloatKind.f64.format.order x 9218868437227405311 == some .eq) := by
  cases hx : fnum x with
  | none => rw [ord_none x _ hx]; rfl
  | some x' =>
    have ex : x' = x := by unfold fnum at hx; split at hx <;> simp_all
    subst ex
    rfl

set_option maxRecDepth 100000 in
set_option maxHeartbeats 1000000 in
theorem check47_48 (sd fl T : Nat) (k : Int) (w : World) (hn : Hid (Calls Tryf.prog 48 #[.pointer (some ⟨T, 0, none⟩), .int .i64 k] w fun e w' => ∃ s, e = .returned (.string s) ∧ Below w.heap.size w w')) :
    Calls Tryf.prog 47 #[.float .f64 sd, .float .f64 fl, .func (.func 48) #[.pointer (some ⟨T, 0, none⟩)] #[], .int .i64 k] w fun e w' =>
      (P5.ok (fnum sd) (fnum fl) = true ∧ e = .returned (.pointer none) ∧ w' = w) ∨ (P5.ok (fnum sd) (fnum fl) = false ∧ (∃ q, e = .returned (.pointer (some q))) ∧ Below w.heap.size w w') := by
  have h1 := gt_ord sd fl
  have h2 := gt_ord sd 0
  have h3 := le_ord sd
  rw [show fnum 0 = some 0 from fnum0] at h2
  unfold P5.ok
  rw [h1, h2, h3]
  clear h1 h2 h3
  have bel : ∀ wx o, Below w.heap.size w wx → Below w.heap.size w (wx.alloc o) := fun wx o h => h.alloc h.size o
  have BEL : Hid (∀ wx o, Below w.heap.size w wx → Below w.heap.size w (wx.alloc o)) := bel
  clear bel
  cases h1 : FloatKind.f64.format.order sd fl with
  | none =>
    go_enter Tryf.func47, Tryf.ntmps47
    go_wp2_with (go_at_call 48; refine hn.out.mono ?_; rintro e w1 ⟨s, rfl, hb⟩)
    go_ret
    exact .inr ⟨by simp, ⟨_, rfl⟩, BEL.out _ _ hb⟩
  | some o1 =>
    cases o1 with
    | lt =>
      go_enter Tryf.func47, Tryf.ntmps47
      go_wp2_with (go_at_call 48; refine hn.out.mono ?_; rintro e w1 ⟨s, rfl, hb⟩)
      go_ret
      exact .inr ⟨by simp, ⟨_, rfl⟩, BEL.out _ _ hb⟩
    | eq =>
      go_enter Tryf.func47, Tryf.ntmps47
      go_wp2_with (go_at_call 48; refine hn.out.mono ?_; rintro e w1 ⟨s, rfl, hb⟩)
      go_ret
      exact .inr ⟨by simp, ⟨_, rfl⟩, BEL.out _ _ hb⟩
    | gt =>
      cases h2 : FloatKind.f64.format.order sd 0 with
      | none =>
        go_enter Tryf.func47, Tryf.ntmps47
        go_wp2_with (go_at_call 48; refine hn.out.mono ?_; rintro e w1 ⟨s, rfl, hb⟩)
        go_ret
        exact .inr ⟨by simp, ⟨_, rfl⟩, BEL.out _ _ hb⟩
      | some o2 =>
        cases o2 with
        | lt =>
          go_enter Tryf.func47, Tryf.ntmps47
          go_wp2_with (go_at_call 48; refine hn.out.mono ?_; rintro e w1 ⟨s, rfl, hb⟩)
          go_ret
          exact .inr ⟨by simp, ⟨_, rfl⟩, BEL.out _ _ hb⟩
        | eq =>
          go_enter Tryf.func47, Tryf.ntmps47
          go_wp2_with (go_at_call 48; refine hn.out.mono ?_; rintro e w1 ⟨s, rfl, hb⟩)
          go_ret
          exact .inr ⟨by simp, ⟨_, rfl⟩, BEL.out _ _ hb⟩
        | gt =>
          cases h3 : FloatKind.f64.format.order sd 9218868437227405311 with
          | none =>
            go_enter Tryf.func47, Tryf.ntmps47
            go_wp2_with (go_at_call 48; refine hn.out.mono ?_; rintro e w1 ⟨s, rfl, hb⟩)
            go_ret
            exact .inr ⟨by simp, ⟨_, rfl⟩, BEL.out _ _ hb⟩
          | some o3 =>
            cases o3 with
            | lt =>
              go_enter Tryf.func47, Tryf.ntmps47
              go_wp2_with (fail)
              go_ret
              exact .inl ⟨by simp, rfl, rfl⟩
            | eq =>
              go_enter Tryf.func47, Tryf.ntmps47
              go_wp2_with (fail)
              go_ret
              exact .inl ⟨by simp, rfl, rfl⟩
            | gt =>
              go_enter Tryf.func47, Tryf.ntmps47
              go_wp2_with (go_at_call 48; refine hn.out.mono ?_; rintro e w1 ⟨s, rfl, hb⟩)
              go_ret
              exact .inr ⟨by simp, ⟨_, rfl⟩, BEL.out _ _ hb⟩

set_option maxRecDepth 100000 in
set_option maxHeartbeats 1000000 in
theorem check47_53 (sd fl T : Nat) (k : Int) (w : World) (hn : Hid (Calls Tryf.prog 53 #[.pointer (some ⟨T, 0, none⟩), .int .i64 k] w fun e w' => ∃ s, e = .returned (.string s) ∧ Below w.heap.size w w')) :
    Calls Tryf.prog 47 #[.float .f64 sd, .float .f64 fl, .func (.func 53) #[.pointer (some ⟨T, 0, none⟩)] #[], .int .i64 k] w fun e w' =>
      (P5.ok (fnum sd) (fnum fl) = true ∧ e = .returned (.pointer none) ∧ w' = w) ∨ (P5.ok (fnum sd) (fnum fl) = false ∧ (∃ q, e = .returned (.pointer (some q))) ∧ Below w.heap.size w w') := by
  have h1 := gt_ord sd fl
  have h2 := gt_ord sd 0
  have h3 := le_ord sd
  rw [show fnum 0 = some 0 from fnum0] at h2
  unfold P5.ok
  rw [h1, h2, h3]
  clear h1 h2 h3
  have bel : ∀ wx o, Below w.heap.size w wx → Below w.heap.size w (wx.alloc o) := fun wx o h => h.alloc h.size o
  have BEL : Hid (∀ wx o, Below w.heap.size w wx → Below w.heap.size w (wx.alloc o)) := bel
  clear bel
  cases h1 : FloatKind.f64.format.order sd fl with
  | none =>
    go_enter Tryf.func47, Tryf.ntmps47
    go_wp2_with (go_at_call 53; refine hn.out.mono ?_; rintro e w1 ⟨s, rfl, hb⟩)
    go_ret
    exact .inr ⟨by simp, ⟨_, rfl⟩, BEL.out _ _ hb⟩
  | some o1 =>
    cases o1 with
    | lt =>
      go_enter Tryf.func47, Tryf.ntmps47
      go_wp2_with (go_at_call 53; refine hn.out.mono ?_; rintro e w1 ⟨s, rfl, hb⟩)
      go_ret
      exact .inr ⟨by simp, ⟨_, rfl⟩, BEL.out _ _ hb⟩
    | eq =>
      go_enter Tryf.func47, Tryf.ntmps47
      go_wp2_with (go_at_call 53; refine hn.out.mono ?_; rintro e w1 ⟨s, rfl, hb⟩)
      go_ret
      exact .inr ⟨by simp, ⟨_, rfl⟩, BEL.out _ _ hb⟩
    | gt =>
      cases h2 : FloatKind.f64.format.order sd 0 with
      | none =>
        go_enter Tryf.func47, Tryf.ntmps47
        go_wp2_with (go_at_call 53; refine hn.out.mono ?_; rintro e w1 ⟨s, rfl, hb⟩)
        go_ret
        exact .inr ⟨by simp, ⟨_, rfl⟩, BEL.out _ _ hb⟩
      | some o2 =>
        cases o2 with
        | lt =>
          go_enter Tryf.func47, Tryf.ntmps47
          go_wp2_with (go_at_call 53; refine hn.out.mono ?_; rintro e w1 ⟨s, rfl, hb⟩)
          go_ret
          exact .inr ⟨by simp, ⟨_, rfl⟩, BEL.out _ _ hb⟩
        | eq =>
          go_enter Tryf.func47, Tryf.ntmps47
          go_wp2_with (go_at_call 53; refine hn.out.mono ?_; rintro e w1 ⟨s, rfl, hb⟩)
          go_ret
          exact .inr ⟨by simp, ⟨_, rfl⟩, BEL.out _ _ hb⟩
        | gt =>
          cases h3 : FloatKind.f64.format.order sd 9218868437227405311 with
          | none =>
            go_enter Tryf.func47, Tryf.ntmps47
            go_wp2_with (go_at_call 53; refine hn.out.mono ?_; rintro e w1 ⟨s, rfl, hb⟩)
            go_ret
            exact .inr ⟨by simp, ⟨_, rfl⟩, BEL.out _ _ hb⟩
          | some o3 =>
            cases o3 with
            | lt =>
              go_enter Tryf.func47, Tryf.ntmps47
              go_wp2_with (fail)
              go_ret
              exact .inl ⟨by simp, rfl, rfl⟩
            | eq =>
              go_enter Tryf.func47, Tryf.ntmps47
              go_wp2_with (fail)
              go_ret
              exact .inl ⟨by simp, rfl, rfl⟩
            | gt =>
              go_enter Tryf.func47, Tryf.ntmps47
              go_wp2_with (go_at_call 53; refine hn.out.mono ?_; rintro e w1 ⟨s, rfl, hb⟩)
              go_ret
              exact .inr ⟨by simp, ⟨_, rfl⟩, BEL.out _ _ hb⟩
end Go.Proofs.Qxb6605746aFmt.A9
