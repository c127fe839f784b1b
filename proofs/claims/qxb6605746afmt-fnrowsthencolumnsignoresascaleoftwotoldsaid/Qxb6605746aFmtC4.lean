import Derived.Test.Qxb6605746aFmtC3
import Derived.Test.Qxb6605746aFmtP8
import Derived.Test.Qxb6605746aFmtB5
set_option linter.unusedVariables false
set_option linter.unusedSimpArgs false
namespace Go.Proofs.Qxb6605746aFmt.C4
open Go.RowKit Go.Extern.Stop Go.Stop Go.Extern Go.Proofs.Qxb6605746aFmt.P1 Go.Proofs.Qxb6605746aFmt.P3 Go.Proofs.Qxb6605746aFmt.P7 Go.Proofs.Qxb6605746aFmt.P8 Go.Proofs.Qxb6605746aFmt.A1 Go.Proofs.Qxb6605746aFmt.A2 Go.Proofs.Qxb6605746aFmt.A3 Go.Proofs.Qxb6605746aFmt.A4 Go.Proofs.Qxb6605746aFmt.A5 Go.Proofs.Qxb6605746aFmt.A6 Go.Proofs.Qxb6605746aFmt.A7 Go.Proofs.Qxb6605746aFmt.A8 Go.Proofs.Qxb6605746aFmt.A9 Go.Proofs.Qxb6605746aFmt.B1 Go.Proofs.Qxb6605746aFmt.B3 Go.Proofs.Qxb6605746aFmt.B4 Go.Proofs.Qxb6605746aFmt.B6 Go.Proofs.Qxb6605746aFmt.B7 Go.Proofs.Qxb6605746aFmt.C1 Go.Proofs.Qxb6605746aFmt.C2 Go.Proofs.Qxb6605746aFmt.C3

theorem clr (w : World) (cu C : Nat) (U0 : List Nat) (hU : FB w cu U0) (hUl : U0.length = C) : ∃ w1, (∀ ty, (Builtin.clear_ #[22] ty #[.slice (some ⟨cu, 0, none⟩) C C]).run Tryf.prog w = .ok (.tuple #[]) w1) ∧ ∃ us, FB w1 cu us ∧ us.length = C ∧ (∀ j, j < C → us.getD j 0 = 0) ∧ Oth cu w w1 := by
  by_cases h0 : 0 < C
  · obtain ⟨z1, hz1, hz2, hz3, _⟩ := set_zeros cu C 0 w U0 hU (by omega)
    exact ⟨_, fun ty => Lib.run_clear_slice (P := Tryf.prog) w 22 23 ty (.float .f64 0) Tryf.underlying22 zero23 rfl rfl cu 0 C C h0 (fun j hj => by rw [Nat.zero_add, hU.cell j (by omega)]; rfl) (fun j hj => by rw [Nat.zero_add]; exact hU.frozen j), z1, hz1, by omega, fun j hj => hz3 j (by omega) (by omega), oth_zeros cu _ C 0 w w (Oth.refl _ _)⟩
  · obtain rfl : C = 0 := by omega
    exact ⟨w, fun ty => clear_nil _ ty w, U0, hU, hUl, fun j hj => by omega, Oth.refl _ _⟩

theorem t1 (X : Nat → Option Nat) (m : Option Nat) (n : Int) : fsd X m 0 n = fsqrt (fop .quo (some 0) (fcnt n)) := by
  unfold fsd
  rw [fsqs]
theorem t2 : some (0 : Nat) = some (P2.W false 0) := by
  unfold P2.W Ieee.Format.word
  simp
theorem t3 : fsqrt (some (P2.W false 0)) = some (P2.W false 0) := by
  rw [keyr]
  unfold Ieee.Format.sqrt; rw [P2.read_zero]; simp [Ieee.Datum.root, Ieee.Format.write, P2.word_zero]
theorem t4 (f : Option Nat) : P5.ok (fsqrt none) f = false := by
  have h : fsqrt none = none := rfl
  rw [h]
  unfold P5.ok
  have h2 : P5.fgt none f = false := by unfold P5.fgt; rfl
  rw [h2, Bool.false_and, Bool.false_and]
theorem t5 (s t : Bool) (q : Nat) (q1 : 1023 ≤ q / 2 ^ 52) (q2 : q / 2 ^ 52 ≤ 1041) : fop .quo (some (P2.W s 0)) (some (P2.W t q)) = some (P2.W (s ^^ t) 0) := by
  obtain ⟨e, he⟩ := quo_zero s t (2 ^ 52 + q % 2 ^ 52) (-1074) ((q / 2 ^ 52 : Nat) - 1075) (by omega)
  have hr := P2.read_W0 t q (by omega) (by omega)
  rw [keyq]; unfold Ieee.Format.div; rw [P2.read_zero, hr, he]; simp only [Option.map_some, Ieee.Format.write, P2.word_zero]
theorem t6 (q : Nat) (q1 : 1023 ≤ q / 2 ^ 52) (q2 : q / 2 ^ 52 ≤ 1041) : fop .quo (some (P2.W false 0)) (some (P2.W false q)) = some (P2.W false 0) := by
  have := t5 false false q q1 q2
  rw [Bool.false_xor] at this
  exact this
/-- A row of no cells is never let by. -/
theorem ok_c0 (X : Nat → Option Nat) (m : Option Nat) (n : Int) (f : Option Nat) (h1 : 0 ≤ n) (h2 : n ≤ 65536) : P5.ok (fsd X m 0 n) f = false := by
  rw [t1]
  by_cases h : n = 0
  · subst h
    rw [cnt_zero]
    exact t4 f
  · obtain ⟨q, hq, q1, q2⟩ := cnt_W n (by omega) (by omega)
    rw [hq, t2, t6 q q1 q2, t3]
    exact P6.ok_zero _ _

set_option maxHeartbeats 400000 in
theorem sds52_zero (A cs cm cn : Nat) (w : World) :
    Calls Tryf.prog 52 #[.slice (some ⟨cs, 0, none⟩) 0 0, .slice (some ⟨cm, 0, none⟩) 0 0, .slice (some ⟨cn, 0, none⟩) 0 0, .int .i64 0, .func (.func 37) #[.pointer (some ⟨A, 0, none⟩)] #[]] w fun e w' => e = .returned (.tuple #[]) ∧ w' = w := by
  have hclr := fun ty wx => clear_nil (some ⟨cs, 0, none⟩) ty wx
  go_enter Tryf.func52, Tryf.ntmps52
  go_wp2
  go_loopw [21] (fun v21 wx => v21 = .int .i64 0 ∧ wx = w) (fun _ _ => 0)
  case atStart => exact ⟨rfl, rfl⟩
  case round =>
    obtain ⟨rfl, rfl⟩ := hrel
    go_wp2
    go_loopw [58] (fun v58 wx => v58 = .int .i64 0 ∧ wx = wr) (fun _ _ => 0)
    case atStart => exact ⟨rfl, rfl⟩
    case round =>
      obtain ⟨rfl, rfl⟩ := hrel
      go_wp2
      go_end0
      exact ⟨rfl, rfl⟩

set_option maxRecDepth 100000 in
set_option maxHeartbeats 1000000 in
theorem fit39_zero (A T rn cn rm rs cm cs cu bf R rf cf : Nat) (w : World) (hA : AB w A T rn cn rm rs cm cs cu bf R 0 rf cf) (hT : w.cell? ⟨T, 0, none⟩ = some (.int .i64 0)) (hne : T ≠ A) :
    Calls Tryf.prog 39 #[.pointer (some ⟨A, 0, none⟩), .func (.func 37) #[.pointer (some ⟨A, 0, none⟩)] #[]] w fun e w' => e = .returned (.pointer none) ∧ AB w' A T rn cn rm rs cm cs cu bf R 0 0 cf ∧ Oth A w w' := by
  have c6 := hA.c6
  have c5 := hA.c5
  have c2 := hA.c2
  have c0 := hA.c0
  have HA : Hid (AB w A T rn cn rm rs cm cs cu bf R 0 rf cf) := hA
  clear hA
  have hsf := store_float
  go_enter Tryf.func39, Tryf.ntmps39
  go_wp2
  go_region_held3 (fun w' => w'.cell? ⟨A, 6, none⟩ = some (.slice (some ⟨cs, 0, none⟩) 0 0) ∧ w'.cell? ⟨A, 5, none⟩ = some (.slice (some ⟨cm, 0, none⟩) 0 0) ∧ w'.cell? ⟨A, 2, none⟩ = some (.slice (some ⟨cn, 0, none⟩) 0 0) ∧ w'.cell? ⟨A, 0, none⟩ = some (.pointer (some ⟨T, 0, none⟩)) ∧ w'.cell? ⟨T, 0, none⟩ = some (.int .i64 0)) (go_keep)
    ((go_at_call 52; refine (sds52_zero A cs cm cn _).mono ?_; rintro e w1 ⟨rfl, hw1⟩; have HD : Hid (Dr w w1) := ⟨_, hw1⟩; have a1 : AB w1 A T rn cn rm rs cm cs cu bf R 0 rf cf := HA.out.below (dr_bel HD.out); have k6 := a1.c6; have k5 := a1.c5; have k2 := a1.c2; have k0 := a1.c0; have kt : w1.cell? ⟨T, 0, none⟩ = some (.int .i64 0) := (by obtain ⟨nn, hnn⟩ := HD.out; rw [hnn]; exact hT); have HA1 : Hid (AB w1 A T rn cn rm rs cm cs cu bf R 0 rf cf) := a1; clear hw1 a1))
  have k9 := HA1.out.c9
  have kf9 := HA1.out.fz 9
  have s6 := (HA1.out.set9 0).c6
  clear c6 c5 c2 c0 k6 k5 k2 k0 kt
  go_wp2
  go_loopw [37] (fun v37 wx => v37 = .int .i64 0 ∧ AB wx A T rn cn rm rs cm cs cu bf R 0 0 cf ∧ Oth A w wx) (fun _ _ => 0)
  case atStart => exact ⟨rfl, HA1.out.set9 0, (dr_oth A HD.out).set _ _⟩
  case round =>
    obtain ⟨rfl, h1, h2⟩ := hrel
    have H1 : Hid (AB wr A T rn cn rm rs cm cs cu bf R 0 0 cf ∧ Oth A w wr) := ⟨h1, h2⟩
    clear h1 h2
    go_wp2
    go_ret
    exact ⟨rfl, H1.out.1, H1.out.2⟩
end Go.Proofs.Qxb6605746aFmt.C4
