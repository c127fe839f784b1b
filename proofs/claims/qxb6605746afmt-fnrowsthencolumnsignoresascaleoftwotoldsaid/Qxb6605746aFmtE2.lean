import Derived.Test.Qxb6605746aFmtC6
import Derived.Test.Qxb6605746aFmtE1
set_option linter.unusedVariables false
set_option linter.unusedSimpArgs false
namespace Go.Proofs.Qxb6605746aFmt.E2
open Go.RowKit Go.Extern.Stop Go.Stop Go.Extern Go.Proofs.Qxb6605746aFmt.P1 Go.Proofs.Qxb6605746aFmt.P3 Go.Proofs.Qxb6605746aFmt.P7 Go.Proofs.Qxb6605746aFmt.P8 Go.Proofs.Qxb6605746aFmt.A1 Go.Proofs.Qxb6605746aFmt.A2 Go.Proofs.Qxb6605746aFmt.A3 Go.Proofs.Qxb6605746aFmt.A4 Go.Proofs.Qxb6605746aFmt.A8 Go.Proofs.Qxb6605746aFmt.A9 Go.Proofs.Qxb6605746aFmt.B1 Go.Proofs.Qxb6605746aFmt.B3 Go.Proofs.Qxb6605746aFmt.B6 Go.Proofs.Qxb6605746aFmt.C2 Go.Proofs.Qxb6605746aFmt.C5 Go.Proofs.Qxb6605746aFmt.C6

def zerosOf (n : Nat) : Array Value := ((List.replicate n 0).map (Value.float .f64)).toArray

theorem make_run (n : Nat) (hn : n ≤ 1048576) (w : World) : (Instr.makeSlice 22 (.int .i64 (n : Int)) (.int .i64 (n : Int))).run Tryf.prog w = .ok (.slice (some ⟨w.heap.size, 0, none⟩) n n) (w.alloc (.cells (zerosOf n) 23)) := by
  obtain ⟨i0, hi, hz0, hz1, hz2⟩ := info_parts info23
  have h := run_makeSlice (P := Tryf.prog) w 22 23 i0 (.float .f64 0) Tryf.underlying22 hi hz0 .i64 .i64 (n : Int) (n : Int) (by omega) (by omega) (by rw [hz1]; omega) (by rw [hz2]; omega) (by omega)
  have e : madeCells (Value.cells (.float .f64 0)) ((n : Int).toNat * i0.size) = zerosOf n := by
    apply Array.toList_inj.1
    rw [hz1, Int.toNat_natCast]
    have e2 : (madeCells (Value.cells (.float .f64 0)) (n * 1)).toList = List.replicate n (Value.float .f64 0) := by
      rw [← toList_madeCells_one]
      simp [Value.cells]
    rw [e2]
    simp [zerosOf]
  rw [h, e]
  simp

set_option maxHeartbeats 400000 in
theorem new12 (T : Nat) (a1 a2 a3 a4 a5 a6 a7 a8 : Value) (rf : Nat) (w : World) (h1 : ∃ p n c, a1 = .slice p n c) (h2 : ∃ p n c, a2 = .slice p n c) (h3 : ∃ p n c, a3 = .slice p n c) (h4 : ∃ p n c, a4 = .slice p n c) (h5 : ∃ p n c, a5 = .slice p n c) (h6 : ∃ p n c, a6 = .slice p n c) (h7 : ∃ p n c, a7 = .slice p n c) (h8 : ∃ p n c, a8 = .slice p n c) :
    Calls Tryf.prog 12 #[.pointer (some ⟨T, 0, none⟩), a1, a2, a3, a4, a5, a6, a7, a8, .float .f64 rf, .float .f64 0] w fun e w' => e = .returned (.pointer (some ⟨w.heap.size, 0, none⟩)) ∧ w' = w.alloc (.cells #[.pointer (some ⟨T, 0, none⟩), a1, a2, a3, a4, a5, a6, a7, a8, .float .f64 rf, .float .f64 0] 66) := by
  obtain ⟨_, _, _, rfl⟩ := h1
  obtain ⟨_, _, _, rfl⟩ := h2
  obtain ⟨_, _, _, rfl⟩ := h3
  obtain ⟨_, _, _, rfl⟩ := h4
  obtain ⟨_, _, _, rfl⟩ := h5
  obtain ⟨_, _, _, rfl⟩ := h6
  obtain ⟨_, _, _, rfl⟩ := h7
  obtain ⟨_, _, _, rfl⟩ := h8
  go_enter Tryf.func12, Tryf.ntmps12
  go_wp2
  go_ret
  exact ⟨rfl, rfl⟩

set_option maxHeartbeats 400000 in
theorem run13 (A : Nat) (w : World) (Q : Ending → World → Prop) (H : Hid (Calls Tryf.prog 28 #[.pointer (some ⟨A, 0, none⟩)] w fun e w' => (∃ r p, e = .returned (.tuple #[.float .f64 r, .pointer p])) ∧ Q e w')) :
    Calls Tryf.prog 13 #[.pointer (some ⟨A, 0, none⟩)] w fun e w' => (∃ r p, e = .returned (.tuple #[.float .f64 r, .pointer p])) ∧ Q e w' := by
  go_enter Tryf.func13, Tryf.ntmps13
  go_wp2_with (go_at_call 28; refine H.out.mono ?_; rintro e w1 ⟨⟨r, p, rfl⟩, hq⟩)
  go_ret2
  exact ⟨⟨_, _, rfl⟩, hq⟩
end Go.Proofs.Qxb6605746aFmt.E2
