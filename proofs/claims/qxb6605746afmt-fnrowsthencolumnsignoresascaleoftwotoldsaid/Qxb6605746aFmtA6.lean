import Derived.Test.Qxb6605746aFmtA5
set_option linter.unusedVariables false
set_option linter.unusedSimpArgs false
namespace Go.Proofs.Qxb6605746aFmt.A6
open Go.RowKit Go.Proofs.Qxb6605746aFmt.P1 Go.Proofs.Qxb6605746aFmt.P3 Go.Proofs.Qxb6605746aFmt.P7 Go.Proofs.Qxb6605746aFmt.A1 Go.Proofs.Qxb6605746aFmt.A2 Go.Proofs.Qxb6605746aFmt.A3 Go.Proofs.Qxb6605746aFmt.A4 Go.Proofs.Qxb6605746aFmt.A5

theorem belN {B : Nat} {a w : World} (h : Below B a w) (n : Nat) : Below B a (w.drewN n) := ⟨h.os, h.tape, h.output, h.size, h.block⟩

theorem same_nil (p q : Option Addr) (w : World) :
    Calls Tryf.prog 16 #[.slice p 0 0, .slice q 0 0] w fun e w' => e = .returned (.bool true) ∧ Below w.heap.size w w' := by
  go_enter Tryf.func16, Tryf.ntmps16
  go_wp2
  go_loopw [5] (fun i wr => i = .int .i64 0 ∧ wr = w) (fun _ _ => 0)
  case atStart => exact ⟨rfl, rfl⟩
  case round =>
    obtain ⟨rfl, rfl⟩ := hrel
    go_wp2
    go_ret
    exact ⟨rfl, Below.refl _ _⟩

set_option maxRecDepth 100000 in
set_option maxHeartbeats 1000000 in
theorem same16 (s t n : Nat) (xs ys : List Nat) (w : World) (hs : FB w s xs) (ht : FB w t ys) (hx : xs.length = n) (hy : ys.length = n) (hn : n ≤ 1048576) (he : ∀ j, j < n → fnum (xs.getD j 0) = fnum (ys.getD j 0)) :
    Calls Tryf.prog 16 #[.slice (some ⟨s, 0, none⟩) n n, .slice (some ⟨t, 0, none⟩) n n] w fun e w' => e = .returned (.bool true) ∧ Below w.heap.size w w' := by
  go_enter Tryf.func16, Tryf.ntmps16
  go_wp2
  go_loopw [5] (fun i wr => ∃ k : Nat, k ≤ n ∧ i = .int .i64 k ∧ Below w.heap.size w wr) (fun i _ => n - (intOf i).toNat)
  case atStart => exact ⟨0, Nat.zero_le _, rfl, Below.refl _ _⟩
  case round =>
    obtain ⟨k, hk, rfl, hB⟩ := hrel
    by_cases hlt : k < n
    · have hc1 := (hs.below hB).cell k (by omega)
      have hc2 := (ht.below hB).cell k (by omega)
      have hfe := he k hlt
      generalize xs.getD k 0 = x at *
      generalize ys.getD k 0 = y at *
      have HE : Hid (fnum x = fnum y) := hfe
      have HB : Hid (Below w.heap.size w wr) := hB
      clear hfe hB he
      go_wp2
      go_quiet ((go_at_call 15; refine Calls.quiet_of_same (same15 _ _ HE.out _)))
      go_wp2
      go_roundw
      case rel => exact ⟨k + 1, by omega, by go_num, belN HB.out _⟩
      case measure => simp [intOf]; omega
    · have : k = n := by omega
      subst this
      go_wp2
      go_ret
      exact ⟨rfl, hB⟩
end Go.Proofs.Qxb6605746aFmt.A6
