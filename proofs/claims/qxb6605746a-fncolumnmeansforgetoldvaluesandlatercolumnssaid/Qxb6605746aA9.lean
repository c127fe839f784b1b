import Derived.Test.Qxb6605746aA8
set_option linter.unusedVariables false
set_option linter.unusedSimpArgs false
namespace Go.Proofs.Qxb6605746a.A9
open Go.RowKit Go.Proofs.Qxb6605746a.A1 Go.Proofs.Qxb6605746a.A2 Go.Proofs.Qxb6605746a.A3 Go.Proofs.Qxb6605746a.A4 Go.Proofs.Qxb6605746a.A5 Go.Proofs.Qxb6605746a.A6 Go.Proofs.Qxb6605746a.A7 Go.Proofs.Qxb6605746a.A8

theorem clear_nil (p : Option Addr) (ty : TypeId) (w : World) : (Builtin.clear_ #[26] ty #[.slice p 0 0]).run Try.prog w = .ok (.tuple #[]) w := by
  cases p <;> simp [Builtin.clear_, run_underlying Try.underlying26]

def AnySl (e : Ending) : Prop := ∃ q m c, e = .returned (.slice q m c) ∧ m ≤ c ∧ c ≤ 1048576
def Dr (w w' : World) : Prop := ∃ n, w' = w.drewN n

set_option maxRecDepth 100000 in
set_option maxHeartbeats 1000000 in
theorem colmeans_nil (p kp : Option Addr) (T M C N : Nat) (n : Int) (w : World) (hN : N = n.toNat) (hN' : N ≤ 1048576)
    (hrow : Hid (∀ k : Nat, k < N → ∀ nn, Calls Try.prog 16 #[.pointer (some ⟨T, 0, none⟩), .int .i64 (k : Int)] (w.drewN nn) fun e w' => AnySl e ∧ Dr w w')) :
    Calls Try.prog 15 #[.slice p 0 0, .slice kp M C, .int .i64 n, .func (.func 16) #[.pointer (some ⟨T, 0, none⟩)] #[]] w fun e w' => e = .returned (.tuple #[]) ∧ Dr w w' := by
  have hclr := fun ty wx => clear_nil p ty wx
  go_enter Try.func15, Try.ntmps15
  go_wp2
  go_loopw [11] (fun i wr => ∃ k : Nat, k ≤ N ∧ i = .int .i64 k ∧ ∃ nn, wr = w.drewN nn) (fun i _ => N - (intOf i).toNat)
  case atStart => exact ⟨0, Nat.zero_le _, rfl, 0, rfl⟩
  case round =>
    obtain ⟨k, hkN, rfl, nn, rfl⟩ := hrel
    by_cases hlt : k < N
    · have HR : Hid (Calls Try.prog 16 #[.pointer (some ⟨T, 0, none⟩), .int .i64 (k : Int)] (w.drewN nn) fun e w' => AnySl e ∧ Dr w w') := hrow.out k hlt nn
      clear hrow
      have hkn : (k : Int) < n := by omega
      go_wp2_with (first
        | (go_at_call 16; refine HR.out.mono ?_; rintro e w1 ⟨⟨q, m, c, rfl, hmc, hc⟩, n1, rfl⟩)
        | (go_at_call 18; refine (addobs_nil p q m c hmc (by unfold maxLen; omega) _).mono ?_; rintro e w2 ⟨rfl, rfl⟩))
      go_roundw
      case rel => exact ⟨k + 1, by omega, by go_num, _, rfl⟩
      case measure => simp [intOf]; omega
    · have hkn : ¬ ((k : Int) < n) := by omega
      clear hrow
      go_wp2_with (go_at_call 19; refine (means_nil p kp M C _).mono ?_; rintro e w2 ⟨rfl, rfl⟩)
      go_end0
      exact ⟨rfl, _, rfl⟩

set_option maxHeartbeats 400000 in
theorem zz11_raw (p kp : Option Addr) (m M C T : Nat) (n : Int) (w : World) (Q : World → Prop)
    (H : Hid (Calls Try.prog 15 #[.slice p m m, .slice kp M C, .int .i64 n, .func (.func 16) #[.pointer (some ⟨T, 0, none⟩)] #[]] w fun e w' => e = .returned (.tuple #[]) ∧ Q w')) :
    Calls Try.prog 11 #[.slice p m m, .slice kp M C, .int .i64 n, .pointer (some ⟨T, 0, none⟩)] w fun e w' => e = .returned (.tuple #[]) ∧ Q w' := by
  go_enter Try.func11, Try.ntmps11
  go_wp2_with (go_at_call 15; refine H.out.mono ?_; rintro e w1 ⟨rfl, hq⟩)
  go_end0
  exact ⟨rfl, hq⟩
end Go.Proofs.Qxb6605746a.A9
