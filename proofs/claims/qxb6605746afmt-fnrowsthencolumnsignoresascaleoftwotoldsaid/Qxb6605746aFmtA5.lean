import Derived.Test.Qxb6605746aFmtA4
set_option linter.unusedVariables false
set_option linter.unusedSimpArgs false
namespace Go.Proofs.Qxb6605746aFmt.A5
open Go.RowKit Go.Proofs.Qxb6605746aFmt.P1 Go.Proofs.Qxb6605746aFmt.P3 Go.Proofs.Qxb6605746aFmt.P7 Go.Proofs.Qxb6605746aFmt.A1 Go.Proofs.Qxb6605746aFmt.A2 Go.Proofs.Qxb6605746aFmt.A3 Go.Proofs.Qxb6605746aFmt.A4

def PartQ (n k : Nat) (zs : List Nat) (ks : List Int) (ys : List Nat) : Prop :=
  ys.length = n ∧ (∀ j, j < k → fnum (ys.getD j 0) = fop .quo (fnum (zs.getD j 0)) (fnum (floatOfInt .f64 (ks.getD j 0)))) ∧ ∀ j, k ≤ j → ys.getD j 0 = zs.getD j 0
theorem PartQ.start {n : Nat} {zs : List Nat} {ks : List Int} (h : zs.length = n) : PartQ n 0 zs ks zs := ⟨h, fun j hj => by omega, fun _ _ => rfl⟩
theorem PartQ.put {n k : Nat} {zs ys : List Nat} {ks : List Int} {r y : Nat} {c : Int} (h : PartQ n k zs ks ys) (hk : k < n) (hy : ys.getD k 0 = y) (hc : ks.getD k 0 = c)
    (hr : fnum r = fop .quo (fnum y) (fnum (floatOfInt .f64 c))) : PartQ n (k + 1) zs ks (ys.set k r) := by
  obtain ⟨h1, h2, h3⟩ := h
  refine ⟨by simp [h1], fun j hj => ?_, fun j hj => ?_⟩
  · rw [getD_set _ _ _ _ (by omega)]
    by_cases e : j = k
    · subst e
      rw [if_pos rfl, hr, ← hy, h3 j (Nat.le_refl _), hc]
    · rw [if_neg e]; exact h2 j (by omega)
  · rw [getD_set _ _ _ _ (by omega), if_neg (by omega)]; exact h3 j (by omega)

theorem means_nil (p q : Option Addr) (m c : Nat) (w : World) :
    Calls Tryf.prog 51 #[.slice p 0 0, .slice q m c] w fun e w' => e = .returned (.tuple #[]) ∧ w' = w := by
  go_enter Tryf.func51, Tryf.ntmps51
  go_wp2
  go_loopw [7] (fun i wr => i = .int .i64 0 ∧ wr = w) (fun _ _ => 0)
  case atStart => exact ⟨rfl, rfl⟩
  case round =>
    obtain ⟨rfl, rfl⟩ := hrel
    go_wp2
    go_end0
    exact ⟨rfl, rfl⟩

set_option maxRecDepth 100000 in
set_option maxHeartbeats 1000000 in
theorem means51 (s n cb m c : Nat) (zs : List Nat) (ks : List Int) (w : World) (hs : FB w s zs) (hr : IB w cb ks) (hne : cb ≠ s) (hz : zs.length = n) (hk0 : ks.length = m) (hn : n ≤ m) (hm : n ≤ 1048576) (hm' : m ≤ 1048576) :
    Calls Tryf.prog 51 #[.slice (some ⟨s, 0, none⟩) n n, .slice (some ⟨cb, 0, none⟩) m c] w fun e w' => e = .returned (.tuple #[]) ∧ ∃ ys, FB w' s ys ∧ PartQ n n zs ks ys ∧ Oth s w w' := by
  have hsf := store_float
  go_enter Tryf.func51, Tryf.ntmps51
  go_wp2
  go_loopw [7] (fun i wr => ∃ k : Nat, k ≤ n ∧ i = .int .i64 k ∧ ∃ ys, FB wr s ys ∧ PartQ n k zs ks ys ∧ Oth s w wr) (fun i _ => n - (intOf i).toNat)
  case atStart => exact ⟨0, Nat.zero_le _, rfl, zs, hs, PartQ.start hz, Oth.refl _ _⟩
  case round =>
    obtain ⟨k, hk, rfl, ys, hF, hP, hO⟩ := hrel
    by_cases hlt : k < n
    · have hyl := hP.1
      have hc1 := hF.cell k (by omega)
      have hc2 := (hr.oth hO hne).cell k (by omega)
      have hf := hF.frozen k
      obtain ⟨y, hy⟩ : ∃ y, ys.getD k 0 = y := ⟨_, rfl⟩
      obtain ⟨r, hrr⟩ : ∃ y, ks.getD k 0 = y := ⟨_, rfl⟩
      rw [hy] at hc1
      rw [hrr] at hc2
      have HF : Hid (FB wr s ys) := hF
      have HP : Hid (PartQ n k zs ks ys) := hP
      have HO : Hid (Oth s w wr) := hO
      have HY : Hid (ys.getD k 0 = y) := hy
      have HR : Hid (ks.getD k 0 = r) := hrr
      clear hF hP hO hy hrr
      rcases float_case .quo (.inr (.inr (.inr rfl))) y (floatOfInt .f64 r) with ⟨q, hop, hfq⟩ | ⟨hop, hfq⟩
      · have HFQ : Hid _ := hfq
        clear hfq
        go_wp2
        go_region
        all_goals go_wp2
        all_goals go_roundw
        case rel => exact ⟨k + 1, by omega, by go_num, _, HF.out.set k q, HP.out.put hlt HY.out HR.out HFQ.out, HO.out.set _ _⟩
        case measure => simp [intOf]; omega
      · have HFQ : Hid _ := hfq
        clear hfq
        go_wp2
        go_region
        all_goals go_wp2
        all_goals go_roundw
        case rel => exact ⟨k + 1, by omega, by go_num, _, HF.out.set k (nanOf y (floatOfInt .f64 r) wr.drew), HP.out.put hlt HY.out HR.out (by rw [nanOf_nan]; exact HFQ.out), HO.out.set _ _⟩
        case measure => simp [intOf]; omega
    · have : k = n := by omega
      subst this
      go_wp2
      go_end0
      exact ⟨rfl, ys, hF, hP, hO⟩
end Go.Proofs.Qxb6605746aFmt.A5
