import Derived.Test.Qxb6605746aFmtE2
import Derived.Deep.DrawnRows
set_option linter.unusedVariables false
set_option linter.unusedSimpArgs false
namespace Go.Proofs.Qxb6605746aFmt.E3
open Go.RowKit Go.Extern.Stop Go.Stop Go.Extern Go.Proofs.Qxb6605746aFmt.P1 Go.Proofs.Qxb6605746aFmt.P3 Go.Proofs.Qxb6605746aFmt.P7 Go.Proofs.Qxb6605746aFmt.P8 Go.Proofs.Qxb6605746aFmt.A1 Go.Proofs.Qxb6605746aFmt.A2 Go.Proofs.Qxb6605746aFmt.A3 Go.Proofs.Qxb6605746aFmt.A4 Go.Proofs.Qxb6605746aFmt.A8 Go.Proofs.Qxb6605746aFmt.A9 Go.Proofs.Qxb6605746aFmt.B1 Go.Proofs.Qxb6605746aFmt.B3 Go.Proofs.Qxb6605746aFmt.B6 Go.Proofs.Qxb6605746aFmt.C2 Go.Proofs.Qxb6605746aFmt.C5 Go.Proofs.Qxb6605746aFmt.C6 Go.Proofs.Qxb6605746aFmt.E2
attribute [local go_sem ↓] Go.wp_at_zero Go.wp_at_succ

/-- What a run of the alternation leaves: pp the error. -/
def P18 (w w' : World) (p : Option Addr) (L R C rf cb : Nat) (xs : List Nat) (RN CN : List Int) (pp : Option Addr) : Prop :=
  ((pp = none ∧ rowsOk (XX xs C) (IN RN) R C (fnum rf) ∧ colsOk (XX xs C) (IN RN) (IN CN) R C ∧ ∃ zs RD CD, CS w' p L cb zs ∧ (∀ i, i < R → ∀ j, j < C → fnum (zs.getD (i * C + j) 0) = outOf (XX xs C) (IN RN) (IN CN) R C i j) ∧
    (FB w' w.heap.size RD ∧ RD.length = R ∧ ∀ i, i < R → fnum (RD.getD i 0) = rsOf (XX xs C) (IN RN) C i) ∧ (FB w' (w.heap.size + 1) CD ∧ CD.length = C ∧ ∀ j, j < C → fnum (CD.getD j 0) = csOf (XX xs C) (IN RN) (IN CN) R C j)) ∨
   ((∃ q, pp = some q) ∧ ¬ (rowsOk (XX xs C) (IN RN) R C (fnum rf) ∧ colsOk (XX xs C) (IN RN) (IN CN) R C) ∧ CS w' p L cb xs)) ∧ Oth cb w w'

def allocs (w : World) (l : List Obj) : World := l.foldl World.alloc w
theorem allocs_size (l : List Obj) : ∀ w : World, (allocs w l).heap.size = w.heap.size + l.length := by
  induction l with
  | nil => intro w; rfl
  | cons o l ih =>
    intro w
    show (allocs (w.alloc o) l).heap.size = _
    rw [ih]
    simp
    omega
theorem allocs_below (l : List Obj) : ∀ w : World, Below w.heap.size w (allocs w l) := by
  induction l with
  | nil => intro w; exact Below.refl _ _
  | cons o l ih =>
    intro w
    have h1 : Below w.heap.size w (w.alloc o) := (Below.refl _ w).alloc (Nat.le_refl _) o
    exact h1.trans ((ih (w.alloc o)).mono h1.size)
theorem got (l : List Obj) : ∀ (w : World) (i : Nat), i < l.length → (allocs w l).heap[w.heap.size + i]? = l[i]? := by
  induction l with
  | nil => intro w i hi; simp at hi
  | cons o l ih =>
    intro w i hi
    cases i with
    | zero =>
      have h := heap_alloc_new w o
      show (allocs (w.alloc o) l).heap[w.heap.size]? = _
      rw [(allocs_below l (w.alloc o)).block w.heap.size (by simp)]
      simpa using h
    | succ i =>
      have := ih (w.alloc o) i (by simpa using hi)
      show (allocs (w.alloc o) l).heap[w.heap.size + (i + 1)]? = _
      have e : (w.alloc o).heap.size + i = w.heap.size + (i + 1) := by simp; omega
      rw [e] at this
      rw [this]
      simp

section
variable (F : Interp) (p : Option Addr) (L R C rn cn rf cb : Nat) (xs : List Nat) (RN CN : List Int) (w : World)
def Pre18 : Prop := F.answers w.tape ∧ CS w p L cb xs ∧ (IB w rn RN ∧ RN.length = R) ∧ (IB w cn CN ∧ CN.length = C) ∧ (∀ i, i < R → 0 ≤ RN.getD i 0 ∧ RN.getD i 0 ≤ 65536) ∧ (∀ j, j < C → 0 ≤ CN.getD j 0 ∧ CN.getD j 0 ≤ 65536) ∧ rn ≠ cn ∧ cb ≠ rn ∧ cb ≠ cn ∧ (cb < w.heap.size ∨ w.heap.size + 100 ≤ cb)
end

theorem ne_add {k s i : Nat} (h : k < s) : k ≠ s + i := by omega

set_option maxHeartbeats 2000000 in
theorem leaf13 (F : Interp) (p : Option Addr) (L R C rn cn rf cb : Nat) (xs : List Nat) (RN CN : List Int) (w : World) (hR : R ≤ 65536) (hC : C ≤ 65536) (hL : R * C = L) (hp : Pre18 F p L R C rn cn cb xs RN CN w) (l : List Obj) (T rm cm cu bf : Nat)
    (h0 : l[0]? = some (.cells (zerosOf R) 23)) (h1 : l[1]? = some (.cells (zerosOf C) 23)) (hl : l.length = 8)
    (h7 : l[7]? = some (.cells #[.pointer (some ⟨T, 0, none⟩), .slice (some ⟨rn, 0, none⟩) R R, .slice (some ⟨cn, 0, none⟩) C C, .slice (some ⟨rm, 0, none⟩) R R, .slice (some ⟨w.heap.size, 0, none⟩) R R, .slice (some ⟨cm, 0, none⟩) C C, .slice (some ⟨w.heap.size + 1, 0, none⟩) C C, .slice (some ⟨cu, 0, none⟩) C C, .slice (some ⟨bf, 0, none⟩) C C, .float .f64 rf, .float .f64 0] 66))
    (hT : ∃ i, 2 ≤ i ∧ i < 7 ∧ T = w.heap.size + i ∧ l[i]? = some (.cells #[.int .i64 (R : Int), .int .i64 (C : Int), .slice p L L, .slice none 0 0, .slice none 0 0, .string ⟨#[]⟩, .slice none 0 0] 39))
    (hrm : ∃ i, 2 ≤ i ∧ i < 7 ∧ rm = w.heap.size + i ∧ l[i]? = some (.cells (zerosOf R) 23)) (hcm : ∃ i, 2 ≤ i ∧ i < 7 ∧ cm = w.heap.size + i ∧ l[i]? = some (.cells (zerosOf C) 23)) (hcu : ∃ i, 2 ≤ i ∧ i < 7 ∧ cu = w.heap.size + i ∧ l[i]? = some (.cells (zerosOf C) 23)) (hbf : ∃ i, 2 ≤ i ∧ i < 7 ∧ bf = w.heap.size + i ∧ l[i]? = some (.cells (zerosOf C) 23))
    (hne : [T, rm, cm, cu, bf].Nodup) :
    Calls Tryf.prog 13 #[.pointer (some ⟨w.heap.size + 1 + 1 + 1 + 1 + 1 + 1 + 1, 0, none⟩)] (allocs w l).drew fun e w' => (∃ r pp, e = .returned (.tuple #[.float .f64 r, .pointer pp]) ∧ P18 w w' p L R C rf cb xs RN CN pp) := by
  obtain ⟨g1, g2, g3, g4, g5, g6, g7, g8, g9, g10⟩ := hp
  obtain ⟨iT, t1, t2, rfl, t3⟩ := hT
  obtain ⟨iM, m1, m2, rfl, m3⟩ := hrm
  obtain ⟨iC, c1, c2, rfl, c3⟩ := hcm
  obtain ⟨iU, u1, u2, rfl, u3⟩ := hcu
  obtain ⟨iB, b1, b2, rfl, b3⟩ := hbf
  have hb : Below w.heap.size w (allocs w l).drew := (allocs_below l w).drew
  have gg : ∀ i, i < 8 → (allocs w l).drew.heap[w.heap.size + i]? = l[i]? := fun i hi => got l w i (by omega)
  have r1 := g3.1.lt
  have r2 := g4.1.lt
  have hcs : CS (allocs w l).drew p L cb xs := by
    obtain ⟨x1, x2, x3⟩ := g2
    refine ⟨x1, x2, ?_⟩
    rcases x3 with x3 | ⟨x3, x4⟩
    · exact .inl x3
    · exact .inr ⟨x3, x4.below hb⟩
  have nd : Apart (w.heap.size + 7) (w.heap.size + iT) rn cn (w.heap.size + iM) w.heap.size (w.heap.size + iC) (w.heap.size + 1) (w.heap.size + iU) (w.heap.size + iB) cb := by
    unfold Apart
    simp only [List.nodup_cons, List.mem_cons, List.not_mem_nil, or_false, not_or, not_false_eq_true, List.nodup_nil, and_true] at hne ⊢
    obtain ⟨⟨a1, a2, a3, a4⟩, ⟨a5, a6, a7⟩, ⟨a8, a9⟩, a10⟩ := hne
    refine ⟨⟨?_, ?_, ?_, ?_, ?_, ?_, ?_, ?_, ?_, ?_⟩, ⟨?_, ?_, a1, ?_, a2, ?_, a3, a4, ?_⟩, ⟨g7, ?_, ?_, ?_, ?_, ?_, ?_, ?_⟩, ⟨?_, ?_, ?_, ?_, ?_, ?_, ?_⟩, ⟨?_, a5, ?_, a6, a7, ?_⟩, ⟨?_, ?_, ?_, ?_, ?_⟩, ⟨?_, a8, a9, ?_⟩, ⟨?_, ?_, ?_⟩, ⟨a10, ?_⟩, ?_⟩ <;> first | omega | (rcases g10 with h | h <;> omega)
  have hz : ∀ n, (zerosOf n) = ((List.replicate n 0).map (Value.float .f64)).toArray := fun n => rfl
  have hA : AB (allocs w l).drew (w.heap.size + 7) (w.heap.size + iT) rn cn (w.heap.size + iM) w.heap.size (w.heap.size + iC) (w.heap.size + 1) (w.heap.size + iU) (w.heap.size + iB) R C rf 0 := (gg 7 (by omega)).trans h7
  have key := rtc28 F (w.heap.size + 7) (w.heap.size + iT) rn cn (w.heap.size + iM) w.heap.size (w.heap.size + iC) (w.heap.size + 1) (w.heap.size + iU) (w.heap.size + iB) R C rf 0 cb L p xs (List.replicate R 0) (List.replicate R 0) (List.replicate C 0) (List.replicate C 0) (List.replicate C 0) (List.replicate C 0) RN CN (allocs w l).drew hR hC hL
    (show F.answers (allocs w l).drew.tape by rw [hb.tape]; exact g1)
    ⟨hA, (gg iT (by omega)).trans t3, hcs, ⟨(gg iM (by omega)).trans m3, by simp⟩, (gg 0 (by omega)).trans h0, by simp⟩
    ((gg iU (by omega)).trans u3) (by simp) ⟨(gg iC (by omega)).trans c3, by simp⟩ ⟨(gg 1 (by omega)).trans h1, by simp⟩ ((gg iB (by omega)).trans b3) (by simp) ⟨g3.1.below hb, g3.2⟩ ⟨g4.1.below hb, g4.2⟩ nd g5 g6
  refine (run13 (w.heap.size + 7) (allocs w l).drew (fun e w' => ∀ r pp, e = .returned (.tuple #[.float .f64 r, .pointer pp]) → P18 w w' p L R C rf cb xs RN CN pp) (key.mono ?_)).mono ?_
  · rintro e w' (⟨k1, k2, ⟨r, rfl⟩, zs, RD, CD, k3, k4, k5, k6, k7⟩ | ⟨k1, ⟨r, q, rfl⟩, k3, k4⟩)
    · refine ⟨⟨r, none, rfl⟩, fun r' pp hpp => ?_⟩
      obtain rfl : pp = none := by simp at hpp; exact hpp.2.symm
      refine ⟨.inl ⟨rfl, k1, k2, zs, RD, CD, k3, k4, k5, k6⟩, ?_⟩
      refine ⟨k7.1.trans hb.os, k7.2.1.trans hb.tape, k7.2.2.1.trans hb.output, Nat.le_trans hb.size k7.2.2.2.1, fun k hk hs => (k7.2.2.2.2 k (Nat.lt_of_lt_of_le hk hb.size) ?_).trans (hb.block k hk)⟩
      simp only [List.mem_cons, List.not_mem_nil, or_false, not_or]
      exact ⟨ne_add hk, ne_add hk, Nat.ne_of_lt hk, ne_add hk, ne_add hk, ne_add hk, ne_add hk, hs⟩
    · refine ⟨⟨r, some q, rfl⟩, fun r' pp hpp => ?_⟩
      obtain rfl : pp = some q := by simp at hpp; exact hpp.2.symm
      refine ⟨.inr ⟨⟨q, rfl⟩, k1, k3⟩, ?_⟩
      refine ⟨k4.1.trans hb.os, k4.2.1.trans hb.tape, k4.2.2.1.trans hb.output, Nat.le_trans hb.size k4.2.2.2.1, fun k hk hs => (k4.2.2.2.2 k (Nat.lt_of_lt_of_le hk hb.size) ?_).trans (hb.block k hk)⟩
      simp only [List.mem_cons, List.not_mem_nil, or_false, not_or]
      exact ⟨ne_add hk, ne_add hk, Nat.ne_of_lt hk, ne_add hk, ne_add hk, ne_add hk, ne_add hk⟩
  · rintro e w' ⟨⟨r, pp, rfl⟩, h⟩
    exact ⟨r, pp, rfl, h r pp rfl⟩

set_option maxRecDepth 100000 in
set_option maxHeartbeats 40000000 in
theorem run18 (F : Interp) (p : Option Addr) (L R C rn cn rf cb : Nat) (xs : List Nat) (RN CN : List Int) (w : World) (hR : R ≤ 65536) (hC : C ≤ 65536) (hL : R * C = L) (hp : Hid (Pre18 F p L R C rn cn cb xs RN CN w)) :
    Calls Tryf.prog 18 #[.slice p L L, .int .i64 (R : Int), .int .i64 (C : Int), .slice (some ⟨rn, 0, none⟩) R R, .slice (some ⟨cn, 0, none⟩) C C, .float .f64 rf] w fun e w' => ∃ pp, e = .returned (.tuple #[.pointer pp, .slice (some ⟨w.heap.size, 0, none⟩) R R, .slice (some ⟨w.heap.size + 1, 0, none⟩) C C]) ∧ P18 w w' p L R C rf cb xs RN CN pp := by
  have mk1 := fun W => make_run R (by omega) W
  have mk2 := fun W => make_run C (by omega) W
  obtain ⟨ZR, hZR⟩ : ∃ Z, zerosOf R = Z := ⟨_, rfl⟩
  obtain ⟨ZC, hZC⟩ : ∃ Z, zerosOf C = Z := ⟨_, rfl⟩
  rw [hZR] at mk1
  rw [hZC] at mk2
  have LF : Hid (∀ (l : List Obj) (T rm cm cu bf : Nat),
      l[0]? = some (.cells ZR 23) → l[1]? = some (.cells ZC 23) → l.length = 8 →
      l[7]? = some (.cells #[.pointer (some ⟨T, 0, none⟩), .slice (some ⟨rn, 0, none⟩) R R, .slice (some ⟨cn, 0, none⟩) C C, .slice (some ⟨rm, 0, none⟩) R R, .slice (some ⟨w.heap.size, 0, none⟩) R R, .slice (some ⟨cm, 0, none⟩) C C, .slice (some ⟨w.heap.size + 1, 0, none⟩) C C, .slice (some ⟨cu, 0, none⟩) C C, .slice (some ⟨bf, 0, none⟩) C C, .float .f64 rf, .float .f64 0] 66) →
      (∃ i, 2 ≤ i ∧ i < 7 ∧ T = w.heap.size + i ∧ l[i]? = some (.cells #[.int .i64 (R : Int), .int .i64 (C : Int), .slice p L L, .slice none 0 0, .slice none 0 0, .string ⟨#[]⟩, .slice none 0 0] 39)) →
      (∃ i, 2 ≤ i ∧ i < 7 ∧ rm = w.heap.size + i ∧ l[i]? = some (.cells ZR 23)) → (∃ i, 2 ≤ i ∧ i < 7 ∧ cm = w.heap.size + i ∧ l[i]? = some (.cells ZC 23)) → (∃ i, 2 ≤ i ∧ i < 7 ∧ cu = w.heap.size + i ∧ l[i]? = some (.cells ZC 23)) → (∃ i, 2 ≤ i ∧ i < 7 ∧ bf = w.heap.size + i ∧ l[i]? = some (.cells ZC 23)) →
      [T, rm, cm, cu, bf].Nodup →
      Calls Tryf.prog 13 #[.pointer (some ⟨w.heap.size + 1 + 1 + 1 + 1 + 1 + 1 + 1, 0, none⟩)] (allocs w l).drew fun e w' => (∃ r pp, e = .returned (.tuple #[.float .f64 r, .pointer pp]) ∧ P18 w w' p L R C rf cb xs RN CN pp)) := (by
    intro l T rm cm cu bf
    rw [← hZR, ← hZC]
    exact leaf13 F p L R C rn cn rf cb xs RN CN w hR hC hL hp.out l T rm cm cu bf)
  clear hZR hZC
  go_enter Tryf.func18, Tryf.ntmps18
  go_wp2
  go_region_with (go_at_call 12; refine (new12 _ _ _ _ _ _ _ _ _ _ _ ⟨_, _, _, rfl⟩ ⟨_, _, _, rfl⟩ ⟨_, _, _, rfl⟩ ⟨_, _, _, rfl⟩ ⟨_, _, _, rfl⟩ ⟨_, _, _, rfl⟩ ⟨_, _, _, rfl⟩ ⟨_, _, _, rfl⟩).mono ?_; rintro e w9 ⟨rfl, rfl⟩)
  all_goals (
    go_wp2_with (go_at_call 13; refine (LF.out [_, _, _, _, _, _, _, _] _ _ _ _ _ rfl rfl rfl rfl (by first | exact ⟨2, by omega, by omega, rfl, rfl⟩ | exact ⟨3, by omega, by omega, rfl, rfl⟩ | exact ⟨4, by omega, by omega, rfl, rfl⟩ | exact ⟨5, by omega, by omega, rfl, rfl⟩ | exact ⟨6, by omega, by omega, rfl, rfl⟩) (by first | exact ⟨2, by omega, by omega, rfl, rfl⟩ | exact ⟨3, by omega, by omega, rfl, rfl⟩ | exact ⟨4, by omega, by omega, rfl, rfl⟩ | exact ⟨5, by omega, by omega, rfl, rfl⟩ | exact ⟨6, by omega, by omega, rfl, rfl⟩) (by first | exact ⟨2, by omega, by omega, rfl, rfl⟩ | exact ⟨3, by omega, by omega, rfl, rfl⟩ | exact ⟨4, by omega, by omega, rfl, rfl⟩ | exact ⟨5, by omega, by omega, rfl, rfl⟩ | exact ⟨6, by omega, by omega, rfl, rfl⟩) (by first | exact ⟨2, by omega, by omega, rfl, rfl⟩ | exact ⟨3, by omega, by omega, rfl, rfl⟩ | exact ⟨4, by omega, by omega, rfl, rfl⟩ | exact ⟨5, by omega, by omega, rfl, rfl⟩ | exact ⟨6, by omega, by omega, rfl, rfl⟩) (by first | exact ⟨2, by omega, by omega, rfl, rfl⟩ | exact ⟨3, by omega, by omega, rfl, rfl⟩ | exact ⟨4, by omega, by omega, rfl, rfl⟩ | exact ⟨5, by omega, by omega, rfl, rfl⟩ | exact ⟨6, by omega, by omega, rfl, rfl⟩) (by simp <;> omega)).mono ?_; rintro e w10 ⟨r, pp, rfl, hQ⟩)
    go_ret3
    exact ⟨pp, rfl, hQ⟩)
end Go.Proofs.Qxb6605746aFmt.E3
