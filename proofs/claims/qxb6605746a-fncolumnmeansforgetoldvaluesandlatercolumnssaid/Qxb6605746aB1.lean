import Derived.Test.Qxb6605746aA9
set_option linter.unusedVariables false
set_option linter.unusedSimpArgs false
namespace Go.Proofs.Qxb6605746a.B1
open Go.RowKit Go.Proofs.Qxb6605746a.A1 Go.Proofs.Qxb6605746a.A2 Go.Proofs.Qxb6605746a.A3 Go.Proofs.Qxb6605746a.A4 Go.Proofs.Qxb6605746a.A5 Go.Proofs.Qxb6605746a.A6 Go.Proofs.Qxb6605746a.A7 Go.Proofs.Qxb6605746a.A8 Go.Proofs.Qxb6605746a.A9

theorem bel_trans {w wx wy : World} (h : Below w.heap.size w wx) (k : Below wx.heap.size wx wy) : Below w.heap.size w wy := h.trans (k.mono h.size)

/-- What the tests ahead leave. -/
def Passes (n0 n1 n2 : Nat) (n cols : Int) : Prop := n0 + n1 + n2 ≤ 131072 ∧ n ≤ 65536 ∧ n0 ≤ n1 ∧ (0 < n → (n0 : Int) ≤ cols ∧ n * cols ≤ n2)

theorem good_pos {n0 n1 n2 : Nat} {n cols : Int} (h6 : 8 * ((n0 : Int) + n1 + n2) ≤ 1048576) (h5 : n ≤ 65536) (h4 : ¬ n1 < n0) (h2 : (n0 : Int) ≤ cols) (h1 : 0 < cols) (h : n ≤ wrap64 ((n2 : Int) / cols)) : Passes n0 n1 n2 n cols := by
  refine ⟨by omega, h5, by omega, fun _ => ⟨h2, ?_⟩⟩
  have a1 : 0 ≤ (n2 : Int) / cols := Int.ediv_nonneg (by omega) (by omega)
  have a2 : (n2 : Int) / cols ≤ n2 := Int.ediv_le_self _ (by omega)
  have a3 : wrap64 ((n2 : Int) / cols) = (n2 : Int) / cols := by unfold wrap64; omega
  rw [a3] at h
  exact Int.mul_le_of_le_ediv h1 h

theorem good_zero {n0 n1 n2 : Nat} {n cols : Int} (h6 : 8 * ((n0 : Int) + n1 + n2) ≤ 1048576) (h5 : n ≤ 65536) (h4 : ¬ n1 < n0) (h2 : (n0 : Int) ≤ cols) (h1 : cols ≤ 0) : Passes n0 n1 n2 n cols := by
  have : cols = 0 := by omega
  subst this
  exact ⟨by omega, h5, by omega, fun _ => ⟨h2, by omega⟩⟩
theorem good_neg {n0 n1 n2 : Nat} {n cols : Int} (h6 : 8 * ((n0 : Int) + n1 + n2) ≤ 1048576) (h5 : n ≤ 65536) (h4 : ¬ n1 < n0) (h2 : n ≤ 0) : Passes n0 n1 n2 n cols :=
  ⟨by omega, h5, by omega, fun _ => by omega⟩

theorem take_one {vs : List Value} {n : Nat} (h : ∀ v ∈ vs, v.oneCell' = true) : ∀ v ∈ vs.take n, v.oneCell' = true := fun v hv => h v (List.mem_of_mem_take hv)

/-- A row of the table, where there is no mean to take. -/
theorem any_row (T k N n2 : Nat) (p : Option Addr) (us : List Value) (n cols : Int) (n0 n1 B : Nat) (w : World) (hT : TB w T n cols p n2 n2) (ho : Own w B 22 p us) (hul : us.length = n2) (hg : Passes n0 n1 n2 n cols) (hN : N = n.toNat) (hk : k < N) (hp : Head p) :
    Calls Try.prog 16 #[.pointer (some ⟨T, 0, none⟩), .int .i64 (k : Int)] w fun e w' => AnySl e ∧ Dr w w' := by
  obtain ⟨g1, g2, g3, g4⟩ := hg
  obtain ⟨g5, g6⟩ := g4 (by omega)
  obtain ⟨cl, rfl⟩ : ∃ cl : Nat, cols = (cl : Int) := ⟨cols.toNat, by omega⟩
  obtain ⟨m, rfl⟩ : ∃ m : Nat, n = (m : Int) := ⟨n.toNat, by omega⟩
  have hm : m * cl ≤ n2 := by rw [← Int.natCast_mul] at g6; omega
  have a1 : (k + 1) * cl ≤ m * cl := Nat.mul_le_mul_right _ (by omega)
  have a2 : k * cl ≤ (k + 1) * cl := Nat.mul_le_mul_right _ (by omega)
  have hpp : p = none ∧ n2 = 0 ∨ ∃ b, p = some ⟨b, 0, none⟩ := by
    by_cases h0 : n2 = 0
    · rcases hp with h | h
      · exact .inl ⟨h, h0⟩
      · exact .inr h
    · obtain ⟨b, _, h, _⟩ := ho (by omega)
      exact .inr ⟨b, h⟩
  rcases hpp with ⟨rfl, rfl⟩ | ⟨b, rfl⟩
  · refine (row16_nil T k cl 0 0 w hT.cols hT.cells ?_ ?_ (by omega)).mono ?_
    · exact (by omega : k * cl = 0)
    · exact (by omega : (k + 1) * cl = 0)
    · rintro e w' ⟨rfl, h⟩
      exact ⟨⟨_, _, _, rfl, by omega, by omega⟩, h⟩
  · exact row16_any T b k cl n2 n2 _ _ w hT.cols hT.cells rfl rfl (by omega) a2 (by omega) (by omega)

theorem Own.alloc {w : World} {B : Nat} {e : TypeId} {p : Option Addr} {vs : List Value} (h : Own w B e p vs) (o : Obj) : Own (w.alloc o) B e p vs := by
  intro hl
  obtain ⟨b, h1, h2, h3⟩ := h hl
  exact ⟨b, h1, h2, (heap_alloc_old _ _ (lt_of_block h3)).trans h3⟩
theorem drew_own {w : World} {B : Nat} {e : TypeId} {p : Option Addr} {vs : List Value} (h : Own w B e p vs) (n : Nat) : Own (w.drewN n) B e p vs := h
theorem drew_tb {w : World} {T : Nat} {n cols : Int} {p : Option Addr} {L C : Nat} (h : TB w T n cols p L C) (k : Nat) : TB (w.drewN k) T n cols p L C := h
theorem bel_alloc {w wx : World} {o : Obj} (h : Below w.heap.size w wx) : Below w.heap.size w (wx.alloc o) := h.alloc h.size o

theorem zz_zero (p0 p1 p2 : Option Addr) (n1 n2 B : Nat) (n cols : Int) (wD : World) (us : List Value) (ho : Own wD B 22 p2 us) (hul : us.length = n2) (hg : Passes 0 n1 n2 n cols) (hp : Head p2) :
    Calls Try.prog 11 #[.slice p0 0 0, .slice p1 n1 n1, .int .i64 n, .pointer (some ⟨wD.heap.size, 0, none⟩)] (wD.alloc (.cells #[.int .i64 n, .int .i64 cols, .slice p2 n2 n2, .slice none 0 0, .slice none 0 0, .string ⟨#[]⟩, .slice none 0 0] 35)) fun e w' => e = .returned (.tuple #[]) ∧ Below wD.heap.size wD w' := by
  have hT : TB (wD.alloc (.cells #[.int .i64 n, .int .i64 cols, .slice p2 n2 n2, .slice none 0 0, .slice none 0 0, .string ⟨#[]⟩, .slice none 0 0] 35)) wD.heap.size n cols p2 n2 n2 := heap_alloc_new _ _
  have ho' := Own.alloc ho (.cells #[.int .i64 n, .int .i64 cols, .slice p2 n2 n2, .slice none 0 0, .slice none 0 0, .string ⟨#[]⟩, .slice none 0 0] 35)
  have hb : Below wD.heap.size wD (wD.alloc (.cells #[.int .i64 n, .int .i64 cols, .slice p2 n2 n2, .slice none 0 0, .slice none 0 0, .string ⟨#[]⟩, .slice none 0 0] 35)) := bel_alloc (Below.refl _ _)
  generalize wD.alloc (.cells #[.int .i64 n, .int .i64 cols, .slice p2 n2 n2, .slice none 0 0, .slice none 0 0, .string ⟨#[]⟩, .slice none 0 0] 35) = wE at *
  refine zz11_raw p0 p1 0 n1 n1 wD.heap.size n wE (fun w' => Below wD.heap.size wD w') ?_
  refine (colmeans_nil p0 p1 wD.heap.size n1 n1 n.toNat n wE rfl (by have := hg.2.1; omega) ?_).mono ?_
  · intro k hk nn
    refine (any_row wD.heap.size k n.toNat n2 p2 us n cols 0 n1 B (wE.drewN nn) (drew_tb hT nn) (drew_own ho' nn) hul hg rfl hk hp).mono ?_
    rintro e w' ⟨h1, n', rfl⟩
    exact ⟨h1, nn + n', by rw [World.drewN_drewN]⟩
  · rintro e w' ⟨h1, n', rfl⟩
    exact ⟨h1, belN hb _⟩

set_option maxHeartbeats 1000000 in
theorem walk_zero (a0 a1 a2 : Option Addr) (c0 n1 c1 n2 c2 : Nat) (n cols : Int) (w : World) (vs0 vs1 vs2 : List Value) (h1 : n1 < 9223372036854775808) (h2 : n2 < 9223372036854775808)
    (r0 : Hid (IsRow w a0 0 c0 vs0)) (r1 : Hid (IsRow w a1 n1 c1 vs1)) (r2 : Hid (IsRow w a2 n2 c2 vs2)) (o0 : Hid (∀ v ∈ vs0, v.oneCell' = true)) (o1 : Hid (∀ v ∈ vs1, v.oneCell' = true)) (o2 : Hid (∀ v ∈ vs2, v.oneCell' = true)) :
    Calls Try.prog 4 #[.slice a0 0 c0, .slice a1 n1 c1, .int .i64 n, .slice a2 n2 c2, .int .i64 cols] w fun e w' => e = .returned (.bool true) ∧ Below w.heap.size w w' := by
  obtain ⟨i0, hi, hz0, hz1, hz2⟩ := info_parts info22
  have hln : vs2.length = n2 ∨ n2 ≤ vs2.length := by
    rcases r2.out with ⟨_, h, _, h'⟩ | ⟨_, _, h, _, h', _⟩
    · subst h; subst h'; exact .inl rfl
    · exact .inr (by omega)
  have HUL : Hid ((vs2.take n2).length = n2) := (by simp; omega : (vs2.take n2).length = n2)
  clear hln
  go_enter Try.func4, Try.ntmps4
  go_wp2_with (go_at_call 8; refine (bytes8 _ _ _ _ _ _ _ _ _ _ _ (by omega) h1 h2 _).mono ?_; rintro e w1 ⟨b, rfl, hw⟩; obtain rfl : w = w1 := hw.symm; clear hw)
  all_goals try (go_ret; exact ⟨rfl, Below.refl _ _⟩)
  all_goals (
    have HG : Hid (Passes 0 n1 n2 n cols) := (by first
      | exact good_pos (by omega) (by omega) (by omega) (by omega) (by assumption) (And.right (by assumption))
      | exact good_zero (by omega) (by omega) (by omega) (by omega) (by omega)
      | exact good_neg (by omega) (by omega) (by omega) (by omega) : Passes 0 n1 n2 n cols)
    refine (clone9 a0 0 c0 vs0 _ _ r0.out (by omega) rfl (take_one o0.out)).mono ?_
    rintro e wA ⟨p0, rfl, hown0, hh0, hbA⟩
    have R1 : Hid (IsRow wA a1 n1 c1 vs1) := r1.out.below hbA
    have HBA : Hid (Below w.heap.size w wA) := hbA
    clear hbA hown0 hh0
    go_wp2_with (first
      | (go_at_call 10; refine (clone10 a1 n1 c1 vs1 _ _ R1.out (by omega) rfl (take_one o1.out)).mono ?_; rintro e wB ⟨p1, rfl, hown1, hh1, hbB⟩; have HBB : Hid (Below w.heap.size w wB) := bel_trans HBA.out hbB; have R2 : Hid (IsRow wB a2 n2 c2 vs2) := r2.out.below HBB.out; clear hown1 hh1 hbB)
      | (go_at_call 9; refine (clone9 a2 n2 c2 vs2 _ _ R2.out (by omega) rfl (take_one o2.out)).mono ?_; rintro e wC ⟨p2, rfl, hown2, hh2, hbC⟩; have HBC : Hid (Below w.heap.size w wC) := bel_trans HBB.out hbC; clear hbC; have HO2 : Hid (Own wC wB.heap.size 22 p2 (vs2.take n2)) := hown2; have HH2 : Hid (Head p2) := hh2; clear hown2 hh2)
      | (at_make; refine wpList_make_full _ rfl _ _ 26 rfl wC.heap.size 22 i0 (.float .f64 0) 1 Try.underlying26 hi hz0 hz1 .i64 .i64 _ _ 0 rfl rfl rfl rfl (by rw [hz2]; omega) (by unfold maxLen; omega) (Nat.le_refl _) ?_; intro wD hownD hgrowD; have hbD : Below wC.heap.size wC wD := (Below.refl _ _).grown hgrowD (Nat.le_refl _) (by simp); clear hownD hgrowD))
    have HBD : Hid (Below w.heap.size w wD) := bel_trans HBC.out hbD
    have HOD : Hid (Own wD wB.heap.size 22 p2 (vs2.take n2)) := HO2.out.below hbD
    clear hbD HO2
    go_loopw [12] (fun i wr => i = .int .i64 0 ∧ wr = wD) (fun _ _ => 0)
    case atStart => exact ⟨rfl, rfl⟩
    case round =>
      obtain ⟨rfl, hwr⟩ := hrel
      obtain rfl : wD = wr := hwr.symm
      clear hwr
      go_wp2_with (first
        | (go_at_call 11; refine (zz_zero p0 p1 p2 n1 n2 wB.heap.size n cols wD _ HOD.out HUL.out HG.out HH2.out).mono ?_; rintro e wE ⟨rfl, hbE⟩)
        | (go_at_call 12; refine (same_nil _ _ _).mono ?_; rintro e wF ⟨rfl, hbF⟩))
      go_ret
      exact ⟨rfl, bel_trans (bel_trans HBD.out hbE) hbF⟩)
end Go.Proofs.Qxb6605746a.B1
