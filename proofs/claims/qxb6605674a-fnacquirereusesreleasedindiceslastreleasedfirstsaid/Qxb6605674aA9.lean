import Derived.Test.Qxb6605674aA8
set_option linter.unusedVariables false
set_option linter.unusedSimpArgs false
namespace Go.Proofs.Qxb6605674a.A9
open Go.RowKit Go.Proofs.Qxb6605674a.A4 Go.Proofs.Qxb6605674a.A3 Go.Proofs.Qxb6605674a.A5 Go.Proofs.Qxb6605674a.A6 Go.Proofs.Qxb6605674a.A7 Go.Proofs.Qxb6605674a.A8

theorem lim21 (r p b : Int) (w : World) : Calls Try.prog 21 #[.int .i64 r, .int .i64 p, .int .i64 b] w fun e w' => e = .returned (aLim (r, p, b)) ∧ Below w.heap.size w w' := by
  go_enter Try.func21, Try.ntmps21
  go_wp2
  exact bodyPost_ret (v := aLim (r, p, b)) (by simp [results, Try.results21, go_sem, aLim]) rfl ⟨rfl, (Below.refl _ _).alloc (Nat.le_refl _) _⟩

theorem TInv.below {w w1 : World} {T base : Nat} {L : List ((Int × Int × Int) × Int)} {f : Int × Int × Int → Option Nat} {F : List Nat} {N : Nat} (h : TInv w T base L f F N) (hb : Below w.heap.size w w1) : TInv w1 T base L f F N := by
  obtain ⟨vL, vM, vF, hT, hbT, hoL, hoF, hM⟩ := h
  refine ⟨vL, vM, vF, (hb.block T (lt_of_block hT)).trans hT, hbT, row_kept hoL (fun k cur _ hk => hb.block k (lt_of_block hk)), row_kept hoF (fun k cur _ hk => hb.block k (lt_of_block hk)), ?_⟩
  rcases hM with h | ⟨M, h1, h2, h3⟩
  · exact .inl h
  · obtain ⟨es, clk, hMb⟩ := idx_block h3
    exact .inr ⟨M, h1, h2, idx_kept h3 (hb.block M (lt_of_block hMb))⟩

theorem acq25 (T : Nat) (x : Int × Int × Int) (l : Nat) (R : World → Prop) (w : World)
    (h : ∀ w1, Below w.heap.size w w1 → Calls Try.prog 43 #[.pointer (some ⟨T, 0, none⟩), aLim x] w1 fun e w' => e = .returned (.tuple #[.int .u32 l, .bool true]) ∧ R w') :
    Calls Try.prog 25 #[.pointer (some ⟨T, 0, none⟩), aLim x] w fun e w' => e = .returned (.tuple #[.int .u32 l, .bool true]) ∧ R w' := by
  have H : Hid _ := h
  clear h
  obtain ⟨x0, x1, x2⟩ := x
  unfold aLim at *
  go_enter Try.func25, Try.ntmps25
  go_wp2_with (go_at_call 43; refine (H.out _ ?_).mono ?_; exact (Below.refl _ _).alloc (Nat.le_refl _) _; rintro e w' ⟨rfl, hr⟩)
  go_ret2
  exact ⟨rfl, hr⟩

set_option maxHeartbeats 400000 in
theorem len27 (T base : Nat) (L : List ((Int × Int × Int) × Int)) (f : Int × Int × Int → Option Nat) (F : List Nat) (N : Nat) (w : World) (h : TInv w T base L f F N) :
    Calls Try.prog 27 #[.pointer (some ⟨T, 0, none⟩)] w fun e w' => e = .returned (.int .i64 L.length) ∧ w' = w := by
  obtain ⟨vL, vM, vF, hT, hbT, hoL, hoF, hM⟩ := h
  obtain ⟨aL, cL, rfl⟩ := row_form hoL
  have hT4 := cell_of_row w T 4 _ _ _ hT
  simp at hT4
  clear hM
  go_enter Try.func27, Try.ntmps27
  go_wp2
  go_ret
  exact ⟨rfl, rfl⟩
theorem len28 (T base : Nat) (L : List ((Int × Int × Int) × Int)) (f : Int × Int × Int → Option Nat) (F : List Nat) (N : Nat) (w : World) (h : TInv w T base L f F N) :
    Calls Try.prog 28 #[.pointer (some ⟨T, 0, none⟩)] w fun e w' => e = .returned (.int .i64 F.length) ∧ w' = w := by
  obtain ⟨vL, vM, vF, hT, hbT, hoL, hoF, hM⟩ := h
  obtain ⟨aL, cL, rfl⟩ := row_form hoF
  have hT4 := cell_of_row w T 6 _ _ _ hT
  simp at hT4
  clear hM
  go_enter Try.func28, Try.ntmps28
  go_wp2
  go_ret
  exact ⟨rfl, rfl⟩
set_option maxHeartbeats 400000 in
theorem at32 (T base : Nat) (L : List ((Int × Int × Int) × Int)) (f : Int × Int × Int → Option Nat) (F : List Nat) (N j l : Nat) (w : World) (h : TInv w T base L f F N) (hj : F[j]? = some l) (hF : F.length ≤ 1048576) :
    Calls Try.prog 32 #[.pointer (some ⟨T, 0, none⟩), .int .i64 j] w fun e w' => e = .returned (.int .u32 l) ∧ ∃ n, w' = w.drewN n := by
  obtain ⟨vL, vM, vF, hT, hbT, hoL, hoF, hM⟩ := h
  have hlt : j < F.length := (List.getElem?_eq_some_iff.1 hj).1
  obtain ⟨gF, cF, curF, rfl, hbF, hgF, hncF, hmF, hcsF, htF⟩ : ∃ g cap cur, vF = .slice (some ⟨g, 0, none⟩) F.length cap ∧ base ≤ g ∧ w.heap[g]? = some (.cells cur 29 (0, 0)) ∧ F.length ≤ cap ∧ cap ≤ maxLen ∧ cur.size = cap * 1 ∧ cur.toList.take (F.length * 1) = F.map (fun (l : Nat) => Value.int .u32 (l : Int)) := by
    rcases hoF.2 with ⟨_, h0⟩ | h
    · omega
    · exact h
  have hT4 := cell_of_row w T 6 _ _ _ hT
  simp at hT4
  have hc : w.cell? ⟨gF, j, none⟩ = some (.int .u32 l) := by
    rw [cell_of_row w gF j _ _ _ hgF]
    have : curF.toList[j]? = (F.map (fun (l : Nat) => Value.int .u32 (l : Int)))[j]? := by
      rw [← htF, List.getElem?_take, if_pos (by omega)]
    simpa [hj] using this
  clear hM hj htF hgF
  go_enter Try.func32, Try.ntmps32
  go_wp2
  go_ret
  exact ⟨rfl, 0, rfl⟩
set_option maxHeartbeats 400000 in
theorem at29 (T base : Nat) (L : List ((Int × Int × Int) × Int)) (f : Int × Int × Int → Option Nat) (F : List Nat) (N j : Nat) (x0 x1 x2 c : Int) (w : World) (h : TInv w T base L f F N) (hj : L[j]? = some ((x0, x1, x2), c)) (hL : L.length ≤ 1048576) :
    Calls Try.prog 29 #[.pointer (some ⟨T, 0, none⟩), .int .i64 j] w fun e w' => e = .returned (.tuple #[.int .i64 x0, .int .i64 x1, .int .i64 x2, .int .i64 c]) ∧ Below w.heap.size w w' := by
  obtain ⟨vL, vM, vF, hT, hbT, hoL, hoF, hM⟩ := h
  have hlt : j < L.length := (List.getElem?_eq_some_iff.1 hj).1
  obtain ⟨gL, capL, curL, rfl, hbL, hgL, hncL, hmL, hcsL, htL⟩ : ∃ g cap cur, vL = .slice (some ⟨g, 0, none⟩) L.length cap ∧ base ≤ g ∧ w.heap[g]? = some (.cells cur 90 (0, 0)) ∧ L.length ≤ cap ∧ cap ≤ maxLen ∧ cur.size = cap * 4 ∧ cur.toList.take (L.length * 4) = flat4 L := by
    rcases hoL.2 with ⟨_, h0⟩ | h
    · omega
    · exact h
  have hT4 := cell_of_row w T 4 _ _ _ hT
  simp at hT4
  have hfl := flat4_at L j _ hj
  have hcu : ∀ i, i < L.length * 4 → curL[i]? = (flat4 L)[i]? := fun i hi => by rw [← htL, List.getElem?_take, if_pos hi]; simp
  have z0 := cell_of_row w gL (j * 4) _ _ _ hgL
  have z1 := cell_of_row w gL (j * 4 + 1) _ _ _ hgL
  have z2 := cell_of_row w gL (j * 4 + 2) _ _ _ hgL
  have z3 := cell_of_row w gL (j * 4 + 3) _ _ _ hgL
  rw [hcu _ (by omega)] at z0 z1 z2 z3
  rw [hfl.1] at z0
  rw [hfl.2.1] at z1
  rw [hfl.2.2.1] at z2
  rw [hfl.2.2.2] at z3
  simp only at z0 z1 z2 z3
  have hgl := lt_of_block hgL
  clear hM hj htL hgL hfl hcu
  go_enter Try.func29, Try.ntmps29
  go_wp2
  go_quiet (fail)
  go_wp2
  exact bodyPost_ret (v := .tuple #[.int .i64 x0, .int .i64 x1, .int .i64 x2, .int .i64 c]) (by simp [results, Try.results29, go_sem]) rfl ⟨rfl, by exact belN ((Below.refl _ _).alloc (Nat.le_refl _) _) _⟩
end Go.Proofs.Qxb6605674a.A9
