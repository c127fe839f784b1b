import Derived.Test.Qxb6605674aA7
set_option linter.unusedVariables false
set_option linter.unusedSimpArgs false
namespace Go.Proofs.Qxb6605674a.A8
open Go.RowKit Go.Proofs.Qxb6605674a.A4 Go.Proofs.Qxb6605674a.A3 Go.Proofs.Qxb6605674a.A5 Go.Proofs.Qxb6605674a.A6 Go.Proofs.Qxb6605674a.A7

theorem mid_free {w W : World} {T base : Nat} {x : Int × Int × Int} {L : List ((Int × Int × Int) × Int)} {f : Int × Int × Int → Option Nat} {F0 : List Nat} {l N M gL capL gF cF : Nat}
    (hT : w.heap[T]? = some (.cells #[.slice none 0 0, .slice none 0 0, .int .i64 0, .int .i64 0, .slice (some ⟨gL, 0, none⟩) L.length capL, .map (some M), .slice (some ⟨gF, 0, none⟩) (F0.length + 1) cF] 84 (0, 0))) (hbT : base ≤ T) (hbM : base ≤ M) (hidx0 : IdxMap w M N f)
    (hoL : w.ownsRow base 90 4 (.slice (some ⟨gL, 0, none⟩) L.length capL) L.length (flat4 L)) (hoF : w.ownsRow base 29 1 (.slice (some ⟨gF, 0, none⟩) (F0.length + 1) cF) (F0.length + 1) ((F0 ++ [l]).map (fun (l : Nat) => Value.int .u32 (l : Int))))
    (hb : Below w.heap.size w W) (hbox : W.heap[w.heap.size]? = some (.cells #[.int .i64 x.1, .int .i64 x.2.1, .int .i64 x.2.2] 49 (0, 0))) :
    Mid w (W.setCell ⟨T, 6, none⟩ (.slice (some ⟨gF, 0, none⟩) F0.length cF)) T base x L f F0 N M gL capL (.slice (some ⟨gF, 0, none⟩) F0.length cF) := by
  have hTlt := lt_of_block hT
  have hT1 : W.heap[T]? = _ := (hb.block T hTlt).trans hT
  have hoth : ∀ k, k < w.heap.size → k ≠ T → (W.setCell ⟨T, 6, none⟩ (.slice (some ⟨gF, 0, none⟩) F0.length cF)).heap[k]? = w.heap[k]? := fun k hk hne => by
    rw [Below.heap_setCell _ _ _ _ hne, hb.block k hk]
  obtain ⟨es, clk, hMb⟩ := idx_block hidx0
  refine ⟨?_, hbT, hbM, ?_, ?_, idx_kept hidx0 (hoth M (lt_of_block hMb) (fun e => by subst e; rw [hT] at hMb; simp at hMb)), ?_, ?_⟩
  · rw [heap_setCell_same W T 6 _ 84 _ hT1]
    simp
  · rw [Below.heap_setCell _ _ _ _ (by show w.heap.size ≠ T; omega)]; exact hbox
  · exact row_kept hoL (fun k cur' hk hkk => hoth k (lt_of_block hkk) (fun e => by subst e; rw [hT] at hkk; simp at hkk))
  · have hF := row_kept (w' := W.setCell ⟨T, 6, none⟩ (.slice (some ⟨gF, 0, none⟩) F0.length cF)) hoF (fun k cur' hk hkk => hoth k (lt_of_block hkk) (fun e => by subst e; rw [hT] at hkk; simp at hkk))
    rcases hF.2 with ⟨h1, _⟩ | ⟨g', cap', cur, h1, hbg, hg, hr⟩
    · simp at h1
    · simp at h1
      obtain ⟨rfl, rfl⟩ := h1
      refine ⟨by simp, .inr ⟨gF, cF, cur, rfl, hbg, hg, by omega, hr.2.1, hr.2.2.1, ?_⟩⟩
      have h2 := hr.2.2.2
      have h3 : cur.toList.take (F0.length * 1) = (cur.toList.take ((F0.length + 1) * 1)).take F0.length := by rw [List.take_take]; congr 1; omega
      rw [h3, h2]
      simp [List.take_append_of_le_length]
  · exact ((Fr.refl base w).below hb (by omega)).setCell (p := ⟨T, 6, none⟩) hT1 (.inl rfl) hbT _

theorem Mid.drew {w W : World} {T base : Nat} {x : Int × Int × Int} {L : List ((Int × Int × Int) × Int)} {f : Int × Int × Int → Option Nat} {F : List Nat} {N M g cap : Nat} {vF : Value} (h : Mid w W T base x L f F N M g cap vF) : Mid w W.drew T base x L f F N M g cap vF :=
  ⟨h.hT, h.bT, h.bM, h.box, h.row, h.idx, h.free, h.fr.drew⟩

set_option maxRecDepth 100000 in
set_option maxHeartbeats 800000 in
theorem acq_free (T base : Nat) (L : List ((Int × Int × Int) × Int)) (f : Int × Int × Int → Option Nat) (F0 : List Nat) (l N M : Nat) (vL vF : Value) (x : Int × Int × Int) (w : World)
    (hT : w.heap[T]? = some (.cells #[.slice none 0 0, .slice none 0 0, .int .i64 0, .int .i64 0, vL, .map (some M), vF] 84 (0, 0))) (hbT : base ≤ T) (hbM : base ≤ M) (hidx0 : IdxMap w M N f) (hfx : f x = none) (hN : N ≤ 1048576)
    (hoL : w.ownsRow base 90 4 vL L.length (flat4 L)) (hoF : w.ownsRow base 29 1 vF (F0.length + 1) ((F0 ++ [l]).map (fun (l : Nat) => Value.int .u32 (l : Int)))) (hx : wf3 x) (hL : L.length ≤ 1048576) (hF : F0.length ≤ 1048576) (hl : l < L.length) :
    Calls Try.prog 43 #[.pointer (some ⟨T, 0, none⟩), aLim x] w fun e w' => e = .returned (.tuple #[.int .u32 l, .bool true]) ∧ TInv w' T base (L.set l (x, 1)) (fun y => if y = x then some l else f y) F0 (N + 1) ∧ Fr base w w' := by
  obtain ⟨gL, capL, curL, rfl, hbL, hgL, hncL, hmL, hcsL, htL⟩ : ∃ g cap cur, vL = .slice (some ⟨g, 0, none⟩) L.length cap ∧ base ≤ g ∧ w.heap[g]? = some (.cells cur 90 (0, 0)) ∧ L.length ≤ cap ∧ cap ≤ maxLen ∧ cur.size = cap * 4 ∧ cur.toList.take (L.length * 4) = flat4 L := by
    rcases hoL.2 with ⟨_, h0⟩ | h
    · omega
    · exact h
  obtain ⟨gF, cF, curF, rfl, hbF, hgF, hncF, hmF, hcsF, htF⟩ : ∃ g cap cur, vF = .slice (some ⟨g, 0, none⟩) (F0.length + 1) cap ∧ base ≤ g ∧ w.heap[g]? = some (.cells cur 29 (0, 0)) ∧ F0.length + 1 ≤ cap ∧ cap ≤ maxLen ∧ cur.size = cap * 1 ∧ cur.toList.take ((F0.length + 1) * 1) = (F0 ++ [l]).map (fun (l : Nat) => Value.int .u32 (l : Int)) := by
    rcases hoF.2 with ⟨_, h0⟩ | h
    · omega
    · exact h
  obtain ⟨x0, x1, x2⟩ := x
  have hTlt := lt_of_block hT
  have hFlt := lt_of_block hgF
  obtain ⟨es, clk, hMb⟩ := idx_block hidx0
  have hMlt := lt_of_block hMb
  obtain ⟨dd, hlook⟩ : ∃ dd, ∀ n, (Instr.lookup 82 (.map (some M)) (.agg #[.int .i64 x0, .int .i64 x1, .int .i64 x2]) true).run Try.prog ((w.alloc (.cells #[.int .i64 x0, .int .i64 x1, .int .i64 x2] 49)).drewN n) = .ok (.tuple #[.int .u32 dd, .bool false]) ((w.alloc (.cells #[.int .i64 x0, .int .i64 x1, .int .i64 x2] 49)).drewN n) :=
    idx_none_all hidx0 hx hfx hMlt
  have hT4 := cell_of_row w T 4 _ _ _ hT
  have hT5 := cell_of_row w T 5 _ _ _ hT
  have hT6 := cell_of_row w T 6 _ _ _ hT
  have fT6 := frozen_of_row w T 6 _ _ hT
  simp at hT4 hT5 hT6
  have hlast : w.cell? ⟨gF, F0.length, none⟩ = some (.int .u32 l) := by
    rw [cell_of_row w gF F0.length _ _ _ hgF]
    have : curF.toList[F0.length]? = ((F0 ++ [l]).map (fun (l : Nat) => Value.int .u32 (l : Int)))[F0.length]? := by
      rw [← htF, List.getElem?_take, if_pos (by omega)]
    simpa using this
  have hmn := fun wx r => run_eql_map_nil (P := Try.prog) wx 82 49 29 r Try.underlying82
  have HI : Hid _ := hidx0
  clear hMb hidx0
  have hncI : (F0.length : Int) + 1 ≤ (cF : Int) := by omega
  unfold aLim
  go_enter Try.func43, Try.ntmps43
  go_wp2
  go_quiet (fail)
  go_wp2
  go_quiet (fail)
  go_wp2
  refine wp_gen (fun W => Below w.heap.size w W ∧ W.heap[w.heap.size]? = some (.cells #[.int .i64 x0, .int .i64 x1, .int .i64 x2] 49 (0, 0))) ⟨by exact belN (belN ((Below.refl _ _).alloc (Nat.le_refl _) _) _) _, by exact heap_alloc_new w _⟩ ?_
  intro W hW
  obtain ⟨hbW, hbx⟩ := hW
  have u4 : W.cell? ⟨T, 4, none⟩ = _ := (hbW.cell hTlt).trans hT4
  have u5 : W.cell? ⟨T, 5, none⟩ = _ := (hbW.cell hTlt).trans hT5
  have u6 : W.cell? ⟨T, 6, none⟩ = _ := (hbW.cell hTlt).trans hT6
  have v6 : W.frozen? ⟨T, 6, none⟩ = _ := (hbW.frozen hTlt).trans fT6
  go_region
  go_wp2
  have MID := Mid.drew (mid_free (x := (x0, x1, x2)) hT hbT hbM HI.out hoL hoF hbW hbx)
  refine wp_gen (fun W => Mid w W T base (x0, x1, x2) L f F0 N M gL capL (.slice (some ⟨gF, 0, none⟩) F0.length cF)) (by exact MID) ?_
  clear MID u4 u5 u6 v6 hbW hbx hT hT4 hT5 hT6 fT6 hoL hoF hlook hgL htL hgF htF hlast hcsL hcsF
  intro W hW
  obtain ⟨curW, hgW, hbg, hLc, hcm, hcs, htk⟩ := hW.row'
  have c4 := cell_of_row W T 4 _ _ _ hW.hT
  have c5 := cell_of_row W T 5 _ _ _ hW.hT
  have b0 := cell_of_row W w.heap.size 0 _ _ _ hW.box
  have b1 := cell_of_row W w.heap.size 1 _ _ _ hW.box
  have b2 := cell_of_row W w.heap.size 2 _ _ _ hW.box
  simp at c4 c5 b0 b1 b2 hLc
  have z0 := cell_of_row W gL (l * 4) _ _ _ hgW
  have z1 := cell_of_row W gL (l * 4 + 1) _ _ _ hgW
  have z2 := cell_of_row W gL (l * 4 + 2) _ _ _ hgW
  have z3 := cell_of_row W gL (l * 4 + 3) _ _ _ hgW
  rw [Array.getElem?_eq_getElem (by omega)] at z0 z1 z2 z3
  have y0 := frozen_of_row W gL (l * 4) _ _ hgW
  have y1 := frozen_of_row W gL (l * 4 + 1) _ _ hgW
  have y2 := frozen_of_row W gL (l * 4 + 2) _ _ hgW
  have y3 := frozen_of_row W gL (l * 4 + 3) _ _ hgW
  generalize curW[l * 4] = o0 at z0
  generalize curW[l * 4 + 1] = o1 at z1
  generalize curW[l * 4 + 2] = o2 at z2
  generalize curW[l * 4 + 3] = o3 at z3
  have hl1 : (0 : Int) ≤ (l : Int) := by omega
  have hl2 : (l : Int) < (L.length : Int) := by omega
  clear hgW hcs htk
  go_region
  go_wp2
  refine wp_gen (fun W => Mid w W T base (x0, x1, x2) (L.set l ((x0, x1, x2), 1)) f F0 N M gL capL (.slice (some ⟨gF, 0, none⟩) F0.length cF)) (by exact mid_store hW hl) ?_
  clear c4 c5 b0 b1 b2 z0 z1 z2 z3 y0 y1 y2 y3 hW
  intro W hW
  have c5 := cell_of_row W T 5 _ _ _ hW.hT
  have b0 := cell_of_row W w.heap.size 0 _ _ _ hW.box
  have b1 := cell_of_row W w.heap.size 1 _ _ _ hW.box
  have b2 := cell_of_row W w.heap.size 2 _ _ _ hW.box
  simp at c5 b0 b1 b2
  obtain ⟨w5, hrun, hidx5, hg5⟩ := idx_store (w := W.drew) hW.idx hx (l := l) (by omega) (by unfold maxLen; omega)
  unfold aLim at hrun
  go_region
  go_wp2
  go_ret2
  exact ⟨rfl, mid_end hW hidx5 hg5⟩
end Go.Proofs.Qxb6605674a.A8
