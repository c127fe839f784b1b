import Derived.Test.Qxb6605674aA6
set_option linter.unusedVariables false
set_option linter.unusedSimpArgs false
namespace Go.Proofs.Qxb6605674a.A7
open Go.RowKit Go.Proofs.Qxb6605674a.A4 Go.Proofs.Qxb6605674a.A3 Go.Proofs.Qxb6605674a.A5 Go.Proofs.Qxb6605674a.A6

/-- A look-up that finds nothing: the same in every world that has the map's block. -/
theorem idx_none_same {w : World} {M n : Nat} {f : Int × Int × Int → Option Nat} (h : IdxMap w M n f) {x : Int × Int × Int} (hx : wf3 x) (hf : f x = none) : ∃ v : Int, ∀ w' : World, w'.heap[M]? = w.heap[M]? → (Instr.lookup 82 (.map (some M)) (aLim x) true).run Try.prog w' = .ok (.tuple #[.int .u32 v, .bool false]) w' := by
  obtain ⟨D, hown, hD⟩ := h
  obtain ⟨k, hk⟩ := key49 x hx
  have hat : D.atKey k (.lit (.int .u32 0)) = .lit (.int .u32 0) := Maps.atKey_of_not_has (by rw [(hD x k hk).1, hf]; rfl) _
  refine ⟨0, fun w' hw => ?_⟩
  have hown' : w'.ownsMap Try.prog 49 (plainElem Try.prog 29) M n D := by
    obtain ⟨es, clock, h1, r⟩ := hown
    exact ⟨es, clock, hw.trans h1, r⟩
  obtain ⟨v, ps, hrun, hv⟩ := hown'.look_ok keyed49 Try.underlying82 (zero29 w') (plainElem_int Try.underlying29 (by decide)) hk
  obtain ⟨c, rfl, hc, _⟩ := plainElem_int_inv Try.underlying29 hv
  rw [(hD x k hk).1, hf] at hrun
  rw [hat] at hc
  simp at hc
  obtain ⟨rfl, _⟩ := hc
  exact hrun
theorem idx_none_all {w : World} {M N : Nat} {f : Int × Int × Int → Option Nat} {x0 x1 x2 : Int} (h : IdxMap w M N f) (hx : wf3 (x0, x1, x2)) (hf : f (x0, x1, x2) = none) (hlt : M < w.heap.size) :
    ∃ dd : Int, ∀ n, (Instr.lookup 82 (.map (some M)) (.agg #[.int .i64 x0, .int .i64 x1, .int .i64 x2]) true).run Try.prog ((w.alloc (.cells #[.int .i64 x0, .int .i64 x1, .int .i64 x2] 49)).drewN n) = .ok (.tuple #[.int .u32 dd, .bool false]) ((w.alloc (.cells #[.int .i64 x0, .int .i64 x1, .int .i64 x2] 49)).drewN n) := by
  obtain ⟨v, hv⟩ := idx_none_same h hx hf
  exact ⟨v, fun n => hv _ (Below.heap_alloc w _ M hlt)⟩

theorem mid_new_map {w W0 w1 : World} {T base : Nat} {x : Int × Int × Int} {L : List ((Int × Int × Int) × Int)} {g cap M N : Nat} {f : Int × Int × Int → Option Nat} {vL vF : Value}
    (hT : w.heap[T]? = some (.cells #[.slice none 0 0, .slice none 0 0, .int .i64 0, .int .i64 0, vL, .map (some M), vF] 84 (0, 0))) (hbT : base ≤ T) (hbM : base ≤ M) (hidx0 : IdxMap w M N f)
    (hoL : w.ownsRow base 90 4 vL L.length (flat4 L)) (hoF : w.ownsRow base 29 1 vF 0 []) (hb0 : Below (w.heap.size + 1) (w.alloc (.cells #[.int .i64 x.1, .int .i64 x.2.1, .int .i64 x.2.2] 49)) W0)
    (hown1 : w1.ownsRow base 90 4 (.slice (some ⟨g, 0, none⟩) (L.length + 1) cap) (L.length + 1) (flat4 L ++ [.int .i64 0, .int .i64 0, .int .i64 0, .int .i64 0])) (hg : W0.grownBy w1 vL.ownBlock) :
    Mid w (w1.setCell ⟨T, 4, none⟩ (.slice (some ⟨g, 0, none⟩) (L.length + 1) cap)) T base x (L ++ [((0, 0, 0), 0)]) f [] N M g cap vF := by
  have hbW : Below w.heap.size w W0 := by
    have h1 : Below w.heap.size w (w.alloc (.cells #[.int .i64 x.1, .int .i64 x.2.1, .int .i64 x.2.2] 49)) := (Below.refl _ _).alloc (Nat.le_refl _) _
    exact h1.trans (hb0.mono (by omega))
  have hT1 := app_far (g := 0) hoL hbW hg hT (by decide)
  have hTlt := lt_of_block hT
  have hs1 : w.heap.size + 1 ≤ w1.heap.size := by have h1 := hb0.size; have h2 := hg.size; simp at h1; omega
  have hbox : w1.heap[w.heap.size]? = some (.cells #[.int .i64 x.1, .int .i64 x.2.1, .int .i64 x.2.2] 49 (0, 0)) := by
    rw [hg.block w.heap.size (by have := hb0.size; simp at this; omega) (fun e => by have := (hoL.lt _ e.symm).2; omega), hb0.block _ (by omega)]
    exact heap_alloc_new w _
  have hle : base ≤ w.heap.size := by omega
  have hoth : ∀ k, k < w1.heap.size → k ≠ T → (w1.setCell ⟨T, 4, none⟩ (.slice (some ⟨g, 0, none⟩) (L.length + 1) cap)).heap[k]? = w1.heap[k]? := fun k hk hne => by
    rw [Below.heap_setCell _ _ _ _ hne]
  have hF1 : w1.ownsRow base 29 1 vF 0 [] := row_kept hoF (fun k cur _ hk => by rw [app_far (g := 0) hoL hbW hg hk (by decide), hk])
  have hfr1 : Fr base w w1 := ((Fr.refl base w).below hbW hle).grown hg (by have := hbW.size; omega) (fun k hk => by
    have h1 := hoL.lt k hk
    refine ⟨h1.1, fun cs e he => ?_⟩
    rcases hoL.2 with ⟨rfl, _⟩ | ⟨g', cap', cur, rfl, _, hgg, _⟩
    · simp [Value.ownBlock] at hk
    · simp [Value.ownBlock] at hk
      subst hk
      rw [hbW.block g' h1.2, hgg] at he
      simp at he
      exact .inr he.2.symm)
  obtain ⟨es, clk, hMb⟩ := idx_block hidx0
  have hMlt := lt_of_block hMb
  have hM1 : w1.heap[M]? = w.heap[M]? := by
    rw [hg.block M (Nat.lt_of_lt_of_le hMlt hbW.size) (fun e => ?_), hbW.block M hMlt]
    rcases hoL.2 with ⟨rfl, _⟩ | ⟨g', cap', cur, rfl, _, hgg, _⟩
    · simp [Value.ownBlock] at e
    · simp [Value.ownBlock] at e
      subst e
      rw [hMb] at hgg
      simp at hgg
  have hMT : M ≠ T := fun e => by subst e; rw [hT] at hMb; simp at hMb
  have hidx : IdxMap (w1.setCell ⟨T, 4, none⟩ (.slice (some ⟨g, 0, none⟩) (L.length + 1) cap)) M N f := idx_kept hidx0 ((hoth M (by omega) hMT).trans hM1)
  refine ⟨?_, hbT, hbM, ?_, ?_, hidx, ?_, ?_⟩
  · rw [heap_setCell_same w1 T 4 _ 84 _ hT1]
    simp
  · rw [hoth _ (by omega) (by omega)]; exact hbox
  · have e : flat4 (L ++ [((0, 0, 0), 0)]) = flat4 L ++ [.int .i64 0, .int .i64 0, .int .i64 0, .int .i64 0] := by rw [flat4_app]; rfl
    rw [e]
    simp only [List.length_append, List.length_cons, List.length_nil, Nat.zero_add]
    exact row_kept hown1 (fun k cur hk hkk => hoth k (lt_of_block hkk) (fun e => by subst e; rw [hT1] at hkk; simp at hkk))
  · exact row_kept hF1 (fun k cur hk hkk => hoth k (lt_of_block hkk) (fun e => by subst e; rw [hT1] at hkk; simp at hkk))
  · exact hfr1.setCell (p := ⟨T, 4, none⟩) hT1 (.inl rfl) hbT _

set_option maxRecDepth 100000 in
set_option maxHeartbeats 400000 in
theorem acq_new_map (T base : Nat) (L : List ((Int × Int × Int) × Int)) (f : Int × Int × Int → Option Nat) (N M : Nat) (vL vF : Value) (x : Int × Int × Int) (w : World)
    (hT : w.heap[T]? = some (.cells #[.slice none 0 0, .slice none 0 0, .int .i64 0, .int .i64 0, vL, .map (some M), vF] 84 (0, 0))) (hbT : base ≤ T) (hbM : base ≤ M) (hidx0 : IdxMap w M N f) (hfx : f x = none) (hN : N ≤ 1048576)
    (hoL : w.ownsRow base 90 4 vL L.length (flat4 L)) (hoF : w.ownsRow base 29 1 vF 0 []) (hx : wf3 x) (hL : L.length ≤ 1048576) :
    Calls Try.prog 43 #[.pointer (some ⟨T, 0, none⟩), aLim x] w fun e w' => e = .returned (.tuple #[.int .u32 L.length, .bool true]) ∧ TInv w' T base (L ++ [(x, 1)]) (fun y => if y = x then some L.length else f y) [] (N + 1) ∧ Fr base w w' := by
  obtain ⟨i0, hi, hz0, hz1, hz2⟩ := info_parts info90
  obtain ⟨aL, cL, rfl⟩ := row_form hoL
  obtain ⟨aF, cF, rfl⟩ := row_form hoF
  obtain ⟨x0, x1, x2⟩ := x
  have hTlt := lt_of_block hT
  obtain ⟨es, clk, hMb⟩ := idx_block hidx0
  have hMlt := lt_of_block hMb
  obtain ⟨dd, hlook⟩ : ∃ dd, ∀ n, (Instr.lookup 82 (.map (some M)) (.agg #[.int .i64 x0, .int .i64 x1, .int .i64 x2]) true).run Try.prog ((w.alloc (.cells #[.int .i64 x0, .int .i64 x1, .int .i64 x2] 49)).drewN n) = .ok (.tuple #[.int .u32 dd, .bool false]) ((w.alloc (.cells #[.int .i64 x0, .int .i64 x1, .int .i64 x2] 49)).drewN n) :=
    idx_none_all hidx0 hx hfx hMlt
  have HI : Hid _ := hidx0
  clear hMb hidx0
  have hb0 : ∀ n, Below w.heap.size w (((w.alloc (.cells #[.int .i64 x0, .int .i64 x1, .int .i64 x2] 49)).drewN n).alloc (.cells #[.int .i64 0, .int .i64 0, .int .i64 0, .int .i64 0] 90)) := fun n =>
    (belN ((Below.refl _ _).alloc (Nat.le_refl _) _) n).alloc (by simp) _
  have hz : ∀ n, (((w.alloc (.cells #[.int .i64 x0, .int .i64 x1, .int .i64 x2] 49)).drewN n).alloc (.cells #[.int .i64 0, .int .i64 0, .int .i64 0, .int .i64 0] 90)).heap[w.heap.size + 1]? = some (.cells #[.int .i64 0, .int .i64 0, .int .i64 0, .int .i64 0] 90 (0, 0)) := fun n => by
    have := heap_alloc_new ((w.alloc (.cells #[.int .i64 x0, .int .i64 x1, .int .i64 x2] 49)).drewN n) (.cells #[.int .i64 0, .int .i64 0, .int .i64 0, .int .i64 0] 90)
    simpa using this
  have hc0 : ∀ n, Below (w.heap.size + 1) (w.alloc (.cells #[.int .i64 x0, .int .i64 x1, .int .i64 x2] 49)) (((w.alloc (.cells #[.int .i64 x0, .int .i64 x1, .int .i64 x2] 49)).drewN n).alloc (.cells #[.int .i64 0, .int .i64 0, .int .i64 0, .int .i64 0] 90)) := fun n =>
    (belN (Below.refl _ _) n).alloc (by simp) _
  have HC : Hid _ := hc0
  clear hc0
  have HB : Hid _ := hb0
  have HZ : Hid _ := hz
  clear hb0 hz
  have hT4 := cell_of_row w T 4 _ _ _ hT
  have hT5 := cell_of_row w T 5 _ _ _ hT
  have hT6 := cell_of_row w T 6 _ _ _ hT
  simp at hT4 hT5 hT6
  have hmn := fun wx r => run_eql_map_nil (P := Try.prog) wx 82 49 29 r Try.underlying82
  unfold aLim
  go_enter Try.func43, Try.ntmps43
  go_wp2
  go_quiet (fail)
  go_wp2_with (first | (at_builtin; refine wpList_append_lies _ rfl _ _ 81 rfl base 90 i0 (.agg #[.int .i64 0, .int .i64 0, .int .i64 0, .int .i64 0]) 4 32 Try.underlying81 hi hz0 hz1 hz2 rfl (by decide) _ L.length (flat4 L) rfl (by exact row_kept hoL (fun k _ _ hk => (HB.out _).block k (lt_of_block hk))) _ 1 1 [.int .i64 0, .int .i64 0, .int .i64 0, .int .i64 0] rfl rfl (by exact World.news_of_block (cs := #[.int .i64 0, .int .i64 0, .int .i64 0, .int .i64 0]) (HZ.out _)) (by decide) (by decide) (by unfold maxLen; omega) (by omega) (by exact Nat.le_trans (by omega) (HB.out _).size) _ rfl ?_; intro g cap w1 hown1 hgrow1 hat1 hlt1; have q4 := app_c4 hoL (HB.out _) hgrow1 hT; obtain ⟨k4, k5, j4, j5, kT⟩ := q4))
  have MID := mid_new_map (x := (x0, x1, x2)) hT hbT hbM HI.out hoL hoF (HC.out _) hown1 hgrow1
  refine wp_gen (fun W => Mid w W T base (x0, x1, x2) (L ++ [((0, 0, 0), 0)]) f [] N M g cap (.slice aF 0 cF)) (by exact MID) ?_
  clear MID hown1 hgrow1 hat1 hlt1 k4 k5 j4 j5 kT hT hT4 hT5 hT6 hoL hoF hlook
  intro W hW
  obtain ⟨curW, hgW, hbg, hLc, hcm, hcs, htk⟩ := hW.row'
  have c4 := cell_of_row W T 4 _ _ _ hW.hT
  have c5 := cell_of_row W T 5 _ _ _ hW.hT
  have b0 := cell_of_row W w.heap.size 0 _ _ _ hW.box
  have b1 := cell_of_row W w.heap.size 1 _ _ _ hW.box
  have b2 := cell_of_row W w.heap.size 2 _ _ _ hW.box
  simp at c4 c5 b0 b1 b2 hLc
  have z0 := cell_of_row W g (L.length * 4) _ _ _ hgW
  have z1 := cell_of_row W g (L.length * 4 + 1) _ _ _ hgW
  have z2 := cell_of_row W g (L.length * 4 + 2) _ _ _ hgW
  have z3 := cell_of_row W g (L.length * 4 + 3) _ _ _ hgW
  rw [Array.getElem?_eq_getElem (by omega)] at z0 z1 z2 z3
  have y0 := frozen_of_row W g (L.length * 4) _ _ hgW
  have y1 := frozen_of_row W g (L.length * 4 + 1) _ _ hgW
  have y2 := frozen_of_row W g (L.length * 4 + 2) _ _ hgW
  have y3 := frozen_of_row W g (L.length * 4 + 3) _ _ hgW
  generalize curW[L.length * 4] = o0 at z0
  generalize curW[L.length * 4 + 1] = o1 at z1
  generalize curW[L.length * 4 + 2] = o2 at z2
  generalize curW[L.length * 4 + 3] = o3 at z3
  have hl1 : (0 : Int) ≤ (L.length : Int) := by omega
  have hl2 : (L.length : Int) < (L.length : Int) + 1 := by omega
  clear hgW hcs htk
  go_region
  go_wp2
  refine wp_gen (fun W => Mid w W T base (x0, x1, x2) ((L ++ [((0, 0, 0), 0)]).set L.length ((x0, x1, x2), 1)) f [] N M g cap (.slice aF 0 cF)) (by exact mid_store hW (by simp)) ?_
  clear c4 c5 b0 b1 b2 z0 z1 z2 z3 y0 y1 y2 y3 hW
  intro W hW
  have c5 := cell_of_row W T 5 _ _ _ hW.hT
  have b0 := cell_of_row W w.heap.size 0 _ _ _ hW.box
  have b1 := cell_of_row W w.heap.size 1 _ _ _ hW.box
  have b2 := cell_of_row W w.heap.size 2 _ _ _ hW.box
  simp at c5 b0 b1 b2
  obtain ⟨w5, hrun, hidx5, hg5⟩ := idx_store (w := W.drew) hW.idx hx (l := L.length) (by omega) (by unfold maxLen; omega)
  unfold aLim at hrun
  go_region
  go_wp2
  go_ret2
  have hend := mid_end hW hidx5 hg5
  have e : (L ++ [((0, 0, 0), (0 : Int))]).set L.length ((x0, x1, x2), 1) = L ++ [((x0, x1, x2), 1)] := by simp
  rw [e] at hend
  exact ⟨rfl, hend⟩
end Go.Proofs.Qxb6605674a.A7
