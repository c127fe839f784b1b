import Derived.Test.Qxb6605674aA5
import Derived.Deep.AppendLies
set_option linter.unusedVariables false
set_option linter.unusedSimpArgs false
namespace Go.Proofs.Qxb6605674a.A6
open Go.RowKit Go.Proofs.Qxb6605674a.A4 Go.Proofs.Qxb6605674a.A3 Go.Proofs.Qxb6605674a.A5

theorem info90 : (Try.prog.info? 90).map (fun i => (i.zero, i.size, i.bytes)) = some (some (.agg #[.int .i64 0, .int .i64 0, .int .i64 0, .int .i64 0]), 4, 32) := by kernel_rfl

theorem row_form {w : World} {base e size : Nat} {v : Value} {n : Nat} {xs : List Value} (h : w.ownsRow base e size v n xs) : ∃ a c, v = .slice a n c := by
  rcases h.2 with ⟨rfl, rfl⟩ | ⟨g, cap, cur, rfl, _⟩
  · exact ⟨_, _, rfl⟩
  · exact ⟨_, _, rfl⟩

theorem wp_gen {P : Program} {c : Code} {Q : Exit → Act → World → Prop} {a : Act} {w : World} (R : World → Prop) (hR : R w) (h : ∀ W, R W → c.wp P Q a W) : c.wp P Q a w := h w hR

/-- Behind an append to the table's row: what lies elsewhere is as it was. -/
theorem app_far {w W0 w1 : World} {base n g T : Nat} {vL : Value} {xs : List Value} {cs : Array Value} {e : TypeId} (hoL : w.ownsRow base 90 4 vL n xs) (hb : Below w.heap.size w W0) (hg : W0.grownBy w1 vL.ownBlock)
    (hT : w.heap[T]? = some (.cells cs e (0, 0))) (he : e ≠ 90) : w1.heap[T]? = some (.cells cs e (0, 0)) := by
  have hlt := lt_of_block hT
  have h1 : some T ≠ vL.ownBlock := fun ee => by
    rcases hoL.2 with ⟨rfl, _⟩ | ⟨g, cap, cur, rfl, _, hgg, _⟩
    · simp [Value.ownBlock] at ee
    · simp [Value.ownBlock] at ee
      subst ee
      rw [hT] at hgg
      simp at hgg
      exact he hgg.2
  rw [hg.block T (Nat.lt_of_lt_of_le hlt hb.size) h1, hb.block T hlt, hT]

theorem app_c4 {w W0 w1 : World} {base n T : Nat} {vL v4 v5 v6 : Value} {xs : List Value} (hoL : w.ownsRow base 90 4 vL n xs) (hb : Below w.heap.size w W0) (hg : W0.grownBy w1 vL.ownBlock)
    (hT : w.heap[T]? = some (.cells #[.slice none 0 0, .slice none 0 0, .int .i64 0, .int .i64 0, v4, v5, v6] 84 (0, 0))) :
    w1.cell? ⟨T, 4, none⟩ = some v4 ∧ w1.cell? ⟨T, 5, none⟩ = some v5 ∧ w1.frozen? ⟨T, 4, none⟩ = false ∧ w1.frozen? ⟨T, 5, none⟩ = false ∧ T < w1.heap.size := by
  have h1 := app_far (g := 0) hoL hb hg hT (by decide)
  exact ⟨by rw [cell_of_row w1 T 4 _ _ _ h1]; rfl, by rw [cell_of_row w1 T 5 _ _ _ h1]; rfl, frozen_of_row w1 T 4 _ _ h1, frozen_of_row w1 T 5 _ _ h1, lt_of_block h1⟩

/-- Ahead of the store into the row: L holds the limits (the new one's place is there already). -/
structure Mid (w W : World) (T base : Nat) (x : Int × Int × Int) (L : List ((Int × Int × Int) × Int)) (f : Int × Int × Int → Option Nat) (F : List Nat) (N M g cap : Nat) (vF : Value) : Prop where
  hT : W.heap[T]? = some (.cells #[.slice none 0 0, .slice none 0 0, .int .i64 0, .int .i64 0, .slice (some ⟨g, 0, none⟩) L.length cap, .map (some M), vF] 84 (0, 0))
  bT : base ≤ T
  bM : base ≤ M
  box : W.heap[w.heap.size]? = some (.cells #[.int .i64 x.1, .int .i64 x.2.1, .int .i64 x.2.2] 49 (0, 0))
  row : W.ownsRow base 90 4 (.slice (some ⟨g, 0, none⟩) L.length cap) L.length (flat4 L)
  idx : IdxMap W M N f
  free : W.ownsRow base 29 1 vF F.length (F.map (fun (l : Nat) => Value.int .u32 (l : Int)))
  fr : Fr base w W

theorem Mid.row' {w W : World} {T base : Nat} {x : Int × Int × Int} {L : List ((Int × Int × Int) × Int)} {f : Int × Int × Int → Option Nat} {F : List Nat} {N M g cap : Nat} {vF : Value} (h : Mid w W T base x L f F N M g cap vF) :
    ∃ cur, W.heap[g]? = some (.cells cur 90 (0, 0)) ∧ base ≤ g ∧ L.length ≤ cap ∧ cap ≤ maxLen ∧ cur.size = cap * 4 ∧ cur.toList.take (L.length * 4) = flat4 L := by
  rcases h.row.2 with ⟨h1, _⟩ | ⟨g', cap', cur, h1, hb, hg, hr⟩
  · simp at h1
  · simp at h1
    obtain ⟨rfl, rfl⟩ := h1
    exact ⟨cur, hg, hb, hr.1, hr.2.1, hr.2.2.1, hr.2.2.2⟩

theorem mid_store {w W : World} {T base : Nat} {x : Int × Int × Int} {L : List ((Int × Int × Int) × Int)} {f : Int × Int × Int → Option Nat} {F : List Nat} {N M g cap : Nat} {vF : Value} (h : Mid w W T base x L f F N M g cap vF) {l : Nat} (hl : l < L.length) :
    Mid w ((((W.setCell ⟨g, l * 4, none⟩ (.int .i64 x.1)).setCell ⟨g, l * 4 + 1, none⟩ (.int .i64 x.2.1)).setCell ⟨g, l * 4 + 2, none⟩ (.int .i64 x.2.2)).setCell ⟨g, l * 4 + 3, none⟩ (.int .i64 1)).drew T base x (L.set l (x, 1)) f F N M g cap vF := by
  obtain ⟨cur, hg, hbg, hLc, hcm, hcs, htk⟩ := h.row'
  have h1 := heap_setCell_same W g (l * 4) _ 90 (.int .i64 x.1) hg
  have h2 := heap_setCell_same _ g (l * 4 + 1) _ 90 (.int .i64 x.2.1) h1
  have h3 := heap_setCell_same _ g (l * 4 + 2) _ 90 (.int .i64 x.2.2) h2
  have h4 := heap_setCell_same _ g (l * 4 + 3) _ 90 (.int .i64 1) h3
  have hoth : ∀ k, k ≠ g → ((((W.setCell ⟨g, l * 4, none⟩ (.int .i64 x.1)).setCell ⟨g, l * 4 + 1, none⟩ (.int .i64 x.2.1)).setCell ⟨g, l * 4 + 2, none⟩ (.int .i64 x.2.2)).setCell ⟨g, l * 4 + 3, none⟩ (.int .i64 1)).heap[k]? = W.heap[k]? := fun k hne => by
    rw [Below.heap_setCell _ _ _ _ hne, Below.heap_setCell _ _ _ _ hne, Below.heap_setCell _ _ _ _ hne, Below.heap_setCell _ _ _ _ hne]
  obtain ⟨es, clk, hMb⟩ := idx_block h.idx
  refine ⟨?_, h.bT, h.bM, ?_, ?_, idx_kept h.idx (hoth M (fun e => by subst e; rw [hg] at hMb; simp at hMb)), ?_, ?_⟩
  · rw [heap_drew, hoth T (fun e => by subst e; have := h.hT; rw [hg] at this; simp at this), h.hT, List.length_set]
  · rw [heap_drew, hoth _ (fun e => by subst e; have := h.box; rw [hg] at this; simp at this), h.box]
  · refine ⟨by rw [flat4_len], .inr ⟨g, cap, _, by rw [List.length_set], hbg, h4, by simpa using hLc, hcm, by simpa using hcs, ?_⟩⟩
    rw [List.length_set, flat4_set L l _ hl, ← htk]
    simp only [Array.toList_setIfInBounds, List.take_set]
  · exact row_kept h.free (fun k cur' hk hkk => hoth k (fun e => by subst e; rw [hg] at hkk; simp at hkk))
  · exact ((((h.fr.setCell (p := ⟨g, l * 4, none⟩) hg (.inr rfl) hbg _).setCell (p := ⟨g, l * 4 + 1, none⟩) h1 (.inr rfl) hbg _).setCell (p := ⟨g, l * 4 + 2, none⟩) h2 (.inr rfl) hbg _).setCell (p := ⟨g, l * 4 + 3, none⟩) h3 (.inr rfl) hbg _).drew

theorem mid_end {w W w5 : World} {T base : Nat} {x : Int × Int × Int} {L : List ((Int × Int × Int) × Int)} {f : Int × Int × Int → Option Nat} {F : List Nat} {N M g cap : Nat} {vF : Value} (h : Mid w W T base x L f F N M g cap vF) {f' : Int × Int × Int → Option Nat}
    (hi : IdxMap w5 M (N + 1) f') (hg : W.drew.grownBy w5 (some M)) : TInv w5 T base L f' F (N + 1) ∧ Fr base w w5 := by
  obtain ⟨es, clk, hMb⟩ := idx_block h.idx
  have hoth : ∀ k, k < W.heap.size → k ≠ M → w5.heap[k]? = W.heap[k]? := fun k hk hne => hg.block k hk (by simpa using hne)
  refine ⟨⟨_, _, vF, (hoth T (lt_of_block h.hT) (fun e => by subst e; have := h.hT; rw [hMb] at this; simp at this)).trans h.hT, h.bT, ?_, ?_, .inr ⟨M, rfl, h.bM, hi⟩⟩, ?_⟩
  · exact row_kept h.row (fun k cur' hk hkk => hoth k (lt_of_block hkk) (fun e => by subst e; rw [hMb] at hkk; simp at hkk))
  · exact row_kept h.free (fun k cur' hk hkk => hoth k (lt_of_block hkk) (fun e => by subst e; rw [hMb] at hkk; simp at hkk))
  · exact h.fr.drew.grown hg (by have h1 := h.bT; have h2 := lt_of_block h.hT; show base ≤ W.heap.size; omega) (fun k hk => by
      cases hk
      exact ⟨h.bM, fun cs e he => by rw [heap_drew, hMb] at he; simp at he⟩)

theorem heap_two (w1 : World) (T : Nat) (v4 v5 u4 u5 v6 : Value) (h : w1.heap[T]? = some (.cells #[.slice none 0 0, .slice none 0 0, .int .i64 0, .int .i64 0, v4, v5, v6] 84 (0, 0))) :
    ((w1.setCell ⟨T, 4, none⟩ u4).setCell ⟨T, 5, none⟩ u5).heap[T]? = some (.cells #[.slice none 0 0, .slice none 0 0, .int .i64 0, .int .i64 0, u4, u5, v6] 84 (0, 0)) := by
  have h1 := heap_setCell_same w1 T 4 _ 84 u4 h
  have h2 := heap_setCell_same _ T 5 _ 84 u5 h1
  rw [h2]
  rfl

theorem mid_new_nil {w W0 w1 : World} {T base : Nat} {x : Int × Int × Int} {L : List ((Int × Int × Int) × Int)} {g cap : Nat} {vL vF : Value}
    (hT : w.heap[T]? = some (.cells #[.slice none 0 0, .slice none 0 0, .int .i64 0, .int .i64 0, vL, .map none, vF] 84 (0, 0))) (hbT : base ≤ T)
    (hoL : w.ownsRow base 90 4 vL L.length (flat4 L)) (hoF : w.ownsRow base 29 1 vF 0 []) (hb0 : Below (w.heap.size + 1) (w.alloc (.cells #[.int .i64 x.1, .int .i64 x.2.1, .int .i64 x.2.2] 49)) W0)
    (hown1 : w1.ownsRow base 90 4 (.slice (some ⟨g, 0, none⟩) (L.length + 1) cap) (L.length + 1) (flat4 L ++ [.int .i64 0, .int .i64 0, .int .i64 0, .int .i64 0])) (hg : W0.grownBy w1 vL.ownBlock) :
    Mid w (((w1.setCell ⟨T, 4, none⟩ (.slice (some ⟨g, 0, none⟩) (L.length + 1) cap)).setCell ⟨T, 5, none⟩ (.map (some w1.heap.size))).alloc (.map #[] 0)) T base x (L ++ [((0, 0, 0), 0)]) (fun _ => none) [] 0 w1.heap.size g cap vF := by
  have hbW : Below w.heap.size w W0 := by
    have h1 : Below w.heap.size w (w.alloc (.cells #[.int .i64 x.1, .int .i64 x.2.1, .int .i64 x.2.2] 49)) := (Below.refl _ _).alloc (Nat.le_refl _) _
    exact h1.trans (hb0.mono (by omega))
  have hT1 := app_far (g := 0) hoL hbW hg hT (by decide)
  have hTlt := lt_of_block hT
  have hs1 : w.heap.size + 1 ≤ w1.heap.size := by have h1 := hb0.size; have h2 := hg.size; simp at h1; omega
  have hbox : w1.heap[w.heap.size]? = some (.cells #[.int .i64 x.1, .int .i64 x.2.1, .int .i64 x.2.2] 49 (0, 0)) := by
    rw [hg.block w.heap.size (by have := hb0.size; simp at this; omega) (fun e => by have := (hoL.lt _ e.symm).2; omega), hb0.block _ (by omega)]
    exact heap_alloc_new w _
  have hle : base ≤ w.heap.size := by omega
  have hoth : ∀ k, k < w1.heap.size → k ≠ T → (((w1.setCell ⟨T, 4, none⟩ (.slice (some ⟨g, 0, none⟩) (L.length + 1) cap)).setCell ⟨T, 5, none⟩ (.map (some w1.heap.size))).alloc (.map #[] 0)).heap[k]? = w1.heap[k]? := fun k hk hne => by
    rw [Below.heap_alloc _ _ _ (by simpa using hk), Below.heap_setCell _ _ _ _ hne, Below.heap_setCell _ _ _ _ hne]
  have hF1 : w1.ownsRow base 29 1 vF 0 [] := row_kept hoF (fun k cur _ hk => by rw [app_far (g := 0) hoL hbW hg hk (by decide), hk])
  have hfr1 : Fr base w w1 := ((Fr.refl base w).below hbW hle).grown hg (by have := hbW.size; omega) (fun k hk => by
    have h1 := hoL.lt k hk
    refine ⟨h1.1, fun cs e he => ?_⟩
    rcases hoL.2 with ⟨rfl, _⟩ | ⟨g', cap', cur, rfl, _, hgg, _⟩
    · simp [Value.ownBlock] at hk
    · simp [Value.ownBlock] at hk
      subst hk
      rw [hbW.block g' h1.2, hgg] at he
      simp at he
      exact .inr he.2.symm)
  have hidx : IdxMap (((w1.setCell ⟨T, 4, none⟩ (.slice (some ⟨g, 0, none⟩) (L.length + 1) cap)).setCell ⟨T, 5, none⟩ (.map (some w1.heap.size))).alloc (.map #[] 0)) w1.heap.size 0 (fun _ => none) := by
    have := idx_made ((w1.setCell ⟨T, 4, none⟩ (.slice (some ⟨g, 0, none⟩) (L.length + 1) cap)).setCell ⟨T, 5, none⟩ (.map (some w1.heap.size)))
    simpa using this
  refine ⟨?_, hbT, by omega, ?_, ?_, hidx, ?_, ?_⟩
  · rw [Below.heap_alloc _ _ _ (by simp; omega), heap_two w1 T _ _ _ _ _ hT1]
    simp
  · rw [hoth _ (by omega) (by omega)]; exact hbox
  · have e : flat4 (L ++ [((0, 0, 0), 0)]) = flat4 L ++ [.int .i64 0, .int .i64 0, .int .i64 0, .int .i64 0] := by rw [flat4_app]; rfl
    rw [e]
    simp only [List.length_append, List.length_cons, List.length_nil, Nat.zero_add]
    exact row_kept hown1 (fun k cur hk hkk => hoth k (lt_of_block hkk) (fun e => by subst e; rw [hT1] at hkk; simp at hkk))
  · exact row_kept hF1 (fun k cur hk hkk => hoth k (lt_of_block hkk) (fun e => by subst e; rw [hT1] at hkk; simp at hkk))
  · refine ((hfr1.setCell (p := ⟨T, 4, none⟩) hT1 (.inl rfl) hbT _).setCell (p := ⟨T, 5, none⟩) (heap_setCell_same w1 T 4 _ 84 _ hT1) (.inl rfl) hbT _).alloc (by simp; omega) _

set_option maxRecDepth 100000 in
set_option maxHeartbeats 400000 in
theorem acq_new_nil (T base : Nat) (L : List ((Int × Int × Int) × Int)) (vL vF : Value) (x : Int × Int × Int) (w : World)
    (hT : w.heap[T]? = some (.cells #[.slice none 0 0, .slice none 0 0, .int .i64 0, .int .i64 0, vL, .map none, vF] 84 (0, 0))) (hbT : base ≤ T)
    (hoL : w.ownsRow base 90 4 vL L.length (flat4 L)) (hoF : w.ownsRow base 29 1 vF 0 []) (hx : wf3 x) (hL : L.length ≤ 1048576) :
    Calls Try.prog 43 #[.pointer (some ⟨T, 0, none⟩), aLim x] w fun e w' => e = .returned (.tuple #[.int .u32 L.length, .bool true]) ∧ TInv w' T base (L ++ [(x, 1)]) (fun y => if y = x then some L.length else none) [] 1 ∧ Fr base w w' := by
  obtain ⟨i0, hi, hz0, hz1, hz2⟩ := info_parts info90
  obtain ⟨aL, cL, rfl⟩ := row_form hoL
  obtain ⟨aF, cF, rfl⟩ := row_form hoF
  obtain ⟨x0, x1, x2⟩ := x
  have hTlt := lt_of_block hT
  have hlook : ∀ n, (Instr.lookup 82 (.map none) (.agg #[.int .i64 x0, .int .i64 x1, .int .i64 x2]) true).run Try.prog ((w.alloc (.cells #[.int .i64 x0, .int .i64 x1, .int .i64 x2] 49)).drewN n) = .ok (.tuple #[.int .u32 0, .bool false]) ((w.alloc (.cells #[.int .i64 x0, .int .i64 x1, .int .i64 x2] 49)).drewN n) := fun n =>
    idx_nil _ hx
  have hb0 : ∀ n, Below w.heap.size w (((w.alloc (.cells #[.int .i64 x0, .int .i64 x1, .int .i64 x2] 49)).drewN n).alloc (.cells #[.int .i64 0, .int .i64 0, .int .i64 0, .int .i64 0] 90)) := fun n =>
    (belN ((Below.refl _ _).alloc (Nat.le_refl _) _) n).alloc (by simp) _
  have hz : ∀ n, (((w.alloc (.cells #[.int .i64 x0, .int .i64 x1, .int .i64 x2] 49)).drewN n).alloc (.cells #[.int .i64 0, .int .i64 0, .int .i64 0, .int .i64 0] 90)).heap[w.heap.size + 1]? = some (.cells #[.int .i64 0, .int .i64 0, .int .i64 0, .int .i64 0] 90 (0, 0)) := fun n => by
    have := heap_alloc_new ((w.alloc (.cells #[.int .i64 x0, .int .i64 x1, .int .i64 x2] 49)).drewN n) (.cells #[.int .i64 0, .int .i64 0, .int .i64 0, .int .i64 0] 90)
    simpa using this
  have hc0 : ∀ n, Below (w.heap.size + 1) (w.alloc (.cells #[.int .i64 x0, .int .i64 x1, .int .i64 x2] 49)) (((w.alloc (.cells #[.int .i64 x0, .int .i64 x1, .int .i64 x2] 49)).drewN n).alloc (.cells #[.int .i64 0, .int .i64 0, .int .i64 0, .int .i64 0] 90)) := fun n =>
    (belN (Below.refl _ _) n).alloc (by simp) _
  have HC : Hid _ := hc0
  clear hc0
  have HB : Hid _ := hb0
  have HZ : Hid _ := hz
  clear hb0 hz
  have hT4 := cell_of_row w T 4 _ _ _ hT
  have hT5 := cell_of_row w T 5 _ _ _ hT
  have hT6 := cell_of_row w T 6 _ _ _ hT
  simp at hT4 hT5 hT6
  have hmn := fun wx r => run_eql_map_nil (P := Try.prog) wx 82 49 29 r Try.underlying82
  have hmm := @run_makeMap Try.prog
  have hfm := frozen?_alloc_map
  unfold aLim
  go_enter Try.func43, Try.ntmps43
  go_wp2
  go_quiet (fail)
  go_wp2_with (first | (at_builtin; refine wpList_append_lies _ rfl _ _ 81 rfl base 90 i0 (.agg #[.int .i64 0, .int .i64 0, .int .i64 0, .int .i64 0]) 4 32 Try.underlying81 hi hz0 hz1 hz2 rfl (by decide) _ L.length (flat4 L) rfl (by exact row_kept hoL (fun k _ _ hk => (HB.out _).block k (lt_of_block hk))) _ 1 1 [.int .i64 0, .int .i64 0, .int .i64 0, .int .i64 0] rfl rfl (by exact World.news_of_block (cs := #[.int .i64 0, .int .i64 0, .int .i64 0, .int .i64 0]) (HZ.out _)) (by decide) (by decide) (by unfold maxLen; omega) (by omega) (by exact Nat.le_trans (by omega) (HB.out _).size) _ rfl ?_; intro g cap w1 hown1 hgrow1 hat1 hlt1; have q4 := app_c4 hoL (HB.out _) hgrow1 hT; obtain ⟨k4, k5, j4, j5, kT⟩ := q4))
  have MID := mid_new_nil (x := (x0, x1, x2)) hT hbT hoL hoF (HC.out _) hown1 hgrow1
  refine wp_gen (fun W => Mid w W T base (x0, x1, x2) (L ++ [((0, 0, 0), 0)]) (fun _ => none) [] 0 w1.heap.size g cap (.slice aF 0 cF)) (by exact MID) ?_
  clear MID hown1 hgrow1 hat1 hlt1 k4 k5 j4 j5 kT hT hT4 hT5 hT6 hoL hoF hlook
  intro W hW
  obtain ⟨curW, hgW, hbg, hLc, hcm, hcs, htk⟩ := hW.row'
  have c4 := cell_of_row W T 4 _ _ _ hW.hT
  have c5 := cell_of_row W T 5 _ _ _ hW.hT
  have b0 := cell_of_row W w.heap.size 0 _ _ _ hW.box
  have b1 := cell_of_row W w.heap.size 1 _ _ _ hW.box
  have b2 := cell_of_row W w.heap.size 2 _ _ _ hW.box
  simp at c4 c5 b0 b1 b2 hLc
  have z0 := cell_of_row W g (L.length * 4) _ _ _ hgW
  have z1 := cell_of_row W g (L.length * 4 + 1) _ _ _ hgW
  have z2 := cell_of_row W g (L.length * 4 + 2) _ _ _ hgW
  have z3 := cell_of_row W g (L.length * 4 + 3) _ _ _ hgW
  rw [Array.getElem?_eq_getElem (by omega)] at z0 z1 z2 z3
  have y0 := frozen_of_row W g (L.length * 4) _ _ hgW
  have y1 := frozen_of_row W g (L.length * 4 + 1) _ _ hgW
  have y2 := frozen_of_row W g (L.length * 4 + 2) _ _ hgW
  have y3 := frozen_of_row W g (L.length * 4 + 3) _ _ hgW
  generalize curW[L.length * 4] = o0 at z0
  generalize curW[L.length * 4 + 1] = o1 at z1
  generalize curW[L.length * 4 + 2] = o2 at z2
  generalize curW[L.length * 4 + 3] = o3 at z3
  have hl1 : (0 : Int) ≤ (L.length : Int) := by omega
  have hl2 : (L.length : Int) < (L.length : Int) + 1 := by omega
  clear hgW hcs htk
  go_region
  go_wp2
  refine wp_gen (fun W => Mid w W T base (x0, x1, x2) ((L ++ [((0, 0, 0), 0)]).set L.length ((x0, x1, x2), 1)) (fun _ => none) [] 0 w1.heap.size g cap (.slice aF 0 cF)) (by exact mid_store hW (by simp)) ?_
  clear c4 c5 b0 b1 b2 z0 z1 z2 z3 y0 y1 y2 y3 hW
  intro W hW
  have c5 := cell_of_row W T 5 _ _ _ hW.hT
  have b0 := cell_of_row W w.heap.size 0 _ _ _ hW.box
  have b1 := cell_of_row W w.heap.size 1 _ _ _ hW.box
  have b2 := cell_of_row W w.heap.size 2 _ _ _ hW.box
  simp at c5 b0 b1 b2
  obtain ⟨w5, hrun, hidx5, hg5⟩ := idx_store (w := W.drew) hW.idx hx (l := L.length) (by omega) (by unfold maxLen; omega)
  unfold aLim at hrun
  go_region
  go_wp2
  go_ret2
  have hend := mid_end hW hidx5 hg5
  have e : (L ++ [((0, 0, 0), (0 : Int))]).set L.length ((x0, x1, x2), 1) = L ++ [((x0, x1, x2), 1)] := by simp
  rw [e] at hend
  exact ⟨rfl, hend⟩
end Go.Proofs.Qxb6605674a.A6
