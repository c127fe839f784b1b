import Derived.Test.Qxb6605674aA1
import Derived.Test.Qxb6605674aB2
import Derived.Deep.RegionHeld3
import Derived.Deep.DrawnRows
set_option linter.unusedVariables false
set_option linter.unusedSimpArgs false
namespace Go.Proofs.Qxb6605674a.B1
open Go.RowKit Go.Proofs.Qxb6605674a.A1 Go.Proofs.Qxb6605674a.A2 Go.Proofs.Qxb6605674a.A4 Go.Proofs.Qxb6605674a.A3 Go.Proofs.Qxb6605674a.A5 Go.Proofs.Qxb6605674a.A6 Go.Proofs.Qxb6605674a.A7 Go.Proofs.Qxb6605674a.A8 Go.Proofs.Qxb6605674a.A9 Go.Proofs.Qxb6605674a.B0 Go.Proofs.Qxb6605674a.B2
attribute [local go_sem ↓] Go.wp_at_zero Go.wp_at_succ

def Rel (B : Nat) (wc : World) (n : Nat) (v9 v10 v11 : Value) (wr : World) : Prop :=
  ∃ (k : Nat) (S : List Lim) (C : List Int), k ≤ n ∧ v11 = .int .i64 k ∧ C.length = S.length ∧ S.length ≤ k ∧ (∀ c ∈ C, 0 ≤ c ∧ c ≤ k) ∧
    wr.ownsRow B 58 3 v9 S.length (flat3 S) ∧ wr.ownsRow B 3 1 v10 C.length (C.map (Value.int .i64)) ∧ TInv wr B B (S.zip C) (idx S) [] k ∧ Below B wc wr

/-- The state inside a round: what is seen and counted (S, C), what the table holds (S', C'), the round's limit x in block bl. -/
structure St (wc W : World) (v9 v10 : Value) (S : List Lim) (C : List Int) (S' : List Lim) (C' : List Int) (k' : Nat) (x : Lim) (bl : Nat) : Prop where
  rS : W.ownsRow wc.heap.size 58 3 v9 S.length (flat3 S)
  rC : W.ownsRow wc.heap.size 3 1 v10 C.length (C.map (Value.int .i64))
  tab : TInv W wc.heap.size wc.heap.size (S'.zip C') (idx S') [] k'
  bel : Below wc.heap.size wc W
  lim : W.heap[bl]? = some (.cells #[.int .i64 x.1, .int .i64 x.2.1, .int .i64 x.2.2] 58 (0, 0))
theorem St.below {wc W W1 : World} {v9 v10 : Value} {S : List Lim} {C : List Int} {S' : List Lim} {C' : List Int} {k' : Nat} {x : Lim} {bl : Nat} (h : St wc W v9 v10 S C S' C' k' x bl) (hb : Below W.heap.size W W1) : St wc W1 v9 v10 S C S' C' k' x bl :=
  ⟨row_kept h.rS (fun k cur _ hk => hb.block k (lt_of_block hk)), row_kept h.rC (fun k cur _ hk => hb.block k (lt_of_block hk)), TInv.below h.tab hb, h.bel.trans (hb.mono h.bel.size), (hb.block bl (lt_of_block h.lim)).trans h.lim⟩
theorem St.fr {wc W W1 : World} {v9 v10 : Value} {S : List Lim} {C : List Int} {S' : List Lim} {C' : List Int} {k' : Nat} {x : Lim} {bl : Nat} (h : St wc W v9 v10 S C S' C' k' x bl) {S2 : List Lim} {C2 : List Int} {k2 : Nat} (hf : Fr wc.heap.size W W1) (ht : TInv W1 wc.heap.size wc.heap.size (S2.zip C2) (idx S2) [] k2) : St wc W1 v9 v10 S C S2 C2 k2 x bl :=
  ⟨row_kept h.rS (fun k cur _ hk => (hf.rest k cur _ hk (by decide) (by decide)).trans hk.symm), row_kept h.rC (fun k cur _ hk => (hf.rest k cur _ hk (by decide) (by decide)).trans hk.symm), ht, h.bel.trans ⟨hf.os, hf.tape, hf.output, hf.size, hf.block⟩, hf.rest bl _ _ h.lim (by decide) (by decide)⟩

theorem place_none {S : List Lim} {x : Lim} (h : idx S x = none) : place S x = -1 := by unfold idx at h; simp [place, h]
theorem place_some {S : List Lim} {x : Lim} {j : Nat} (h : idx S x = some j) : place S x = j := by unfold idx at h; simp [place, h]
theorem St.cells {wc W : World} {v9 v10 : Value} {S : List Lim} {C : List Int} {S' : List Lim} {C' : List Int} {k' : Nat} {x0 x1 x2 : Int} {bl : Nat} (h : St wc W v9 v10 S C S' C' k' (x0, x1, x2) bl) :
    W.cell? ⟨bl, 0, none⟩ = some (.int .i64 x0) ∧ W.cell? ⟨bl, 1, none⟩ = some (.int .i64 x1) ∧ W.cell? ⟨bl, 2, none⟩ = some (.int .i64 x2) := by
  refine ⟨?_, ?_, ?_⟩ <;> rw [cell_of_row W bl _ _ _ _ h.lim] <;> rfl

theorem info58 : (Try.prog.info? 58).map (fun i => (i.zero, i.size, i.bytes)) = some (some (.agg #[.int .i64 0, .int .i64 0, .int .i64 0]), 3, 24) := by kernel_rfl
theorem seen_none {S : List Lim} {x : Lim} (h : idx S x = none) : seen' S x = S ++ [x] := by simp [seen', h]
theorem cnt_none {S : List Lim} {C : List Int} {x : Lim} (h : idx S x = none) : cnt' S C x = C ++ [1] := by simp [cnt', h]
theorem num_none {S : List Lim} {x : Lim} (h : idx S x = none) : numOf S x = S.length := by simp [numOf, h]
theorem seen_some {S : List Lim} {x : Lim} {j : Nat} (h : idx S x = some j) : seen' S x = S := by simp [seen', h]
theorem cnt_some {S : List Lim} {C : List Int} {x : Lim} {j : Nat} (h : idx S x = some j) : cnt' S C x = C.set j (C.getD j 0 + 1) := by simp [cnt', h]
theorem num_some {S : List Lim} {x : Lim} {j : Nat} (h : idx S x = some j) : numOf S x = j := by simp [numOf, h]

theorem flat3_snoc (S : List Lim) (x : Lim) : flat3 (S ++ [x]) = flat3 S ++ [.int .i64 x.1, .int .i64 x.2.1, .int .i64 x.2.2] := by simp [flat3, c3]

theorem round_new {wc wf w1 w2 : World} {v9 v10 v9' : Value} {S : List Lim} {C : List Int} {k n : Nat} {x : Lim} {bl gC capC : Nat} {o1 o2 : Obj} (h : St wc wf v9 v10 S C (S ++ [x]) (C ++ [1]) (k + 1) x bl)
    (hCS : C.length = S.length) (hCb : ∀ c ∈ C, 0 ≤ c ∧ c ≤ k) (hSk : S.length ≤ k) (hk : k < n)
    (h1 : w1.ownsRow wc.heap.size 58 3 v9' (S.length + 1) (flat3 S ++ [.int .i64 x.1, .int .i64 x.2.1, .int .i64 x.2.2])) (g1 : (wf.alloc o1).grownBy w1 v9.ownBlock)
    (h2 : w2.ownsRow wc.heap.size 3 1 (.slice (some ⟨gC, 0, none⟩) (S.length + 1) capC) (S.length + 1) (C.map (Value.int .i64) ++ [.int .i64 0])) (g2 : (w1.alloc o2).grownBy w2 v10.ownBlock) :
    Rel wc.heap.size wc n v9' (.slice (some ⟨gC, 0, none⟩) (S.length + 1) capC) (.int .i64 ((k : Int) + 1)) (w2.setCell ⟨gC, S.length, none⟩ (.int .i64 1)) := by
  have b1 : Below wf.heap.size wf (wf.alloc o1) := (Below.refl _ _).alloc (Nat.le_refl _) _
  have s1 := h.below b1
  have O1 := Oth.grown s1.rS g1
  have B1 : Below wc.heap.size wc w1 := s1.bel.grown g1 s1.bel.size (fun q hq => (s1.rS.lt q hq).1)
  have c1 : w1.ownsRow wc.heap.size 3 1 v10 C.length (C.map (Value.int .i64)) := O1.row s1.rC (by decide)
  have t1 := O1.tab s1.tab (by decide) (by decide) (by decide)
  have b2 : Below w1.heap.size w1 (w1.alloc o2) := (Below.refl _ _).alloc (Nat.le_refl _) _
  have c1' : (w1.alloc o2).ownsRow wc.heap.size 3 1 v10 C.length (C.map (Value.int .i64)) := c1.alloc _
  have O2 := Oth.grown c1' g2
  have B2 : Below wc.heap.size wc w2 := (B1.trans (b2.mono B1.size)).grown g2 (by have := B1.size; simp; omega) (fun q hq => (c1'.lt q hq).1)
  have r1 := O2.row (h1.alloc o2) (by decide)
  have t2 := O2.tab (TInv.below t1 b2) (by decide) (by decide) (by decide)
  obtain ⟨r3, g3⟩ := h2.stored S.length (.int .i64 1)
  have O3 := Oth.grown (v := .slice (some ⟨gC, 0, none⟩) (S.length + 1) capC) h2 g3
  have e3 : (C.map (Value.int .i64) ++ [Value.int .i64 0]).set S.length (.int .i64 1) = (C ++ [1]).map (Value.int .i64) := by
    rw [← hCS, List.set_append_right _ _ (by simp)]
    simp
  rw [e3] at r3
  refine ⟨k + 1, S ++ [x], C ++ [1], by omega, by simp, by simp [hCS], by simp; omega, ?_, ?_, ?_, ?_, ?_⟩
  · intro c hc
    rcases List.mem_append.1 hc with hc | hc
    · have := hCb c hc; omega
    · simp at hc; omega
  · have := O3.row r1 (by decide)
    rw [flat3_snoc]
    simpa using this
  · simpa [hCS] using r3
  · exact O3.tab t2 (by decide) (by decide) (by decide)
  · exact B2.grown g3 B2.size (fun q hq => by cases hq; exact (h2.lt gC rfl).1)

theorem round_old {wc wf : World} {v9 : Value} {S : List Lim} {C : List Int} {k n j : Nat} {x : Lim} {bl gC capC : Nat} {c : Int} (h : St wc wf v9 (.slice (some ⟨gC, 0, none⟩) C.length capC) S C S (C.set j (C.getD j 0 + 1)) (k + 1) x bl)
    (hCS : C.length = S.length) (hCb : ∀ c ∈ C, 0 ≤ c ∧ c ≤ k) (hSk : S.length ≤ k) (hk : k < n) (hj : j < S.length) (hc : C.getD j 0 = c) :
    Rel wc.heap.size wc n v9 (.slice (some ⟨gC, 0, none⟩) C.length capC) (.int .i64 ((k : Int) + 1)) (wf.setCell ⟨gC, j, none⟩ (.int .i64 (c + 1))) := by
  subst hc
  obtain ⟨r3, g3⟩ := h.rC.stored j (.int .i64 (C.getD j 0 + 1))
  have O3 := Oth.grown (v := .slice (some ⟨gC, 0, none⟩) C.length capC) h.rC g3
  have hmem : C.getD j 0 ∈ C := by rw [List.getD_eq_getElem?_getD, List.getElem?_eq_getElem (by omega)]; simp
  refine ⟨k + 1, S, C.set j (C.getD j 0 + 1), by omega, by simp, by simp [hCS], by omega, ?_, O3.row h.rS (by decide), ?_, O3.tab h.tab (by decide) (by decide) (by decide), ?_⟩
  · intro c hc
    rcases List.mem_or_eq_of_mem_set hc with hc | rfl
    · have := hCb c hc; omega
    · have := hCb _ hmem; omega
  · have : (C.map (Value.int .i64)).set j (.int .i64 (C.getD j 0 + 1)) = (C.set j (C.getD j 0 + 1)).map (Value.int .i64) := by rw [List.map_set]
    rw [this] at r3
    simpa using r3
  · exact h.bel.grown g3 h.bel.size (fun q hq => by cases hq; exact (h.rC.lt gC rfl).1)

theorem len27' (T base : Nat) (S : List Lim) (C : List Int) (f : Lim → Option Nat) (F : List Nat) (N : Nat) (w : World) (h : TInv w T base (S.zip C) f F N) (hC : C.length = S.length) :
    Calls Try.prog 27 #[.pointer (some ⟨T, 0, none⟩)] w fun e w' => e = .returned (.int .i64 S.length) ∧ w' = w := by
  have := len27 T base _ f F N w h
  rwa [show (S.zip C).length = S.length by simp [hC]] at this
theorem row3_at {w : World} {base : Nat} {a : Option Addr} {c : Nat} {S : List Lim} {j : Nat} {x : Lim} (h : w.ownsRow base 58 3 (.slice a S.length c) S.length (flat3 S)) (hj : S[j]? = some x) :
    ∃ g, a = some ⟨g, 0, none⟩ ∧ w.cell? ⟨g, j * 3, none⟩ = some (.int .i64 x.1) ∧ w.cell? ⟨g, j * 3 + 1, none⟩ = some (.int .i64 x.2.1) ∧ w.cell? ⟨g, j * 3 + 2, none⟩ = some (.int .i64 x.2.2) := by
  have hlt : j < S.length := (List.getElem?_eq_some_iff.1 hj).1
  rcases h.2 with ⟨_, h0⟩ | ⟨g, cap, cur, hv, _, hg, _, _, _, ht⟩
  · omega
  · simp at hv
    obtain ⟨rfl, rfl⟩ := hv
    have hf := flat3_at S j x hj
    refine ⟨g, rfl, ?_, ?_, ?_⟩
    · rw [h.cellAt _ (by omega), Nat.mul_comm]; exact hf.1
    · rw [h.cellAt _ (by omega), Nat.mul_comm]; exact hf.2.1
    · rw [h.cellAt _ (by omega), Nat.mul_comm]; exact hf.2.2
theorem row1_at {w : World} {base : Nat} {v : Value} {C : List Int} {j : Nat} {c : Int} (h : w.ownsRow base 3 1 v C.length (C.map (Value.int .i64))) (hj : C[j]? = some c) :
    ∃ g cap, v = .slice (some ⟨g, 0, none⟩) C.length cap ∧ w.cell? ⟨g, j, none⟩ = some (.int .i64 c) := by
  have hlt : j < C.length := (List.getElem?_eq_some_iff.1 hj).1
  rcases h.2 with ⟨_, h0⟩ | ⟨g, cap, cur, rfl, _, hg, _, _, _, ht⟩
  · omega
  · refine ⟨g, cap, rfl, ?_⟩
    rw [h.cellAt j (by omega), List.getElem?_map, hj]
    rfl

set_option maxRecDepth 100000 in
set_option maxHeartbeats 2000000 in
theorem walk_yes (a0 : Option Addr) (n cap0 : Nat) (z0 : List Int) (a1 : Option Addr) (cap1 : Nat) (z1 : List Int) (a2 : Option Addr) (cap2 : Nat) (z2 : List Int) (w : World) (w0 : IsRow .i64 w a0 n cap0 z0) (w1 : IsRow .i64 w a1 n cap1 z1) (w2 : IsRow .i64 w a2 n cap2 z2) (hn : n ≤ 4096) :
    Calls Try.prog 5 #[.slice a0 n cap0, .slice a1 n cap1, .slice a2 n cap2] w fun e w' => e = .returned (.bool true) ∧ Below w.heap.size w w' := by
  have f0 := row_wf w0
  have f1 := row_wf w1
  have f2 := row_wf w2
  have W0 : Hid (IsRow .i64 w a0 n cap0 z0) := w0
  have W1 : Hid (IsRow .i64 w a1 n cap1 z1) := w1
  have W2 : Hid (IsRow .i64 w a2 n cap2 z2) := w2
  have WF : Hid (∀ i, i < n → wf3 (z0.getD i 0, z1.getD i 0, z2.getD i 0)) := fun i hi => ⟨f0 i hi, f1 i hi, f2 i hi⟩
  clear w0 w1 w2 f0 f1 f2
  go_enter Try.func5, Try.ntmps5
  go_wp2_with (first
    | (go_at_call 23; refine (bytes23 _ _ _ _ _ _ _ _ _ _ (by unfold maxLen; omega) (by unfold maxLen; omega) (by unfold maxLen; omega)).mono ?_; rintro e w' ⟨b, rfl, hb, hw⟩; obtain rfl : w = w' := hw.symm; cases b))
  all_goals try (go_ret; exact ⟨rfl, Below.refl _ _⟩)
  refine (copy14 _ _ _ _ _ W0.out (by omega)).mono ?_
  intro e wa h0
  obtain ⟨b0, e0, rfl, g0, g1, hc0, hbel0⟩ := copied_of (by omega) (row_len W0.out) h0
  clear h0
  have W1' : Hid (IsRow .i64 wa a1 n cap1 z1) := row_below W1.out hbel0
  go_wp2_with fail
  refine (copy11 _ _ _ _ _ W1'.out (by omega)).mono ?_
  intro e wb h0
  obtain ⟨b1, e1, rfl, g2, g3, hc1, hbel1⟩ := copied_of (by omega) (row_len W1.out) h0
  clear h0
  have W2' : Hid (IsRow .i64 wb a2 n cap2 z2) := row_below (row_below W2.out hbel0) hbel1
  go_wp2_with fail
  refine (copy14 _ _ _ _ _ W2'.out (by omega)).mono ?_
  intro e wc h0
  obtain ⟨b2, e2, rfl, g4, g5, hc2, hbel2⟩ := copied_of (by omega) (row_len W2.out) h0
  clear h0
  have HB : Hid (Below w.heap.size w wc) := (hbel0.trans (hbel1.mono hbel0.size)).trans (hbel2.mono (Nat.le_trans hbel0.size hbel1.size))
  have HC : Hid (0 < n → ∃ g0 g1 g2, b0 = some ⟨g0, 0, none⟩ ∧ b1 = some ⟨g1, 0, none⟩ ∧ b2 = some ⟨g2, 0, none⟩ ∧ ∀ i, i < n → wc.cell? ⟨g0, i, none⟩ = some (.int .i64 (z0.getD i 0)) ∧ wc.cell? ⟨g1, i, none⟩ = some (.int .i64 (z1.getD i 0)) ∧ wc.cell? ⟨g2, i, none⟩ = some (.int .i64 (z2.getD i 0))) := by
    intro hn0
    obtain ⟨g0, rfl, q0⟩ := hc0 hn0
    obtain ⟨g1, rfl, q1⟩ := hc1 hn0
    obtain ⟨g2, rfl, q2⟩ := hc2 hn0
    refine ⟨g0, g1, g2, rfl, rfl, rfl, fun i hi => ⟨?_, ?_, q2 i hi⟩⟩
    · have hl := block_lt_of_cell (q0 i hi)
      exact (hbel2.cell (p := ⟨g0, i, none⟩) (Nat.lt_of_lt_of_le hl hbel1.size)).trans ((hbel1.cell (p := ⟨g0, i, none⟩) hl).trans (q0 i hi))
    · exact (hbel2.cell (p := ⟨g1, i, none⟩) (block_lt_of_cell (q1 i hi))).trans (q1 i hi)
  clear hc0 hc1 hc2 hbel0 hbel1 hbel2 W0 W1 W2 W1' W2'
  go_wp2_with fail
  refine (tab24 wc).mono ?_
  rintro e wd ⟨rfl, rfl⟩
  go_wp2_with fail
  go_loopw [9, 10, 11] (fun v9 v10 v11 wr => Rel wc.heap.size wc n v9 v10 v11 wr) (fun _ _ i _ => n - (intOf i).toNat)
  case atStart => exact ⟨0, [], [], Nat.zero_le _, rfl, rfl, Nat.le_refl _, by simp, World.ownsRow_nil _ _ _ _, World.ownsRow_nil _ _ _ _, tab_start wc, (Below.refl _ _).alloc (Nat.le_refl _) _⟩
  case round =>
    obtain ⟨k, S, C, hk, rfl, hCS, hSk, hCb, hoS, hoC, hTI, hbel⟩ := hrel
    by_cases hlt : k < n
    · obtain ⟨p0, p1, p2, rfl, rfl, rfl, hcells⟩ := HC.out (by omega)
      have hck := hcells k hlt
      have l0 := block_lt_of_cell hck.1
      have l1 := block_lt_of_cell hck.2.1
      have l2 := block_lt_of_cell hck.2.2
      have d0 : wr.cell? ⟨p0, k, none⟩ = _ := (hbel.cell (by exact l0)).trans hck.1
      have d1 : wr.cell? ⟨p1, k, none⟩ = _ := (hbel.cell (by exact l1)).trans hck.2.1
      have d2 : wr.cell? ⟨p2, k, none⟩ = _ := (hbel.cell (by exact l2)).trans hck.2.2
      have hx := WF.out k hlt
      generalize z0.getD k 0 = x0 at *
      generalize z1.getD k 0 = x1 at *
      generalize z2.getD k 0 = x2 at *
      have hsz := hbel.size
      simp only at l0 l1 l2
      have HH : Hid (∀ W1, Below wr.heap.size wr W1 → W1.heap[wr.heap.size]? = some (.cells #[.int .i64 x0, .int .i64 x1, .int .i64 x2] 58 (0, 0)) → St wc W1 u9 u10 S C S C k (x0, x1, x2) wr.heap.size) := fun W1 hb hl =>
        ⟨row_kept hoS (fun k cur _ hk => hb.block k (lt_of_block hk)), row_kept hoC (fun k cur _ hk => hb.block k (lt_of_block hk)), TInv.below hTI hb, hbel.trans (hb.mono hbel.size), hl⟩
      have HX : Hid (wf3 (x0, x1, x2)) := hx
      have HK : Hid (C.length = S.length ∧ (∀ c ∈ C, 0 ≤ c ∧ c ≤ k)) := ⟨hCS, hCb⟩
      clear hCS hCb hoS hoC hTI hbel hx hcells hck
      have hki : (k : Int) < (n : Int) := by omega
      have hk0 : (0 : Int) ≤ (k : Int) := by omega
      go_wp2
      go_region_held3 (fun w' => w'.cell? ⟨p0, k, none⟩ = some (.int .i64 x0) ∧ w'.cell? ⟨p1, k, none⟩ = some (.int .i64 x1) ∧ w'.cell? ⟨p2, k, none⟩ = some (.int .i64 x2)) (go_keep) (fail)
      go_wp2
      refine wp_gen (fun W => St wc W u9 u10 S C S C k (x0, x1, x2) wr.heap.size ∧ Below wr.heap.size wr W) (by
        have hb : Below wr.heap.size wr (wr.alloc (.cells #[.int .i64 x0, .int .i64 x1, .int .i64 x2] 58)).drew := ((Below.refl _ _).alloc (Nat.le_refl _) _).drew
        exact ⟨HH.out _ hb (heap_alloc_new wr _), hb⟩) ?_
      intro W hW
      obtain ⟨hSt, hbW⟩ := hW
      have HSt : Hid (St wc W u9 u10 S C S C k (x0, x1, x2) wr.heap.size) := hSt
      have r0 : W.cell? ⟨p0, k, none⟩ = _ := (hbW.cell (by show p0 < _; omega)).trans d0
      have r1 : W.cell? ⟨p1, k, none⟩ = _ := (hbW.cell (by show p1 < _; omega)).trans d1
      have r2 : W.cell? ⟨p2, k, none⟩ = _ := (hbW.cell (by show p2 < _; omega)).trans d2
      have hWs : wr.heap.size ≤ W.heap.size := hbW.size
      clear hSt hbW d0 d1 d2 HH
      go_region_held3 (fun w' => w'.cell? ⟨p0, k, none⟩ = some (.int .i64 x0) ∧ w'.cell? ⟨p1, k, none⟩ = some (.int .i64 x1) ∧ w'.cell? ⟨p2, k, none⟩ = some (.int .i64 x2)) (go_keep)
        (first
          | (go_at_call 21; refine (lim21 _ _ _ _).mono ?_; rintro e wl ⟨rfl, hb21⟩; have hb2 : Below W.heap.size W wl := ⟨hb21.os, hb21.tape, hb21.output, hb21.size, hb21.block⟩; have q0 : wl.cell? ⟨p0, k, none⟩ = some (.int .i64 x0) := (hb21.cell (by show p0 < W.heap.size; omega)).trans r0; have q1 : wl.cell? ⟨p1, k, none⟩ = some (.int .i64 x1) := (hb21.cell (by show p1 < W.heap.size; omega)).trans r1; have q2 : wl.cell? ⟨p2, k, none⟩ = some (.int .i64 x2) := (hb21.cell (by show p2 < W.heap.size; omega)).trans r2; clear r0 r1 r2)
          | (go_at_call 25; refine (acq1 wc.heap.size wc.heap.size S C k (x0, x1, x2) wl (HSt.out.below hb2).tab HX.out HK.out.1 (fun c hc => by have := HK.out.2 c hc; omega) (by omega) (by omega)).mono ?_; rintro e wm ⟨rfl, hTm, hFm⟩; have t0 : wm.cell? ⟨p0, k, none⟩ = some (.int .i64 x0) := (World.cell?_of_block (hFm.block p0 (by omega))).trans q0; have t1 : wm.cell? ⟨p1, k, none⟩ = some (.int .i64 x1) := (World.cell?_of_block (hFm.block p1 (by omega))).trans q1; have t2 : wm.cell? ⟨p2, k, none⟩ = some (.int .i64 x2) := (World.cell?_of_block (hFm.block p2 (by omega))).trans q2))
      have hS2 := (HSt.out.below hb2).fr hFm hTm
      obtain ⟨m0, m1, m2⟩ := hS2.cells
      have HS2 : Hid (St wc wm u9 u10 S C (seen' S (x0, x1, x2)) (cnt' S C (x0, x1, x2)) (k + 1) (x0, x1, x2) wr.heap.size) := hS2
      clear hS2 HSt q0 q1 q2 t0 t1 t2 hTm hFm hb2 hb21
      go_wp2_with fail
      refine (find26 wc.heap.size u9 S (x0, x1, x2) _ HS2.out.rS (by omega)).mono ?_
      rintro e wf ⟨rfl, hbf⟩
      have hS3 := HS2.out.below hbf
      obtain ⟨f0, f1, f2⟩ := hS3.cells
      have HS3 : Hid (St wc wf u9 u10 S C (seen' S (x0, x1, x2)) (cnt' S C (x0, x1, x2)) (k + 1) (x0, x1, x2) wr.heap.size) := hS3
      clear hS3 hbf HS2 m0 m1 m2
      cases hi : idx S (x0, x1, x2) with
      | none =>
        rw [place_none hi]
        have HI : Hid (idx S (x0, x1, x2) = none) := hi
        have hrC : wf.ownsRow wc.heap.size 3 1 u10 S.length (C.map (Value.int .i64)) := by rw [← HK.out.1]; exact HS3.out.rC
        have HRC : Hid (wf.ownsRow wc.heap.size 3 1 u10 S.length (C.map (Value.int .i64))) := hrC
        rw [num_none hi]
        clear hi hrC
        obtain ⟨i0, hi, hz0, hz1, hz2⟩ := info_parts info58
        obtain ⟨i3, hi3, hz30, hz31, hz32⟩ := info_parts info3
        go_wp2_with (first
          | (at_builtin; refine wpList_append_lies _ rfl _ _ 56 rfl wc.heap.size 58 i0 (.agg #[.int .i64 0, .int .i64 0, .int .i64 0]) 3 24 Try.underlying56 hi hz0 hz1 hz2 rfl (by decide) _ S.length (flat3 S) rfl (by exact HS3.out.rS.alloc _) _ 1 1 [.int .i64 x0, .int .i64 x1, .int .i64 x2] rfl rfl (by exact World.news_of_block (cs := #[.int .i64 x0, .int .i64 x1, .int .i64 x2]) (heap_alloc_new _ _)) (by simp [Value.oneCell']) (by decide) (by unfold maxLen; omega) (by omega) (by have := HS3.out.bel.size; simp; omega) _ rfl ?_; intro g9 cap9 wp hown9 hgrow9 hat9 hlt9)
          | (at_builtin; refine wpList_append_lies _ rfl _ _ 26 rfl wc.heap.size 3 i3 (.int .i64 0) 1 8 Try.underlying26 hi3 hz30 hz31 hz32 rfl (by decide) _ S.length (C.map (Value.int .i64)) rfl (by exact ((Oth.grown (HS3.out.rS.alloc _) hgrow9).row (HRC.out.alloc _) (by decide)).alloc _) _ 1 1 [.int .i64 0] rfl rfl (by exact World.news_of_block (cs := #[.int .i64 0]) (heap_alloc_new _ _)) (by simp [Value.oneCell']) (by decide) (by unfold maxLen; omega) (by omega) (by have h1 := HS3.out.bel.size; have h2 := hgrow9.size; simp at h2; simp; omega) _ rfl ?_; intro g10 cap10 wq hown10 hgrow10 hat10 hlt10; have c10 := hown10.cellAt S.length (by omega); have fz10 := hown10.frozenAt S.length; rw [List.getElem?_append_right (by rw [List.length_map, HK.out.1]; exact Nat.le_refl _), List.length_map, HK.out.1, Nat.sub_self] at c10; simp only [List.getElem?_cons_zero] at c10))
        have hst := HS3.out
        rw [seen_none HI.out, cnt_none HI.out] at hst
        go_roundw
        case rel => exact round_new hst HK.out.1 HK.out.2 hSk hlt hown9 hgrow9 hown10 hgrow10
        case measure => simp [intOf]; omega
      | some j =>
        obtain ⟨hjS, hSj⟩ := idx_lt hi
        have hst := HS3.out
        rw [seen_some hi, cnt_some hi] at hst
        have hCS := HK.out.1
        obtain ⟨gC, capC, curC, rfl, hbC, hgC, hnC, hmC, hcsC, htC⟩ : ∃ g cap cur, u10 = .slice (some ⟨g, 0, none⟩) C.length cap ∧ wc.heap.size ≤ g ∧ wf.heap[g]? = some (.cells cur 3 (0, 0)) ∧ C.length ≤ cap ∧ cap ≤ maxLen ∧ cur.size = cap * 1 ∧ cur.toList.take (C.length * 1) = C.map (Value.int .i64) := by
          rcases hst.rC.2 with ⟨_, h0⟩ | h
          · omega
          · exact h
        have c10 := hst.rC.cellAt j (by omega)
        have fz10 := hst.rC.frozenAt j
        have hCj : C[j]? = some (C.getD j 0) := by rw [List.getD_eq_getElem?_getD, List.getElem?_eq_getElem (by omega)]; simp
        rw [List.getElem?_map, hCj] at c10
        simp only [Option.map_some] at c10
        have hcb := HK.out.2 _ (List.mem_of_getElem? hCj)
        have hj1 : (j : Int) < (C.length : Int) := by omega
        obtain ⟨c, hc⟩ : ∃ c, C.getD j 0 = c := ⟨_, rfl⟩
        rw [hc] at c10 hcb
        have HC' : Hid (C.getD j 0 = c) := hc
        have HST : Hid _ := hst
        rw [place_some hi, num_some hi]
        clear hi hst hgC htC hcsC hc hCj hCS hSj
        go_wp2_with fail
        go_roundw
        case rel => exact round_old HST.out HK.out.1 HK.out.2 hSk hlt hjS HC'.out
        case measure => simp [intOf]; omega
    · have : k = n := by omega
      subst this
      clear HC WF
      obtain ⟨wz, hwz⟩ : ∃ wz, wz = wr := ⟨_, rfl⟩
      subst hwz
      have HSK : Hid (C.length = S.length) := hCS
      have HSt : Hid (wz.ownsRow wc.heap.size 58 3 u9 S.length (flat3 S) ∧ wz.ownsRow wc.heap.size 3 1 u10 C.length (C.map (Value.int .i64)) ∧ TInv wz wc.heap.size wc.heap.size (S.zip C) (idx S) [] k ∧ Below wc.heap.size wc wz) := ⟨hoS, hoC, hTI, hbel⟩
      obtain ⟨a9, c9, rfl⟩ := row_form hoS
      clear hoS hoC hTI hbel hCS
      go_wp2_with (first
        | (go_at_call 27; refine (len27' _ _ _ _ _ _ _ _ HSt.out.2.2.1 HSK.out).mono ?_; rintro e w' ⟨rfl, hw⟩; obtain rfl : wz = w' := hw.symm)
        | (go_at_call 28; refine (len28 _ _ _ _ _ _ _ HSt.out.2.2.1).mono ?_; rintro e w' ⟨rfl, hw⟩; obtain rfl : wz = w' := hw.symm))
      go_loopw [16] (fun v wx => ∃ j : Nat, j ≤ S.length ∧ v = .int .i64 j ∧ Below wz.heap.size wz wx) (fun v _ => S.length - (intOf v).toNat)
      case atStart => exact ⟨0, Nat.zero_le _, rfl, Below.refl _ _⟩
      case round =>
        obtain ⟨j, hj, rfl, hbx⟩ := hrel
        by_cases hlt2 : j < S.length
        · obtain ⟨⟨y0, y1, y2⟩, hy⟩ : ∃ y, S[j]? = some y := ⟨_, List.getElem?_eq_getElem hlt2⟩
          obtain ⟨c, hc⟩ : ∃ c, C[j]? = some c := ⟨_, List.getElem?_eq_getElem (by have := HSK.out; omega)⟩
          obtain ⟨gS, rfl, s0, s1, s2⟩ := row3_at HSt.out.1 hy
          obtain ⟨gC, capC, rfl, s3⟩ := row1_at HSt.out.2.1 hc
          have lS := block_lt_of_cell s0
          have lC := block_lt_of_cell s3
          simp only at lS lC
          have hz : (S.zip C)[j]? = some ((y0, y1, y2), c) := by rw [List.getElem?_zip_eq_some]; exact ⟨hy, hc⟩
          have HZ : Hid ((S.zip C)[j]? = some ((y0, y1, y2), c)) := hz
          have HL : Hid ((S.zip C).length ≤ 1048576) := by show (S.zip C).length ≤ 1048576; simp; omega
          have hCl : (j : Int) < (C.length : Int) := by have := HSK.out; omega
          clear hz hy hc
          go_wp2_with (go_at_call 29; refine (at29 wc.heap.size wc.heap.size _ _ _ _ j y0 y1 y2 c _ (TInv.below HSt.out.2.2.1 hbx) HZ.out HL.out).mono ?_; rintro e wk ⟨rfl, hbk⟩; have hbk' := hbx.trans (hbk.mono hbx.size); have t0 := (hbk'.cell (p := ⟨gS, j * 3, none⟩) lS).trans s0; have t1 := (hbk'.cell (p := ⟨gS, j * 3 + 1, none⟩) lS).trans s1; have t2 := (hbk'.cell (p := ⟨gS, j * 3 + 2, none⟩) lS).trans s2; have t3 := (hbk'.cell (p := ⟨gC, j, none⟩) lC).trans s3; clear s0 s1 s2 s3)
          go_roundw
          case rel => exact ⟨j + 1, by omega, by go_num, hbk'⟩
          case measure => simp [intOf]; omega
        · go_wp2_with fail
          go_ret
          exact ⟨rfl, HB.out.trans ((HSt.out.2.2.2.trans (hbx.mono HSt.out.2.2.2.size)).mono HB.out.size)⟩
end Go.Proofs.Qxb6605674a.B1
