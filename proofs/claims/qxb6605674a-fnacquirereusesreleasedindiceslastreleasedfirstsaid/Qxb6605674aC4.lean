import Derived.Test.Qxb6605674aC2
import Derived.Test.Qxb6605674aB1
set_option linter.unusedVariables false
set_option linter.unusedSimpArgs false
namespace Go.Proofs.Qxb6605674a.C4
open Go.RowKit Go.Proofs.Qxb6605674a.A2 Go.Proofs.Qxb6605674a.A4 Go.Proofs.Qxb6605674a.A3 Go.Proofs.Qxb6605674a.A5 Go.Proofs.Qxb6605674a.A6 Go.Proofs.Qxb6605674a.A7 Go.Proofs.Qxb6605674a.A8 Go.Proofs.Qxb6605674a.A9 Go.Proofs.Qxb6605674a.B0 Go.Proofs.Qxb6605674a.B2 Go.Proofs.Qxb6605674a.C1 Go.Proofs.Qxb6605674a.C2

def u32s (K : List Nat) : List Value := K.map (fun (l : Nat) => Value.int .u32 (l : Int))
def i64s (P : List Nat) : List Value := P.map (fun (l : Nat) => Value.int .i64 (l : Int))

/-- The rows of the law's own: the stack K, the limits seen S, their places P, their counts C. -/
structure Rows4 (wc W : World) (v15 v18 v19 v20 : Value) (S : List Lim) (P : List Nat) (C : List Int) (K : List Nat) : Prop where
  rK : W.ownsRow wc.heap.size 29 1 v15 K.length (u32s K)
  rS : W.ownsRow wc.heap.size 58 3 v18 S.length (flat3 S)
  rP : W.ownsRow wc.heap.size 3 1 v19 S.length (i64s P)
  rC : W.ownsRow wc.heap.size 3 1 v20 S.length (C.map (Value.int .i64))
  dist : v19.ownBlock = none ∨ v19.ownBlock ≠ v20.ownBlock
  bel : Below wc.heap.size wc W

def Rel2 (wc : World) (T n : Nat) (v15 v17 v18 v19 v20 v21 : Value) (wr : World) : Prop :=
  ∃ (k : Nat) (S : List Lim) (P : List Nat) (C : List Int) (K : List Nat) (L : List (Lim × Int)), k ≤ n ∧ v21 = .int .i64 k ∧ v17 = .int .i64 L.length ∧ M2 S P C K L k ∧ S.length ≤ k ∧ L.length ≤ 65536 + k ∧ K.length ≤ 65536 ∧
    Rows4 wc wr v15 v18 v19 v20 S P C K ∧ TInv wr T wc.heap.size L (f2 S P) K k ∧ HasMap wr T

/-- Inside a round: the table holds L', K' already; the round's limit x lies in block bl. -/
structure St2 (wc W : World) (T : Nat) (v15 v18 v19 v20 : Value) (S : List Lim) (P : List Nat) (C : List Int) (K : List Nat) (L' : List (Lim × Int)) (f' : Lim → Option Nat) (K' : List Nat) (k' : Nat) (x : Lim) (bl : Nat) : Prop where
  rows : Rows4 wc W v15 v18 v19 v20 S P C K
  tab : TInv W T wc.heap.size L' f' K' k'
  lim : W.heap[bl]? = some (.cells #[.int .i64 x.1, .int .i64 x.2.1, .int .i64 x.2.2] 58 (0, 0))

theorem Rows4.below {wc W W1 : World} {v15 v18 v19 v20 : Value} {S : List Lim} {P : List Nat} {C : List Int} {K : List Nat} (h : Rows4 wc W v15 v18 v19 v20 S P C K) (hb : Below W.heap.size W W1) : Rows4 wc W1 v15 v18 v19 v20 S P C K :=
  ⟨row_kept h.rK (fun k cur _ hk => hb.block k (lt_of_block hk)), row_kept h.rS (fun k cur _ hk => hb.block k (lt_of_block hk)), row_kept h.rP (fun k cur _ hk => hb.block k (lt_of_block hk)), row_kept h.rC (fun k cur _ hk => hb.block k (lt_of_block hk)), h.dist, h.bel.trans (hb.mono h.bel.size)⟩
theorem Rows4.fr {wc W W1 : World} {v15 v18 v19 v20 : Value} {S : List Lim} {P : List Nat} {C : List Int} {K : List Nat} (h : Rows4 wc W v15 v18 v19 v20 S P C K) (hf : Fr wc.heap.size W W1) : Rows4 wc W1 v15 v18 v19 v20 S P C K :=
  ⟨row_kept h.rK (fun k cur _ hk => (hf.rest k cur _ hk (by decide) (by decide)).trans hk.symm), row_kept h.rS (fun k cur _ hk => (hf.rest k cur _ hk (by decide) (by decide)).trans hk.symm), row_kept h.rP (fun k cur _ hk => (hf.rest k cur _ hk (by decide) (by decide)).trans hk.symm), row_kept h.rC (fun k cur _ hk => (hf.rest k cur _ hk (by decide) (by decide)).trans hk.symm), h.dist, h.bel.trans ⟨hf.os, hf.tape, hf.output, hf.size, hf.block⟩⟩
theorem St2.below {wc W W1 : World} {T : Nat} {v15 v18 v19 v20 : Value} {S : List Lim} {P : List Nat} {C : List Int} {K : List Nat} {L' : List (Lim × Int)} {f' : Lim → Option Nat} {K' : List Nat} {k' : Nat} {x : Lim} {bl : Nat} (h : St2 wc W T v15 v18 v19 v20 S P C K L' f' K' k' x bl) (hb : Below W.heap.size W W1) : St2 wc W1 T v15 v18 v19 v20 S P C K L' f' K' k' x bl :=
  ⟨h.rows.below hb, TInv.below h.tab hb, (hb.block bl (lt_of_block h.lim)).trans h.lim⟩
theorem St2.fr {wc W W1 : World} {T : Nat} {v15 v18 v19 v20 : Value} {S : List Lim} {P : List Nat} {C : List Int} {K : List Nat} {L' : List (Lim × Int)} {f' : Lim → Option Nat} {K' : List Nat} {k' : Nat} {x : Lim} {bl : Nat} (h : St2 wc W T v15 v18 v19 v20 S P C K L' f' K' k' x bl) {L2 : List (Lim × Int)} {f2' : Lim → Option Nat} {K2 : List Nat} {k2 : Nat} (hf : Fr wc.heap.size W W1) (ht : TInv W1 T wc.heap.size L2 f2' K2 k2) : St2 wc W1 T v15 v18 v19 v20 S P C K L2 f2' K2 k2 x bl :=
  ⟨h.rows.fr hf, ht, hf.rest bl _ _ h.lim (by decide) (by decide)⟩
theorem St2.cells {wc W : World} {T : Nat} {v15 v18 v19 v20 : Value} {S : List Lim} {P : List Nat} {C : List Int} {K : List Nat} {L' : List (Lim × Int)} {f' : Lim → Option Nat} {K' : List Nat} {k' : Nat} {x0 x1 x2 : Int} {bl : Nat} (h : St2 wc W T v15 v18 v19 v20 S P C K L' f' K' k' (x0, x1, x2) bl) :
    W.cell? ⟨bl, 0, none⟩ = some (.int .i64 x0) ∧ W.cell? ⟨bl, 1, none⟩ = some (.int .i64 x1) ∧ W.cell? ⟨bl, 2, none⟩ = some (.int .i64 x2) := by
  refine ⟨?_, ?_, ?_⟩ <;> rw [cell_of_row W bl _ _ _ _ h.lim] <;> rfl

theorem u32s_snoc (K : List Nat) (l : Nat) : u32s (K ++ [l]) = u32s K ++ [.int .u32 l] := by simp [u32s]
theorem i64s_snoc (P : List Nat) (l : Nat) : i64s (P ++ [l]) = i64s P ++ [.int .i64 l] := by simp [i64s]

/-- The rows behind the three appends and the count. -/
theorem rows_new {wc wf w1 w2 w3 : World} {v15 v18 v19 v20 v18' : Value} {S : List Lim} {P : List Nat} {C : List Int} {K : List Nat} {x : Lim} {l g19 cap19 g20 cap20 : Nat} {o1 o2 o3 : Obj} {L' : List (Lim × Int)} {f' : Lim → Option Nat} {K' : List Nat} {k' T bl : Nat}
    (h : St2 wc wf T v15 v18 v19 v20 S P C K L' f' K' k' x bl) (hC : C.length = S.length)
    (h1 : w1.ownsRow wc.heap.size 58 3 v18' (S.length + 1) (flat3 S ++ [.int .i64 x.1, .int .i64 x.2.1, .int .i64 x.2.2])) (g1 : (wf.alloc o1).grownBy w1 v18.ownBlock)
    (h2 : w2.ownsRow wc.heap.size 3 1 (.slice (some ⟨g19, 0, none⟩) (S.length + 1) cap19) (S.length + 1) (i64s P ++ [.int .i64 l])) (g2 : (w1.alloc o2).grownBy w2 v19.ownBlock) (at2 : v19.ownBlock = some g19 ∨ g19 = w1.heap.size + 1) (lt2 : g19 < w2.heap.size)
    (h3 : w3.ownsRow wc.heap.size 3 1 (.slice (some ⟨g20, 0, none⟩) (S.length + 1) cap20) (S.length + 1) (C.map (Value.int .i64) ++ [.int .i64 0])) (g3 : (w2.alloc o3).grownBy w3 v20.ownBlock) (at3 : v20.ownBlock = some g20 ∨ g20 = w2.heap.size + 1) :
    g19 ≠ g20 ∧ w3.ownsRow wc.heap.size 3 1 (.slice (some ⟨g19, 0, none⟩) (S.length + 1) cap19) (S.length + 1) (i64s P ++ [.int .i64 l]) ∧
    Rows4 wc (w3.setCell ⟨g20, S.length, none⟩ (.int .i64 1)) v15 v18' (.slice (some ⟨g19, 0, none⟩) (S.length + 1) cap19) (.slice (some ⟨g20, 0, none⟩) (S.length + 1) cap20) (S ++ [x]) (P ++ [l]) (C ++ [1]) K ∧
    TInv (w3.setCell ⟨g20, S.length, none⟩ (.int .i64 1)) T wc.heap.size L' f' K' k' := by
  have b1 : Below wf.heap.size wf (wf.alloc o1) := (Below.refl _ _).alloc (Nat.le_refl _) _
  have s1 := h.below b1
  have O1 := Oth.grown s1.rows.rS g1
  have B1 : Below wc.heap.size wc w1 := s1.rows.bel.grown g1 s1.rows.bel.size (fun q hq => (s1.rows.rS.lt q hq).1)
  have sz1 : wf.heap.size + 1 ≤ w1.heap.size := by have := g1.size; simpa using this
  -- behind the first append
  have K1 := O1.row s1.rows.rK (by decide)
  have P1 := (O1.row s1.rows.rP (by decide)).alloc o2
  have C1 := (O1.row s1.rows.rC (by decide)).alloc o2
  have T1 := TInv.below (O1.tab s1.tab (by decide) (by decide) (by decide)) ((Below.refl _ _).alloc (Nat.le_refl w1.heap.size) o2)
  -- behind the second
  have O2 := Oth.grown P1 g2
  have B2 : Below wc.heap.size wc w2 := (B1.trans (((Below.refl _ w1).alloc (Nat.le_refl w1.heap.size) o2).mono B1.size)).grown g2 (by have := B1.size; simp; omega) (fun q hq => (P1.lt q hq).1)
  have sz2 : w1.heap.size + 1 ≤ w2.heap.size := by have := g2.size; simpa using this
  have K2 := (O2.row (K1.alloc o2) (by decide)).alloc o3
  have S2 := (O2.row (h1.alloc o2) (by decide)).alloc o3
  have hdist : v20.ownBlock = none ∨ v20.ownBlock ≠ v19.ownBlock := by
    cases hv : v20.ownBlock with
    | none => exact .inl rfl
    | some q =>
      refine .inr (fun e => ?_)
      rcases h.rows.dist with hd | hd
      · rw [hd] at e; cases e
      · exact hd (e.symm.trans hv.symm)
  have C2 := (C1.kept g2 hdist).alloc o3
  have T2 := TInv.below (O2.tab T1 (by decide) (by decide) (by decide)) ((Below.refl _ _).alloc (Nat.le_refl w2.heap.size) o3)
  have P2 := h2.alloc o3
  -- behind the third
  have hne : g19 ≠ g20 := by
    intro e
    rcases at3 with e3 | e3
    · rcases at2 with e2 | e2
      · rcases h.rows.dist with hd | hd
        · rw [hd] at e2; cases e2
        · exact hd (by rw [e2, e3, e])
      · have := (h.rows.rC.lt g20 e3).2
        omega
    · omega
  have O3 := Oth.grown C2 g3
  have B3 : Below wc.heap.size wc w3 := (B2.trans (((Below.refl _ w2).alloc (Nat.le_refl w2.heap.size) o3).mono B2.size)).grown g3 (by have := B2.size; simp; omega) (fun q hq => (C2.lt q hq).1)
  have K3 := O3.row K2 (by decide)
  have S3 := O3.row S2 (by decide)
  have P3 : w3.ownsRow wc.heap.size 3 1 (.slice (some ⟨g19, 0, none⟩) (S.length + 1) cap19) (S.length + 1) (i64s P ++ [.int .i64 l]) := P2.kept g3 (.inr (fun e => by
    have e' : v20.ownBlock = some g19 := e.symm
    rcases at3 with e3 | e3
    · rw [e3] at e'; cases e'; exact hne rfl
    · rcases at2 with e2 | e2
      · rcases hdist with hd | hd
        · rw [hd] at e'; cases e'
        · exact hd (e'.trans e2.symm)
      · have := (h.rows.rC.lt g19 e').2
        omega))
  have T3 := O3.tab T2 (by decide) (by decide) (by decide)
  obtain ⟨r4, g4⟩ := h3.stored S.length (.int .i64 1)
  have O4 := Oth.grown (v := .slice (some ⟨g20, 0, none⟩) (S.length + 1) cap20) h3 g4
  have e4 : (C.map (Value.int .i64) ++ [Value.int .i64 0]).set S.length (.int .i64 1) = (C ++ [1]).map (Value.int .i64) := by
    rw [← hC, List.set_append_right _ _ (by simp)]
    simp
  rw [e4] at r4
  refine ⟨hne, P3, ⟨O4.row K3 (by decide), ?_, ?_, ?_, ?_, ?_⟩, O4.tab T3 (by decide) (by decide) (by decide)⟩
  · have := O4.row S3 (by decide)
    rw [Go.Proofs.Qxb6605674a.B1.flat3_snoc]
    simpa using this
  · have := P3.kept g4 (.inr (by simp [Value.ownBlock, hne]))
    rw [i64s_snoc]
    simpa using this
  · simpa using r4
  · exact .inr (by simp [Value.ownBlock, hne])
  · exact B3.grown g4 B3.size (fun q hq => by cases hq; exact (h3.lt g20 rfl).1)
theorem rows_old {wc wf : World} {v15 v18 v19 : Value} {S : List Lim} {P : List Nat} {C : List Int} {K : List Nat} {x : Lim} {j g20 cap20 : Nat} {c : Int} {L' : List (Lim × Int)} {f' : Lim → Option Nat} {K' : List Nat} {k' T bl : Nat}
    (h : St2 wc wf T v15 v18 v19 (.slice (some ⟨g20, 0, none⟩) S.length cap20) S P C K L' f' K' k' x bl) :
    Rows4 wc (wf.setCell ⟨g20, j, none⟩ (.int .i64 c)) v15 v18 v19 (.slice (some ⟨g20, 0, none⟩) S.length cap20) S P (C.set j c) K ∧
    TInv (wf.setCell ⟨g20, j, none⟩ (.int .i64 c)) T wc.heap.size L' f' K' k' := by
  obtain ⟨r4, g4⟩ := h.rows.rC.stored j (.int .i64 c)
  have O4 := Oth.grown (v := .slice (some ⟨g20, 0, none⟩) S.length cap20) h.rows.rC g4
  refine ⟨⟨O4.row h.rows.rK (by decide), O4.row h.rows.rS (by decide), h.rows.rP.kept g4 h.rows.dist, ?_, h.rows.dist, h.rows.bel.grown g4 h.rows.bel.size (fun q hq => by cases hq; exact (h.rows.rC.lt g20 rfl).1)⟩, O4.tab h.tab (by decide) (by decide) (by decide)⟩
  rw [List.map_set]
  exact r4
end Go.Proofs.Qxb6605674a.C4
