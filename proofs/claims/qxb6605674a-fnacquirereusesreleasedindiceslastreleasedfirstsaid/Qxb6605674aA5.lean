import Derived.Test.Qxb6605674aA4
import Derived.BigQuiet
set_option linter.unusedVariables false
set_option linter.unusedSimpArgs false
namespace Go.Proofs.Qxb6605674a.A5
open Go.RowKit Go.Proofs.Qxb6605674a.A4 Go.Proofs.Qxb6605674a.A3

def c4 (y : (Int × Int × Int) × Int) : List Value := [.int .i64 y.1.1, .int .i64 y.1.2.1, .int .i64 y.1.2.2, .int .i64 y.2]
def flat4 (L : List ((Int × Int × Int) × Int)) : List Value := L.flatMap c4
theorem flat4_len (L : List ((Int × Int × Int) × Int)) : (flat4 L).length = L.length * 4 := by
  induction L with
  | nil => rfl
  | cons x r ih => simp [flat4, c4] at ih ⊢; omega
theorem flat4_at (L : List ((Int × Int × Int) × Int)) (k : Nat) (y : (Int × Int × Int) × Int) (hk : L[k]? = some y) :
    (flat4 L)[k * 4]? = some (.int .i64 y.1.1) ∧ (flat4 L)[k * 4 + 1]? = some (.int .i64 y.1.2.1) ∧ (flat4 L)[k * 4 + 2]? = some (.int .i64 y.1.2.2) ∧ (flat4 L)[k * 4 + 3]? = some (.int .i64 y.2) := by
  induction L generalizing k with
  | nil => simp at hk
  | cons z r ih =>
    cases k with
    | zero => simp at hk; subst hk; simp [flat4, c4]
    | succ k =>
      have h := ih k (by simpa using hk)
      have e : ∀ j, (flat4 (z :: r))[j + 4]? = (flat4 r)[j]? := fun j => by simp [flat4, c4]
      rw [show (k + 1) * 4 = k * 4 + 4 by omega, show k * 4 + 4 + 1 = (k * 4 + 1) + 4 by omega, show k * 4 + 4 + 2 = (k * 4 + 2) + 4 by omega, show k * 4 + 4 + 3 = (k * 4 + 3) + 4 by omega, e, e, e, e]
      exact h
theorem flat4_set (L : List ((Int × Int × Int) × Int)) (k : Nat) (y : (Int × Int × Int) × Int) (hk : k < L.length) :
    flat4 (L.set k y) = ((((flat4 L).set (k * 4) (.int .i64 y.1.1)).set (k * 4 + 1) (.int .i64 y.1.2.1)).set (k * 4 + 2) (.int .i64 y.1.2.2)).set (k * 4 + 3) (.int .i64 y.2) := by
  induction L generalizing k with
  | nil => simp at hk
  | cons z r ih =>
    cases k with
    | zero => simp [flat4, c4]
    | succ k =>
      have h := ih k (by simpa using hk)
      have e : ∀ l, flat4 (z :: l) = c4 z ++ flat4 l := fun l => by simp [flat4]
      rw [List.set_cons_succ, e, e, h]
      simp [c4, show (k + 1) * 4 = k * 4 + 4 by omega, show k * 4 + 4 + 1 = (k * 4 + 1) + 4 by omega, show k * 4 + 4 + 2 = (k * 4 + 2) + 4 by omega, show k * 4 + 4 + 3 = (k * 4 + 3) + 4 by omega]
theorem flat4_app (L K : List ((Int × Int × Int) × Int)) : flat4 (L ++ K) = flat4 L ++ flat4 K := by simp [flat4]
theorem flat4_bump (L : List ((Int × Int × Int) × Int)) (k : Nat) (y : (Int × Int × Int) × Int) (hk : L[k]? = some y) (c : Int) :
    flat4 (L.set k (y.1, c)) = (flat4 L).set (k * 4 + 3) (.int .i64 c) := by
  obtain ⟨hlt, _⟩ := List.getElem?_eq_some_iff.1 hk
  have hf := flat4_at L k y hk
  rw [flat4_set L k _ hlt]
  have e : ∀ (l : List Value) (j : Nat) (u : Value), l[j]? = some u → l.set j u = l := fun l j u h => by
    obtain ⟨h1, h2⟩ := List.getElem?_eq_some_iff.1 h
    rw [← h2, List.set_getElem_self]
  rw [e _ _ _ hf.1, e _ _ _ hf.2.1, e _ _ _ hf.2.2.1]

/-- The table's own memory: block T holds its header; L its limits with their counts, f its index, F its free list (the last is taken first). -/
def TInv (w : World) (T base : Nat) (L : List ((Int × Int × Int) × Int)) (f : Int × Int × Int → Option Nat) (F : List Nat) (N : Nat) : Prop :=
  ∃ vL vM vF, w.heap[T]? = some (.cells #[.slice none 0 0, .slice none 0 0, .int .i64 0, .int .i64 0, vL, vM, vF] 84 (0, 0)) ∧ base ≤ T ∧
    w.ownsRow base 90 4 vL L.length (flat4 L) ∧ w.ownsRow base 29 1 vF F.length (F.map (fun (l : Nat) => Value.int .u32 (l : Int))) ∧
    ((vM = .map none ∧ ∀ x, f x = none) ∨ ∃ M, vM = .map (some M) ∧ base ≤ M ∧ IdxMap w M N f)

/-- What the table's functions leave of all other memory. -/
structure Fr (base : Nat) (w w' : World) : Prop where
  os : w'.os = w.os
  tape : w'.tape = w.tape
  output : w'.output = w.output
  size : w.heap.size ≤ w'.heap.size
  block : ∀ k, k < base → w'.heap[k]? = w.heap[k]?
  rest : ∀ (k : Nat) (cs : Array Value) (e : TypeId), w.heap[k]? = some (.cells cs e (0, 0)) → e ≠ 84 → e ≠ 90 → w'.heap[k]? = some (.cells cs e (0, 0))

theorem Fr.refl (base : Nat) (w : World) : Fr base w w := ⟨rfl, rfl, rfl, Nat.le_refl _, fun _ _ => rfl, fun _ _ _ h _ _ => h⟩
theorem Fr.trans {base : Nat} {a b c : World} (h : Fr base a b) (k : Fr base b c) : Fr base a c :=
  ⟨k.os.trans h.os, k.tape.trans h.tape, k.output.trans h.output, Nat.le_trans h.size k.size, fun i hi => (k.block i hi).trans (h.block i hi), fun i cs e hi h1 h2 => k.rest i cs e (h.rest i cs e hi h1 h2) h1 h2⟩
theorem Fr.drewN {base : Nat} {a w : World} (h : Fr base a w) (n : Nat) : Fr base a (w.drewN n) := ⟨h.os, h.tape, h.output, h.size, h.block, h.rest⟩
theorem Fr.drew {base : Nat} {a w : World} (h : Fr base a w) : Fr base a w.drew := ⟨h.os, h.tape, h.output, h.size, h.block, h.rest⟩
theorem Fr.below {base : Nat} {a w w' : World} (h : Fr base a w) (hb : Below w.heap.size w w') (hs : base ≤ w.heap.size) : Fr base a w' :=
  h.trans ⟨hb.os, hb.tape, hb.output, hb.size, fun k hk => hb.block k (by omega), fun k cs e hk _ _ => (hb.block k (Array.getElem?_eq_some_iff.1 hk).1).trans hk⟩
theorem Fr.alloc {base : Nat} {a w : World} (h : Fr base a w) (hs : base ≤ w.heap.size) (o : Obj) : Fr base a (w.alloc o) :=
  h.below ((Below.refl _ _).alloc (Nat.le_refl _) o) hs
/-- A store into a block of the table's own kinds. -/
theorem Fr.setCell {base : Nat} {a w : World} (h : Fr base a w) {p : Addr} {cs : Array Value} {e : TypeId} (hp : w.heap[p.block]? = some (.cells cs e (0, 0))) (he : e = 84 ∨ e = 90) (hb : base ≤ p.block) (u : Value) : Fr base a (w.setCell p u) :=
  h.trans ⟨rfl, rfl, rfl, by simp [World.setCell], fun k hk => Below.heap_setCell _ _ _ _ (by omega), fun k cs' e' hk h1 h2 => by
    rw [Below.heap_setCell _ _ _ _ (fun ek => by subst ek; rw [hp] at hk; cases hk; exact he.elim h1 h2)]; exact hk⟩
theorem Fr.grown {base : Nat} {a w w' : World} {row : Option Nat} (h : Fr base a w) (hg : w.grownBy w' row) (hs : base ≤ w.heap.size) (hr : ∀ k, row = some k → base ≤ k ∧ ∀ cs e, w.heap[k]? = some (.cells cs e (0, 0)) → e = 84 ∨ e = 90) : Fr base a w' :=
  h.trans ⟨hg.os, hg.tape, hg.output, hg.size, fun k hk => hg.block k (by omega) (fun e => by have := (hr k e.symm).1; omega), fun k cs e hk h1 h2 => by
    rw [hg.block k (Array.getElem?_eq_some_iff.1 hk).1 (fun ek => ((hr k ek.symm).2 cs e hk).elim h1 h2)]; exact hk⟩

theorem row_kept {w w' : World} {base e size : Nat} {v : Value} {n : Nat} {xs : List Value} (h : w.ownsRow base e size v n xs) (hk : ∀ g cur, v.ownBlock = some g → w.heap[g]? = some (.cells cur e (0, 0)) → w'.heap[g]? = w.heap[g]?) : w'.ownsRow base e size v n xs := by
  refine ⟨h.1, ?_⟩
  rcases h.2 with hn | ⟨g, cap, cur, rfl, hb, hgg, rest⟩
  · exact .inl hn
  · exact .inr ⟨g, cap, cur, rfl, hb, (hk g cur rfl hgg).trans hgg, rest⟩

theorem hit_end {w w1 : World} {T base : Nat} {L : List ((Int × Int × Int) × Int)} {f : Int × Int × Int → Option Nat} {F : List Nat} {N l gL capL M : Nat} {x : Int × Int × Int} {c : Int} {vF : Value} {curL : Array Value}
    (hT : w.heap[T]? = some (.cells #[.slice none 0 0, .slice none 0 0, .int .i64 0, .int .i64 0, .slice (some ⟨gL, 0, none⟩) L.length capL, .map (some M), vF] 84 (0, 0)))
    (hbT : base ≤ T) (hbM : base ≤ M) (hidx : IdxMap w M N f) (hoF : w.ownsRow base 29 1 vF F.length (F.map (fun (l : Nat) => Value.int .u32 (l : Int))))
    (hbL : base ≤ gL) (hgL : w.heap[gL]? = some (.cells curL 90 (0, 0))) (hncL : L.length ≤ capL) (hmL : capL ≤ maxLen) (hcsL : curL.size = capL * 4) (htL : curL.toList.take (L.length * 4) = flat4 L)
    (hl : L[l]? = some (x, c)) (hb : Below w.heap.size w w1) :
    TInv (w1.setCell ⟨gL, l * 4 + 3, none⟩ (.int .i64 (c + 1))) T base (L.set l (x, c + 1)) f F N ∧ Fr base w (w1.setCell ⟨gL, l * 4 + 3, none⟩ (.int .i64 (c + 1))) := by
  have hgl := lt_of_block hgL
  have hg1 : w1.heap[gL]? = some (.cells curL 90 (0, 0)) := (hb.block gL hgl).trans hgL
  obtain ⟨es, clk, hMb⟩ := idx_block hidx
  have hoth : ∀ k, k < w.heap.size → k ≠ gL → (w1.setCell ⟨gL, l * 4 + 3, none⟩ (.int .i64 (c + 1))).heap[k]? = w.heap[k]? := fun k hk hne => by
    rw [Below.heap_setCell _ _ _ _ hne, hb.block k hk]
  have hTne : T ≠ gL := fun e => by subst e; rw [hT] at hgL; simp at hgL
  have hMne : M ≠ gL := fun e => by subst e; rw [hMb] at hgL; simp at hgL
  refine ⟨⟨_, _, _, (hoth T (lt_of_block hT) hTne).trans hT, hbT, ?_, row_kept hoF (fun g cur _ hgc => hoth g (lt_of_block hgc) (fun e => by subst e; rw [hgL] at hgc; simp at hgc)), .inr ⟨M, rfl, hbM, idx_kept hidx (hoth M (lt_of_block hMb) hMne)⟩⟩, ?_⟩
  · refine ⟨by rw [flat4_len], .inr ⟨gL, capL, curL.setIfInBounds (l * 4 + 3) (.int .i64 (c + 1)), by simp, hbL, heap_setCell_same w1 gL _ curL 90 _ hg1, by simpa using hncL, hmL, by simpa using hcsL, ?_⟩⟩
    rw [Array.toList_setIfInBounds, List.length_set, flat4_bump L l _ hl, ← htL, List.take_set]
  · exact ((Fr.refl base w).below hb (by have := lt_of_block hT; omega)).setCell (p := ⟨gL, l * 4 + 3, none⟩) hg1 (.inr rfl) hbL _

set_option maxRecDepth 100000 in
set_option maxHeartbeats 400000 in
theorem acq_hit (T base : Nat) (L : List ((Int × Int × Int) × Int)) (f : Int × Int × Int → Option Nat) (F : List Nat) (N : Nat) (x : Int × Int × Int) (l : Nat) (c : Int) (w : World)
    (h : TInv w T base L f F N) (hx : wf3 x) (hf : f x = some l) (hl : L[l]? = some (x, c)) (hc : 0 ≤ c ∧ c ≤ 1048576) (hL : L.length ≤ 1048576) :
    Calls Try.prog 43 #[.pointer (some ⟨T, 0, none⟩), aLim x] w fun e w' => e = .returned (.tuple #[.int .u32 l, .bool true]) ∧ TInv w' T base (L.set l (x, c + 1)) f F N ∧ Fr base w w' := by
  obtain ⟨vL, vM, vF, hT, hbT, hoL, hoF, hM⟩ := h
  obtain ⟨M, rfl, hbM, hidx⟩ : ∃ M, vM = .map (some M) ∧ base ≤ M ∧ IdxMap w M N f := by
    rcases hM with ⟨_, hn⟩ | h
    · rw [hn] at hf; cases hf
    · exact h
  have hlt : l < L.length := (List.getElem?_eq_some_iff.1 hl).1
  obtain ⟨gL, capL, curL, rfl, hbL, hgL, hncL, hmL, hcsL, htL⟩ : ∃ g cap cur, vL = .slice (some ⟨g, 0, none⟩) L.length cap ∧ base ≤ g ∧ w.heap[g]? = some (.cells cur 90 (0, 0)) ∧ L.length ≤ cap ∧ cap ≤ maxLen ∧ cur.size = cap * 4 ∧ cur.toList.take (L.length * 4) = flat4 L := by
    rcases hoL.2 with ⟨_, h0⟩ | h
    · omega
    · exact h
  obtain ⟨x0, x1, x2⟩ := x
  have hTlt := lt_of_block hT
  have hgLlt := lt_of_block hgL
  obtain ⟨es, clk, hMb⟩ := idx_block hidx
  have hMlt := lt_of_block hMb
  have hlook : ∀ n, (Instr.lookup 82 (.map (some M)) (.agg #[.int .i64 x0, .int .i64 x1, .int .i64 x2]) true).run Try.prog ((w.alloc (.cells #[.int .i64 x0, .int .i64 x1, .int .i64 x2] 49)).drewN n) = .ok (.tuple #[.int .u32 l, .bool true]) ((w.alloc (.cells #[.int .i64 x0, .int .i64 x1, .int .i64 x2] 49)).drewN n) := fun n =>
    idx_some (w := (w.alloc (.cells #[.int .i64 x0, .int .i64 x1, .int .i64 x2] 49)).drewN n) (idx_kept hidx (Below.heap_alloc w _ M hMlt)) hx hf
  have hT4 := cell_of_row w T 4 _ _ _ hT
  have hT5 := cell_of_row w T 5 _ _ _ hT
  simp at hT4 hT5
  have hfl := flat4_at L l _ hl
  have hc3 := cell_of_row w gL (l * 4 + 3) _ _ _ hgL
  have hfr3 := frozen_of_row w gL (l * 4 + 3) _ _ hgL
  have hcu : ∀ j, j < L.length * 4 → curL[j]? = (flat4 L)[j]? := fun j hj => by rw [← htL, List.getElem?_take, if_pos hj]; simp
  rw [hcu _ (by omega), hfl.2.2.2] at hc3
  clear hfl
  unfold aLim
  go_enter Try.func43, Try.ntmps43
  go_wp2
  go_quiet (fail)
  go_wp2
  go_ret2
  exact ⟨rfl, hit_end hT hbT hbM hidx hoF hbL hgL hncL hmL hcsL htL hl (belN ((Below.refl _ _).alloc (Nat.le_refl _) _) _)⟩
end Go.Proofs.Qxb6605674a.A5
