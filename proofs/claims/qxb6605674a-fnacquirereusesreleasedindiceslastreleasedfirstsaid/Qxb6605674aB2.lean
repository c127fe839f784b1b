import Derived.Test.Qxb6605674aB0
set_option linter.unusedVariables false
set_option linter.unusedSimpArgs false
namespace Go.Proofs.Qxb6605674a.B2
open Go.RowKit Go.Proofs.Qxb6605674a.A2 Go.Proofs.Qxb6605674a.A4 Go.Proofs.Qxb6605674a.A3 Go.Proofs.Qxb6605674a.A5 Go.Proofs.Qxb6605674a.A6 Go.Proofs.Qxb6605674a.A7 Go.Proofs.Qxb6605674a.A8 Go.Proofs.Qxb6605674a.A9 Go.Proofs.Qxb6605674a.B0

/-- Nothing has turned but new blocks and one block of element type e. -/
structure Oth (e : TypeId) (w w1 : World) : Prop where
  size : w.heap.size ≤ w1.heap.size
  rest : ∀ (k : Nat) (cs : Array Value) (e' : TypeId), w.heap[k]? = some (.cells cs e' (0, 0)) → e' ≠ e → w1.heap[k]? = w.heap[k]?
  maps : ∀ (k : Nat) (es : Array MapEntry) (c : Nat), w.heap[k]? = some (.map es c) → w1.heap[k]? = w.heap[k]?
theorem Oth.below {e : TypeId} {w w1 : World} (h : Below w.heap.size w w1) : Oth e w w1 :=
  ⟨h.size, fun k _ _ hk _ => h.block k (lt_of_block hk), fun k _ _ hk => h.block k (lt_of_block hk)⟩
theorem Oth.trans {e : TypeId} {a b c : World} (h : Oth e a b) (k : Oth e b c) : Oth e a c :=
  ⟨Nat.le_trans h.size k.size, fun i cs e' hi he => by have h1 := h.rest i cs e' hi he; rw [k.rest i cs e' (h1.trans hi) he, h1], fun i es c hi => by have h1 := h.maps i es c hi; rw [k.maps i es c (h1.trans hi), h1]⟩
theorem Oth.grown {e : TypeId} {w w1 : World} {base size n : Nat} {v : Value} {xs : List Value} (ho : w.ownsRow base e size v n xs) (hg : w.grownBy w1 v.ownBlock) : Oth e w w1 := by
  have key : ∀ k, some k = v.ownBlock → ∃ cur, w.heap[k]? = some (.cells cur e (0, 0)) := fun k hk => by
    rcases ho.2 with ⟨rfl, _⟩ | ⟨g, cap, cur, rfl, _, hgg, _⟩
    · simp [Value.ownBlock] at hk
    · simp [Value.ownBlock] at hk
      subst hk
      exact ⟨cur, hgg⟩
  refine ⟨hg.size, fun k cs e' hk he => hg.block k (lt_of_block hk) (fun ek => ?_), fun k es c hk => hg.block k (lt_of_block hk) (fun ek => ?_)⟩
  · obtain ⟨cur, hc⟩ := key k ek
    rw [hk] at hc
    simp at hc
    exact he hc.2
  · obtain ⟨cur, hc⟩ := key k ek
    rw [hk] at hc
    simp at hc
theorem Oth.setCell {e : TypeId} {w : World} {p : Addr} {cs : Array Value} (hp : w.heap[p.block]? = some (.cells cs e (0, 0))) (u : Value) : Oth e w (w.setCell p u) := by
  refine ⟨by simp [World.setCell], fun k cs' e' hk he => Below.heap_setCell _ _ _ _ (fun ek => ?_), fun k es c hk => Below.heap_setCell _ _ _ _ (fun ek => ?_)⟩
  · subst ek; rw [hp] at hk; simp at hk; exact he hk.2.symm
  · subst ek; rw [hp] at hk; simp at hk
theorem Oth.row {e : TypeId} {w w1 : World} (h : Oth e w w1) {base e' size n : Nat} {v : Value} {xs : List Value} (ho : w.ownsRow base e' size v n xs) (he : e' ≠ e) : w1.ownsRow base e' size v n xs :=
  row_kept ho (fun k cur _ hk => h.rest k cur e' hk he)
theorem Oth.tab {e : TypeId} {w w1 : World} (h : Oth e w w1) {T base : Nat} {L : List ((Int × Int × Int) × Int)} {f : Int × Int × Int → Option Nat} {F : List Nat} {N : Nat} (ht : TInv w T base L f F N) (h1 : e ≠ 84) (h2 : e ≠ 90) (h3 : e ≠ 29) : TInv w1 T base L f F N := by
  obtain ⟨vL, vM, vF, hT, hbT, hoL, hoF, hM⟩ := ht
  refine ⟨vL, vM, vF, (h.rest T _ _ hT (Ne.symm h1)).trans hT, hbT, h.row hoL (Ne.symm h2), h.row hoF (Ne.symm h3), ?_⟩
  rcases hM with q | ⟨M, q1, q2, q3⟩
  · exact .inl q
  · obtain ⟨es, clk, hMb⟩ := idx_block q3
    exact .inr ⟨M, q1, q2, idx_kept q3 (h.maps M _ _ hMb)⟩
/-- As 'Oth.tab', where block b of the free list's element type turns, but not the free list's own. -/
theorem tab_but {w w1 : World} {T base : Nat} {L : List ((Int × Int × Int) × Int)} {f : Int × Int × Int → Option Nat} {F : List Nat} {N : Nat} (ht : TInv w T base L f F N) (h : ∀ k, k < w.heap.size → base ≤ k → w1.heap[k]? = w.heap[k]?) : TInv w1 T base L f F N := by
  obtain ⟨vL, vM, vF, hT, hbT, hoL, hoF, hM⟩ := ht
  refine ⟨vL, vM, vF, (h T (lt_of_block hT) hbT).trans hT, hbT, row_kept hoL (fun k cur hk hkk => h k (lt_of_block hkk) (hoL.lt k hk).1), row_kept hoF (fun k cur hk hkk => h k (lt_of_block hkk) (hoF.lt k hk).1), ?_⟩
  rcases hM with q | ⟨M, q1, q2, q3⟩
  · exact .inl q
  · obtain ⟨es, clk, hMb⟩ := idx_block q3
    exact .inr ⟨M, q1, q2, idx_kept q3 (h M (lt_of_block hMb) q2)⟩
end Go.Proofs.Qxb6605674a.B2
