import Derived.Test.Qxb6605746aFmtA3
set_option linter.unusedVariables false
set_option linter.unusedSimpArgs false
namespace Go.Proofs.Qxb6605746aFmt.A4
open Go.RowKit Go.Proofs.Qxb6605746aFmt.P1 Go.Proofs.Qxb6605746aFmt.P3 Go.Proofs.Qxb6605746aFmt.P7 Go.Proofs.Qxb6605746aFmt.A1 Go.Proofs.Qxb6605746aFmt.A2 Go.Proofs.Qxb6605746aFmt.A3

/-- Behind a walk that writes the block s alone, and makes new ones. -/
def Oth (s : Nat) (w w' : World) : Prop := w'.os = w.os ∧ w'.tape = w.tape ∧ w'.output = w.output ∧ w.heap.size ≤ w'.heap.size ∧ ∀ k, k < w.heap.size → k ≠ s → w'.heap[k]? = w.heap[k]?

theorem Oth.refl (s : Nat) (w : World) : Oth s w w := ⟨rfl, rfl, rfl, Nat.le_refl _, fun _ _ _ => rfl⟩
theorem Oth.trans {s : Nat} {w w1 w2 : World} (h : Oth s w w1) (k : Oth s w1 w2) : Oth s w w2 := by
  obtain ⟨a1, a2, a3, a4, a5⟩ := h
  obtain ⟨b1, b2, b3, b4, b5⟩ := k
  exact ⟨b1.trans a1, b2.trans a2, b3.trans a3, Nat.le_trans a4 b4, fun i hi hs => (b5 i (Nat.lt_of_lt_of_le hi a4) hs).trans (a5 i hi hs)⟩
theorem Oth.drew {s : Nat} {w w1 : World} (h : Oth s w w1) : Oth s w w1.drew := h
theorem Oth.set {s : Nat} {w w1 : World} (h : Oth s w w1) (i : Nat) (v : Value) : Oth s w (w1.setCell ⟨s, i, none⟩ v) :=
  h.trans ⟨rfl, rfl, rfl, by simp [World.setCell], fun k hk hs => Below.heap_setCell _ _ _ _ hs⟩
theorem Oth.to {s : Nat} {w0 w w1 : World} (hb : Below w0.heap.size w0 w) (h : Oth s w w1) (hs : w0.heap.size ≤ s) : Below w0.heap.size w0 w1 := by
  obtain ⟨a1, a2, a3, a4, a5⟩ := h
  exact ⟨a1.trans hb.os, a2.trans hb.tape, a3.trans hb.output, Nat.le_trans hb.size a4, fun k hk => (a5 k (Nat.lt_of_lt_of_le hk hb.size) (by omega)).trans (hb.block k hk)⟩

theorem store_float (w : World) (a : Addr) (m : Mode) (q : Nat) : (store a (.float .f64 q) m).run Tryf.prog w = stored Tryf.prog w a (.float .f64 q) m := run_store Tryf.prog w a _ m rfl

/-- A block of floats, of ints. -/
def FB (w : World) (b : Nat) (zs : List Nat) : Prop := w.heap[b]? = some (.cells (zs.map (Value.float .f64)).toArray 23 (0, 0))
def IB (w : World) (b : Nat) (ks : List Int) : Prop := w.heap[b]? = some (.cells (ks.map (Value.int .i64)).toArray 3 (0, 0))

theorem FB.cell {w : World} {b : Nat} {zs : List Nat} (h : FB w b zs) (j : Nat) (hj : j < zs.length) : w.cell? ⟨b, j, none⟩ = some (.float .f64 (zs.getD j 0)) := by
  rw [cell_of_row w b j _ _ _ h]
  simp [List.getElem?_eq_getElem hj]
theorem IB.cell {w : World} {b : Nat} {zs : List Int} (h : IB w b zs) (j : Nat) (hj : j < zs.length) : w.cell? ⟨b, j, none⟩ = some (.int .i64 (zs.getD j 0)) := by
  rw [cell_of_row w b j _ _ _ h]
  simp [List.getElem?_eq_getElem hj]
theorem FB.frozen {w : World} {b : Nat} {zs : List Nat} (h : FB w b zs) (j : Nat) : w.frozen? ⟨b, j, none⟩ = false := frozen_of_row w b j _ _ h
theorem FB.set {w : World} {b : Nat} {zs : List Nat} (h : FB w b zs) (j r : Nat) : FB (w.setCell ⟨b, j, none⟩ (.float .f64 r)) b (zs.set j r) := by
  unfold FB
  rw [heap_setCell_same _ _ _ _ _ _ h]
  congr 2
  apply Array.toList_inj.1
  simp
theorem FB.lt {w : World} {b : Nat} {zs : List Nat} (h : FB w b zs) : b < w.heap.size := lt_of_block h
theorem IB.lt {w : World} {b : Nat} {zs : List Int} (h : IB w b zs) : b < w.heap.size := lt_of_block h
theorem FB.oth {s : Nat} {w w' : World} {b : Nat} {zs : List Nat} (h : FB w b zs) (ho : Oth s w w') (hs : b ≠ s) : FB w' b zs := (ho.2.2.2.2 b h.lt hs).trans h
theorem IB.oth {s : Nat} {w w' : World} {b : Nat} {zs : List Int} (h : IB w b zs) (ho : Oth s w w') (hs : b ≠ s) : IB w' b zs := (ho.2.2.2.2 b h.lt hs).trans h
theorem FB.below {w w' : World} {b : Nat} {zs : List Nat} (h : FB w b zs) (ho : Below w.heap.size w w') : FB w' b zs := (ho.block b h.lt).trans h
theorem IB.below {w w' : World} {b : Nat} {zs : List Int} (h : IB w b zs) (ho : Below w.heap.size w w') : IB w' b zs := (ho.block b h.lt).trans h
theorem FB.drew {w : World} {b : Nat} {zs : List Nat} (h : FB w b zs) : FB w.drew b zs := h

theorem addobs_nil (p q : Option Addr) (m c : Nat) (hm : m ≤ c) (hc : c ≤ maxLen) (w : World) :
    Calls Tryf.prog 36 #[.slice p 0 0, .slice q m c] w fun e w' => e = .returned (.tuple #[]) ∧ w' = w := by
  go_enter Tryf.func36, Tryf.ntmps36
  go_wp2
  go_loopw [11] (fun i wr => i = .int .i64 0 ∧ wr = w) (fun _ _ => 0)
  case atStart => exact ⟨rfl, rfl⟩
  case round =>
    obtain ⟨rfl, rfl⟩ := hrel
    go_wp2
    go_end0
    exact ⟨rfl, rfl⟩

/-- The sums so far: the first k have got their row's cell. -/
def Part (n k : Nat) (zs cs : List Nat) (ro : Nat) (ys : List Nat) : Prop :=
  ys.length = n ∧ (∀ j, j < k → fnum (ys.getD j 0) = faddo (fnum (zs.getD j 0)) (fnum (cs.getD (ro + j) 0))) ∧ ∀ j, k ≤ j → ys.getD j 0 = zs.getD j 0

theorem Part.start {n : Nat} {zs cs : List Nat} {ro : Nat} (h : zs.length = n) : Part n 0 zs cs ro zs := ⟨h, fun j hj => by omega, fun _ _ => rfl⟩
theorem Part.skip {n k : Nat} {zs cs ys : List Nat} {ro : Nat} (h : Part n k zs cs ro ys) (hn : fnum (cs.getD (ro + k) 0) = none) : Part n (k + 1) zs cs ro ys := by
  obtain ⟨h1, h2, h3⟩ := h
  refine ⟨h1, fun j hj => ?_, fun j hj => h3 j (by omega)⟩
  by_cases e : j = k
  · subst e
    rw [h3 j (Nat.le_refl _), hn]; rfl
  · exact h2 j (by omega)
theorem getD_set (ys : List Nat) (k r j : Nat) (hk : k < ys.length) : (ys.set k r).getD j 0 = if j = k then r else ys.getD j 0 := by
  simp only [List.getD_eq_getElem?_getD, List.getElem?_set]
  by_cases e : k = j
  · subst e; simp [hk]
  · rw [if_neg e, if_neg (by omega)]
theorem Part.put {n k : Nat} {zs cs ys : List Nat} {ro r : Nat} (h : Part n k zs cs ro ys) (hk : k < n) (v : Nat) (hv : fnum (cs.getD (ro + k) 0) = some v)
    (hr : fnum r = fop .add (fnum (ys.getD k 0)) (fnum (cs.getD (ro + k) 0))) : Part n (k + 1) zs cs ro (ys.set k r) := by
  obtain ⟨h1, h2, h3⟩ := h
  refine ⟨by simp [h1], fun j hj => ?_, fun j hj => ?_⟩
  · rw [getD_set _ _ _ _ (by omega)]
    by_cases e : j = k
    · subst e
      rw [if_pos rfl, hr, h3 j (Nat.le_refl _), hv]; rfl
    · rw [if_neg e]; exact h2 j (by omega)
  · rw [getD_set _ _ _ _ (by omega), if_neg (by omega)]; exact h3 j (by omega)

set_option maxRecDepth 100000 in
set_option maxHeartbeats 1000000 in
theorem addobs36 (s n rb ro m c : Nat) (zs cs : List Nat) (w : World) (hs : FB w s zs) (hr : FB w rb cs) (hne : rb ≠ s) (hz : zs.length = n) (hro : ro + n ≤ cs.length) (hn : n ≤ m) (hm : m ≤ c) (hc : c ≤ maxLen) :
    Calls Tryf.prog 36 #[.slice (some ⟨s, 0, none⟩) n n, .slice (some ⟨rb, ro, none⟩) m c] w fun e w' => e = .returned (.tuple #[]) ∧ ∃ ys, FB w' s ys ∧ Part n n zs cs ro ys ∧ Oth s w w' := by
  unfold maxLen at hc
  have hsf := store_float
  go_enter Tryf.func36, Tryf.ntmps36
  go_wp2
  go_loopw [11] (fun i wr => ∃ k : Nat, k ≤ n ∧ i = .int .i64 k ∧ ∃ ys, FB wr s ys ∧ Part n k zs cs ro ys ∧ Oth s w wr) (fun i _ => n - (intOf i).toNat)
  case atStart => exact ⟨0, Nat.zero_le _, rfl, zs, hs, Part.start hz, Oth.refl _ _⟩
  case round =>
    obtain ⟨k, hk, rfl, ys, hF, hP, hO⟩ := hrel
    by_cases hlt : k < n
    · have hyl := hP.1
      have hc1 := hF.cell k (by omega)
      have hc2 := (hr.oth hO hne).cell (ro + k) (by omega)
      have hf := hF.frozen k
      obtain ⟨y, hy⟩ : ∃ y, ys.getD k 0 = y := ⟨_, rfl⟩
      obtain ⟨r, hrr⟩ : ∃ y, cs.getD (ro + k) 0 = y := ⟨_, rfl⟩
      rw [hy] at hc1
      rw [hrr] at hc2
      have HF : Hid (FB wr s ys) := hF
      have HP : Hid (Part n k zs cs ro ys) := hP
      have HO : Hid (Oth s w wr) := hO
      have HY : Hid (ys.getD k 0 = y) := hy
      have HR : Hid (cs.getD (ro + k) 0 = r) := hrr
      clear hF hP hO hy hrr
      cases hq : fnum r with
      | none =>
        have e1 := ord_none r r hq
        go_wp2
        go_roundw
        case rel => exact ⟨k + 1, by omega, by go_num, ys, HF.out, HP.out.skip (by rw [HR.out]; exact hq), HO.out⟩
        case measure => simp [intOf]; omega
      | some v =>
        have e1 := ord_self r
        rw [hq] at e1
        simp only [Option.map_some] at e1
        have HQ : Hid (fnum r = some v) := hq
        clear hq
        rcases float_case .add (.inl rfl) y r with ⟨q, hop, hfq⟩ | ⟨hop, hfq⟩
        · have HFQ : Hid _ := hfq
          clear hfq
          go_wp2
          go_roundw
          case rel => exact ⟨k + 1, by omega, by go_num, _, HF.out.set k q, HP.out.put hlt v (by rw [HR.out]; exact HQ.out) (by rw [HR.out, HY.out]; exact HFQ.out), HO.out.set _ _⟩
          case measure => simp [intOf]; omega
        · have HFQ : Hid _ := hfq
          clear hfq
          go_wp2
          go_roundw
          case rel => exact ⟨k + 1, by omega, by go_num, _, (HF.out.set k (nanOf y r wr)).drew, HP.out.put hlt v (by rw [HR.out]; exact HQ.out) (by rw [HR.out, HY.out, nanOf_nan]; exact HFQ.out), (HO.out.set _ _).drew⟩
          case measure => simp [intOf]; omega
    · have : k = n := by omega
      subst this
      go_wp2
      go_end0
      exact ⟨rfl, ys, hF, hP, hO⟩
end Go.Proofs.Qxb6605746aFmt.A4
