import Derived.Test.Qxb6605746aFmtB4
import Derived.Lib.SliceRun
import Derived.Deep.RegionWith
set_option linter.unusedVariables false
set_option linter.unusedSimpArgs false
namespace Go.Proofs.Qxb6605746aFmt.B6
open Go.RowKit Go.Extern.Stop Go.Stop Go.Extern Go.Proofs.Qxb6605746aFmt.P1 Go.Proofs.Qxb6605746aFmt.P3 Go.Proofs.Qxb6605746aFmt.P7 Go.Proofs.Qxb6605746aFmt.A1 Go.Proofs.Qxb6605746aFmt.A2 Go.Proofs.Qxb6605746aFmt.A3 Go.Proofs.Qxb6605746aFmt.A4 Go.Proofs.Qxb6605746aFmt.A5 Go.Proofs.Qxb6605746aFmt.A6 Go.Proofs.Qxb6605746aFmt.A7 Go.Proofs.Qxb6605746aFmt.A8 Go.Proofs.Qxb6605746aFmt.A9 Go.Proofs.Qxb6605746aFmt.B1 Go.Proofs.Qxb6605746aFmt.B3 Go.Proofs.Qxb6605746aFmt.B4

theorem set_zeros (s : Nat) : ∀ (k o : Nat) (w : World) (zs : List Nat), FB w s zs → o + k ≤ zs.length → ∃ ys, FB (w.setCells s o (List.replicate k (.float .f64 0))) s ys ∧ ys.length = zs.length ∧ (∀ j, o ≤ j → j < o + k → ys.getD j 0 = 0) ∧ ∀ j, j < o → ys.getD j 0 = zs.getD j 0
  | 0, o, w, zs, h, _ => ⟨zs, h, rfl, fun j h1 h2 => by omega, fun _ _ => rfl⟩
  | k + 1, o, w, zs, h, hl => by
    obtain ⟨ys, h1, h2, h3, h4⟩ := set_zeros s k (o + 1) _ _ (h.set o 0) (by simp; omega)
    refine ⟨ys, h1, by simpa using h2, fun j j1 j2 => ?_, fun j hj => ?_⟩
    · by_cases e : j = o
      · subst e
        rw [h4 j (by omega), getD_set _ _ _ _ (by omega), if_pos rfl]
      · exact h3 j (by omega) (by omega)
    · rw [h4 j (by omega), getD_set _ _ _ _ (by omega), if_neg (by omega)]

theorem oth_zeros (s : Nat) (v : Value) : ∀ (k o : Nat) (w0 w : World), Oth s w0 w → Oth s w0 (w.setCells s o (List.replicate k v))
  | 0, o, w0, w, h => h
  | k + 1, o, w0, w, h => oth_zeros s v k (o + 1) w0 _ (h.set o v)

theorem zero23 (w : World) : (zeroValue 23).run Tryf.prog w = .ok (.float .f64 0) w := by
  obtain ⟨i0, hi, hz0, hz1, hz2⟩ := info_parts info23
  simp [zeroValue, typeInfo, hi, hz0]

theorem clear_nil (p : Option Addr) (ty : TypeId) (w : World) : (Builtin.clear_ #[22] ty #[.slice p 0 0]).run Tryf.prog w = .ok (.tuple #[]) w := by
  cases p <;> simp [Builtin.clear_, run_underlying Tryf.underlying22]


/-- Behind a walk that writes the blocks s and t alone, and makes new ones. -/
def Oth2 (s t : Nat) (w w' : World) : Prop := w'.os = w.os ∧ w'.tape = w.tape ∧ w'.output = w.output ∧ w.heap.size ≤ w'.heap.size ∧ ∀ k, k < w.heap.size → k ≠ s → k ≠ t → w'.heap[k]? = w.heap[k]?
theorem Oth2.refl (s t : Nat) (w : World) : Oth2 s t w w := ⟨rfl, rfl, rfl, Nat.le_refl _, fun _ _ _ _ => rfl⟩
theorem Oth2.trans {s t : Nat} {w w1 w2 : World} (h : Oth2 s t w w1) (k : Oth2 s t w1 w2) : Oth2 s t w w2 := by
  obtain ⟨a1, a2, a3, a4, a5⟩ := h
  obtain ⟨b1, b2, b3, b4, b5⟩ := k
  exact ⟨b1.trans a1, b2.trans a2, b3.trans a3, Nat.le_trans a4 b4, fun i hi hs ht => (b5 i (Nat.lt_of_lt_of_le hi a4) hs ht).trans (a5 i hi hs ht)⟩
theorem oth_l {s t : Nat} {w w' : World} (h : Oth s w w') : Oth2 s t w w' := ⟨h.1, h.2.1, h.2.2.1, h.2.2.2.1, fun k hk hs _ => h.2.2.2.2 k hk hs⟩
theorem oth_r {s t : Nat} {w w' : World} (h : Oth t w w') : Oth2 s t w w' := ⟨h.1, h.2.1, h.2.2.1, h.2.2.2.1, fun k hk _ ht => h.2.2.2.2 k hk ht⟩

/-- What scaledRow reads. -/
def Ctx (w : World) (A T rn cn rm rs cm cs cu bf R C rf cf cb L : Nat) (p : Option Addr) (xs RM RD : List Nat) : Prop :=
  AB w A T rn cn rm rs cm cs cu bf R C rf cf ∧ TB w T (R : Int) (C : Int) p L L ∧ CS w p L cb xs ∧ (FB w rm RM ∧ RM.length = R) ∧ FB w rs RD ∧ RD.length = R
theorem Ctx.step {w w' : World} {A T rn cn rm rs cm cs cu bf R C rf cf cb L : Nat} {p : Option Addr} {xs RM RD : List Nat} (h : Ctx w A T rn cn rm rs cm cs cu bf R C rf cf cb L p xs RM RD)
    (hk : ∀ k, k < w.heap.size → (k = A ∨ k = T ∨ k = cb ∨ k = rm ∨ k = rs) → w'.heap[k]? = w.heap[k]?) : Ctx w' A T rn cn rm rs cm cs cu bf R C rf cf cb L p xs RM RD := by
  obtain ⟨h1, h2, ⟨h3, h4, h5⟩, ⟨h6, h7⟩, h8, h9⟩ := h
  refine ⟨(hk A (lt_of_block h1) (by simp)).trans h1, (hk T (lt_of_block h2) (by simp)).trans h2, ⟨h3, h4, ?_⟩, ⟨(hk rm (lt_of_block h6) (by simp)).trans h6, h7⟩, (hk rs (lt_of_block h8) (by simp)).trans h8, h9⟩
  rcases h5 with h5 | ⟨h5, h10⟩
  · exact .inl h5
  · exact .inr ⟨h5, (hk cb (lt_of_block h10) (by simp)).trans h10⟩
/-- The blocks are apart. -/
def Apart (A T rn cn rm rs cm cs cu bf cb : Nat) : Prop := [A, T, rn, cn, rm, rs, cm, cs, cu, bf, cb].Nodup
theorem nodup_lt {l : List Nat} (h : l.Nodup) (i j : Nat) (hi : i < l.length) (hj : j < l.length) (hij : i < j) : l[i] ≠ l[j] := (List.pairwise_iff_getElem.1 h) i j hi hj hij
theorem nodup_at {l : List Nat} (h : l.Nodup) (i j : Nat) (hh : i < l.length ∧ j < l.length ∧ i ≠ j) : l[i]'hh.1 ≠ l[j]'hh.2.1 := by
  rcases Nat.lt_or_gt_of_ne hh.2.2 with h1 | h1
  · exact nodup_lt h i j hh.1 hh.2.1 h1
  · exact (nodup_lt h j i hh.2.1 hh.1 h1).symm

theorem apart_ne {A T rn cn rm rs cm cs cu bf cb : Nat} (h : Apart A T rn cn rm rs cm cs cu bf cb) (i j : Nat) (hh : i < 11 ∧ j < 11 ∧ i ≠ j) : [A, T, rn, cn, rm, rs, cm, cs, cu, bf, cb][i]'hh.1 ≠ [A, T, rn, cn, rm, rs, cm, cs, cu, bf, cb][j]'hh.2.1 := nodup_at h i j hh

def Y (xs RM RD : List Nat) (C : Nat) (i j : Nat) : Option Nat := fscaled (cellsOf xs (i * C) j) (fnum (RM.getD i 0)) (fnum (RD.getD i 0))

def Sq (C k : Nat) (Yi M : Nat → Option Nat) (old zs : List Nat) : Prop := zs.length = C ∧ (∀ j, j < k → fnum (zs.getD j 0) = fsqo (fnum (old.getD j 0)) (Yi j) (M j)) ∧ ∀ j, k ≤ j → zs.getD j 0 = old.getD j 0
theorem Sq.skip {C k : Nat} {Yi M : Nat → Option Nat} {old zs : List Nat} (h : Sq C k Yi M old zs) (hn : Yi k = none) : Sq C (k + 1) Yi M old zs := by
  obtain ⟨h1, h2, h3⟩ := h
  refine ⟨h1, fun j hj => ?_, fun j hj => h3 j (by omega)⟩
  by_cases e : j = k
  · subst e; rw [h3 j (Nat.le_refl _), hn]; rfl
  · exact h2 j (by omega)
theorem Sq.put {C k v : Nat} {Yi M : Nat → Option Nat} {old zs : List Nat} (h : Sq C k Yi M old zs) (hk : k < C) (hv : fnum v = fsqo (fnum (zs.getD k 0)) (Yi k) (M k)) : Sq C (k + 1) Yi M old (zs.set k v) := by
  obtain ⟨h1, h2, h3⟩ := h
  refine ⟨by simp [h1], fun j hj => ?_, fun j hj => ?_⟩
  · rw [getD_set _ _ _ _ (by omega)]
    by_cases e : j = k
    · subst e; rw [if_pos rfl, hv, h3 j (Nat.le_refl _)]
    · rw [if_neg e]; exact h2 j (by omega)
  · rw [getD_set _ _ _ _ (by omega), if_neg (by omega)]; exact h3 j (by omega)

def SqAll (C i : Nat) (Yf : Nat → Nat → Option Nat) (M : Nat → Option Nat) (zs : List Nat) : Prop := zs.length = C ∧ ∀ j, j < C → fnum (zs.getD j 0) = fsqs (fun i => Yf i j) (fun _ => M j) i
theorem SqAll.step {C i : Nat} {Yf : Nat → Nat → Option Nat} {M : Nat → Option Nat} {old zs : List Nat} (h : SqAll C i Yf M old) (hs : Sq C C (Yf i) M old zs) : SqAll C (i + 1) Yf M zs :=
  ⟨hs.1, fun j hj => by rw [hs.2.1 j hj, h.2 j hj]; rfl⟩
/-- The roots taken of the first k. -/
def Rt (C k : Nat) (ks : List Int) (old zs : List Nat) : Prop := zs.length = C ∧ (∀ j, j < k → fnum (zs.getD j 0) = fsqrt (fop .quo (fnum (old.getD j 0)) (fcnt (ks.getD j 0)))) ∧ ∀ j, k ≤ j → zs.getD j 0 = old.getD j 0
theorem Rt.put {C k v : Nat} {ks : List Int} {old zs : List Nat} (h : Rt C k ks old zs) (hk : k < C) (hv : fnum v = fsqrt (fop .quo (fnum (zs.getD k 0)) (fcnt (ks.getD k 0)))) : Rt C (k + 1) ks old (zs.set k v) := by
  obtain ⟨h1, h2, h3⟩ := h
  refine ⟨by simp [h1], fun j hj => ?_, fun j hj => ?_⟩
  · rw [getD_set _ _ _ _ (by omega)]
    by_cases e : j = k
    · subst e; rw [if_pos rfl, hv, h3 j (Nat.le_refl _)]
    · rw [if_neg e]; exact h2 j (by omega)
  · rw [getD_set _ _ _ _ (by omega), if_neg (by omega)]; exact h3 j (by omega)
end Go.Proofs.Qxb6605746aFmt.B6
