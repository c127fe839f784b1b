import Derived.Test.Qxb6605746aFmtA2
set_option linter.unusedVariables false
set_option linter.unusedSimpArgs false
namespace Go.Proofs.Qxb6605746aFmt.A3
open Go.RowKit Go.Proofs.Qxb6605746aFmt.P1 Go.Proofs.Qxb6605746aFmt.P3 Go.Proofs.Qxb6605746aFmt.P7 Go.Proofs.Qxb6605746aFmt.A1 Go.Proofs.Qxb6605746aFmt.A2

/-- A slice that came in: its cells, to its capacity. -/
def IsRow (w : World) (a : Option Addr) (len cap : Nat) (vs : List Value) : Prop :=
  (a = none ∧ len = 0 ∧ cap = 0 ∧ vs = []) ∨
  ∃ x, a = some x ∧ len ≤ cap ∧ cap ≤ maxLen ∧ vs.length = cap ∧ ∀ i v, vs[i]? = some v → w.cell? (x.add i) = some v

/-- A row of the call's own, known whole; of an empty one nothing is said. -/
def Own (w : World) (B : Nat) (e : TypeId) (p : Option Addr) (vs : List Value) : Prop :=
  0 < vs.length → ∃ b, B ≤ b ∧ p = some ⟨b, 0, none⟩ ∧ w.heap[b]? = some (.cells vs.toArray e (0, 0))

def Head (p : Option Addr) : Prop := p = none ∨ ∃ b, p = some ⟨b, 0, none⟩

theorem Own.below {w w' : World} {B : Nat} {e : TypeId} {p : Option Addr} {vs : List Value} (h : Own w B e p vs) (hb : Below w.heap.size w w') : Own w' B e p vs := by
  intro hl
  obtain ⟨b, h1, h2, h3⟩ := h hl
  exact ⟨b, h1, h2, (hb.block b (lt_of_block h3)).trans h3⟩

theorem IsRow.below {w w' : World} {a : Option Addr} {len cap : Nat} {vs : List Value} (h : IsRow w a len cap vs) (hb : Below w.heap.size w w') : IsRow w' a len cap vs := by
  rcases h with h | ⟨x, h1, h2, h3, h4, h5⟩
  · exact .inl h
  · exact .inr ⟨x, h1, h2, h3, h4, fun i v hi => (hb.cell (by simpa using block_lt_of_cell (h5 i v hi))).trans (h5 i v hi)⟩

theorem own_block {w : World} {B : Nat} {e : TypeId} {g n : Nat} {xs : List Value} (h : w.ownsRow B e 1 (.slice (some ⟨g, 0, none⟩) n n) n xs) : w.heap[g]? = some (.cells xs.toArray e (0, 0)) := by
  obtain ⟨hl, h | ⟨g', cap, cur, hv, _, hh, _, _, hs, ht⟩⟩ := h
  · cases h.1
  · simp only [Value.slice.injEq, Option.some.injEq, Addr.mk.injEq] at hv
    obtain ⟨⟨rfl, _⟩, _, rfl⟩ := hv
    rw [hh]
    congr 2
    have : cur.toList = xs := by rw [← ht, List.take_of_length_le (by simp; omega)]
    rw [← this]

theorem made_block {w : World} {B : Nat} {e : TypeId} {g n : Nat} {xs : List Value} (h : w.ownsRow B e 1 (.slice (some ⟨g, 0, none⟩) n n) n xs) : ∃ Z : List Value, Hid (Z.length = n) ∧ Hid (w.heap[g]? = some (.cells Z.toArray e (0, 0))) :=
  ⟨xs, (by have := h.1; omega : xs.length = n), own_block h⟩

theorem fit {us Z : List Value} {n : Nat} (h : us.length = n) (k : Z.length = n) : 0 + us.length ≤ Z.length := by omega

theorem info23 : (Tryf.prog.info? 23).map (fun i => (i.zero, i.size, i.bytes)) = some (some (.float .f64 0), 1, 8) := by kernel_rfl
theorem info3 : (Tryf.prog.info? 3).map (fun i => (i.zero, i.size, i.bytes)) = some (some (.int .i64 0), 1, 8) := by kernel_rfl
theorem size23 : (Tryf.prog.info? 23).map (·.size) = some 1 := by kernel_rfl
theorem size3 : (Tryf.prog.info? 3).map (·.size) = some 1 := by kernel_rfl

set_option maxRecDepth 100000 in
set_option maxHeartbeats 400000 in
theorem clone9 (a : Option Addr) (n c : Nat) (vs us : List Value) (w : World) (h : IsRow w a n c vs) (hn : n ≤ 1048576) (hus : Hid (us = vs.take n)) (h1 : Hid (∀ v ∈ us, v.oneCell' = true)) :
    Calls Tryf.prog 9 #[.slice a n c] w fun e w' => ∃ p, e = .returned (.slice p n n) ∧ Own w' w.heap.size 23 p us ∧ Head p ∧ Below w.heap.size w w' := by
  obtain ⟨i0, hi, hz0, hz1, hz2⟩ := info_parts info23
  have hnil := fun wx a n c => Lib.run_eql_slice_nil (P := Tryf.prog) wx 22 23 a n c 0 0 Tryf.underlying22
  rcases h with ⟨rfl, rfl, rfl, rfl⟩ | ⟨x, rfl, hl, hm, hz, hc⟩
  · go_enter Tryf.func9, Tryf.ntmps9
    go_wp2
    go_ret
    exact ⟨none, rfl, fun hl => by rw [hus.out] at hl; simp at hl, .inl rfl, Below.refl _ _⟩
  · have hul : us.length = n := by rw [hus.out]; simp; omega
    have hmin : Hid (us.length = Nat.min n n) := (by rw [hul]; simp : us.length = Nat.min n n)
    have HC : Hid (∀ wx, Below w.heap.size w wx → ∀ j v, us[j]? = some v → wx.cell? (x.add j) = some v) := by
      intro wx hb j v hj
      rw [hus.out] at hj
      have hj' : vs[j]? = some v := by
        rw [List.getElem?_take] at hj
        split at hj
        · exact hj
        · cases hj
      exact (hb.cell (by simpa using block_lt_of_cell (hc j v hj'))).trans (hc j v hj')
    clear hc
    go_enter Tryf.func9, Tryf.ntmps9
    go_wp2_with (first
      | (at_make; refine wpList_make_full _ rfl _ _ 22 rfl w.heap.size 23 i0 (.float .f64 0) 1 Tryf.underlying22 hi hz0 hz1 .i64 .i64 _ _ n rfl rfl rfl rfl (by rw [hz2]; omega) (by unfold maxLen; omega) (Nat.le_refl _) ?_; intro w1 hown1 hgrow1; have hbel : Below w.heap.size w w1 := (Below.refl _ _).grown hgrow1 (Nat.le_refl _) (by simp); obtain ⟨Z, hZl, hZ⟩ := made_block hown1; have hfit : Hid (0 + us.length ≤ Z.length) := fit hul hZl.out; clear hown1 hgrow1)
      | (refine wpList_copy_splice rfl _ _ 22 22 rfl 23 Tryf.underlying22 size23 (some ⟨w.heap.size, 0, none⟩) (some x) n n n c (by rfl) (by rfl) w.heap.size 0 Z 23 hZ.out us hmin.out (fun _ => ⟨rfl, x, rfl, HC.out _ hbel⟩) hfit.out h1.out w.heap.size w hbel (Nat.le_refl _) ?_; intro w2 HG2 hB2))
    go_ret
    have he : splice Z 0 us = us := by
      have : Z.length = n := hZl.out
      simp [splice]; omega
    refine ⟨_, rfl, fun _ => ⟨w.heap.size, Nat.le_refl _, rfl, ?_⟩, .inr ⟨_, rfl⟩, hB2⟩
    rw [← he]; exact HG2.out

end Go.Proofs.Qxb6605746aFmt.A3
