import Derived.Test.Qxb6605674aC4
set_option linter.unusedVariables false
set_option linter.unusedSimpArgs false
namespace Go.Proofs.Qxb6605674a.C3
open Go.RowKit Go.Proofs.Qxb6605674a.A2 Go.Proofs.Qxb6605674a.A4 Go.Proofs.Qxb6605674a.A3 Go.Proofs.Qxb6605674a.A5 Go.Proofs.Qxb6605674a.A6 Go.Proofs.Qxb6605674a.A7 Go.Proofs.Qxb6605674a.A8 Go.Proofs.Qxb6605674a.A9 Go.Proofs.Qxb6605674a.B0 Go.Proofs.Qxb6605674a.B2 Go.Proofs.Qxb6605674a.C1 Go.Proofs.Qxb6605674a.C2 Go.Proofs.Qxb6605674a.C4
attribute [local go_sem ↓] Go.wp_at_zero Go.wp_at_succ

theorem info4 : (Try.prog.info? 4).map (fun i => (i.zero, i.size, i.bytes)) = some (some (.bool false), 1, 1) := by kernel_rfl

/-- The marks after the first j numbers. -/
def marks (m : Nat) (ns : List Nat) : List Value := (List.range m).map (fun v => Value.bool (decide (v ∈ ns)))
theorem marks_len (m : Nat) (ns : List Nat) : (marks m ns).length = m := by simp [marks]
theorem marks_at (m : Nat) (ns : List Nat) (v : Nat) (hv : v < m) : (marks m ns)[v]? = some (.bool (decide (v ∈ ns))) := by simp [marks, hv]
theorem marks_set (m : Nat) (ns : List Nat) (v : Nat) (hv : v < m) : (marks m ns).set v (.bool true) = marks m (ns ++ [v]) := by
  apply List.ext_getElem?
  intro i
  by_cases hi : i < m
  · rw [marks_at _ _ _ hi]
    by_cases e : v = i
    · subst e
      rw [List.getElem?_set_self (by rw [marks_len]; exact hv)]
      simp
    · rw [List.getElem?_set_ne e, marks_at _ _ _ hi]
      simp [Ne.symm e]
  · rw [List.getElem?_eq_none (by rw [List.length_set, marks_len]; omega), List.getElem?_eq_none (by rw [marks_len]; omega)]
theorem marks_nil (m : Nat) : List.replicate m (Value.bool false) = marks m [] := by
  apply List.ext_getElem?
  intro i
  by_cases hi : i < m
  · rw [marks_at _ _ _ hi]; simp [hi]
  · rw [List.getElem?_eq_none (by simp; omega), List.getElem?_eq_none (by rw [marks_len]; omega)]

/-- The first j numbers of zs, each a place below m, no two alike. -/
def good (zs : List Int) (m j : Nat) : Prop := (∀ i, i < j → 0 ≤ zs.getD i 0 ∧ zs.getD i 0 < m) ∧ (((zs.take j).map Int.toNat).Nodup)

theorem take_toNat (zs : List Int) (j v : Nat) (hj : j < zs.length) (h : zs.getD j 0 = (v : Int)) : (zs.take (j + 1)).map Int.toNat = (zs.take j).map Int.toNat ++ [v] := by
  rw [List.take_succ_eq_append_getElem hj, List.map_append]
  have : zs[j] = (v : Int) := by rw [List.getD_eq_getElem?_getD, List.getElem?_eq_getElem hj] at h; simpa using h
  simp [this]
theorem good_succ {zs : List Int} {m j v : Nat} (h : good zs m j) (hj : j < zs.length) (hv : zs.getD j 0 = (v : Int)) (hvm : v < m) (hno : ¬ v ∈ (zs.take j).map Int.toNat) : good zs m (j + 1) := by
  refine ⟨fun i hi => ?_, ?_⟩
  · by_cases e : i = j
    · subst e; omega
    · exact h.1 i (by omega)
  · rw [take_toNat zs j v hj hv, List.nodup_append]
    exact ⟨h.2, by simp, fun a ha b hb => by simp at hb; subst hb; exact fun e => hno (e ▸ ha)⟩

theorem K0_map {zs : List Int} {m : Nat} (hz : m ≤ zs.length) (h : ∀ i, i < m → 0 ≤ zs.getD i 0) : ((zs.take m).map Int.toNat).map (fun (l : Nat) => Value.int .u32 (l : Int)) = A2.part .u32 zs m m := by
  apply List.ext_getElem?
  intro i
  by_cases hi : i < m
  · have h0 := h i hi
    have hl : i < zs.length := by omega
    rw [List.getD_eq_getElem?_getD, List.getElem?_eq_getElem hl] at h0
    simp at h0
    simp [A2.part, hi, List.getElem?_eq_getElem hl, Int.toNat_of_nonneg h0]
  · rw [List.getElem?_eq_none (by simp; omega), List.getElem?_eq_none (by rw [part_len _ _ _ _ (Nat.le_refl _) hz]; omega)]
theorem K0_getD {zs : List Int} {m i : Nat} (hz : m ≤ zs.length) (hi : i < m) (h : 0 ≤ zs.getD i 0) : ((((zs.take m).map Int.toNat).getD i 0 : Nat) : Int) = zs.getD i 0 := by
  have hl : i < zs.length := by omega
  rw [List.getD_eq_getElem?_getD, List.getElem?_eq_getElem hl] at h
  simp at h
  simp [hi, List.getElem?_eq_getElem hl, Int.toNat_of_nonneg h]
theorem rel31_any (b : Option Addr) (m c : Nat) (zs : List Int) (w : World) (hm : m ≤ 1048576) (hz : m ≤ zs.length) (h0 : ∀ i, i < m → 0 ≤ zs.getD i 0) (hc : 0 < m → ∃ g, b = some ⟨g, 0, none⟩ ∧ ∀ i, i < m → w.cell? ⟨g, i, none⟩ = some (.int .u32 (zs.getD i 0))) :
    Calls Try.prog 31 #[.slice b m c] w fun e w' => ∃ T, e = .returned (.pointer (some ⟨T, 0, none⟩)) ∧ TInv w' T w.heap.size (List.replicate m ((0, 0, 0), 0)) (fun _ => none) ((zs.take m).map Int.toNat) 0 ∧ HasMap w' T ∧ Below w.heap.size w w' := by
  rcases Nat.eq_zero_or_pos m with rfl | hp
  · simp only [List.take_zero, List.map_nil]
    exact rel31_nil b c w
  · obtain ⟨g, rfl, hg⟩ := hc hp
    exact rel31 g m c _ w hp hm (by simp; omega) (fun i hi => by rw [hg i hi, K0_getD hz hi (h0 i hi)])

theorem row_base {w : World} {base base' e size : Nat} {v : Value} {n : Nat} {xs : List Value} (h : w.ownsRow base e size v n xs) (hb : base' ≤ base) : w.ownsRow base' e size v n xs := by
  refine ⟨h.1, ?_⟩
  rcases h.2 with h | ⟨g, cap, cur, h1, h2, h3⟩
  · exact .inl h
  · exact .inr ⟨g, cap, cur, h1, Nat.le_trans hb h2, h3⟩
theorem m2_start {zs : List Int} {m : Nat} (h : good zs m m) (hz : m ≤ zs.length) : M2 [] [] [] ((zs.take m).map Int.toNat) (List.replicate m (((0, 0, 0), 0) : Lim × Int)) 0 := by
  refine ⟨rfl, rfl, by simpa using h.2, fun p hp => ?_, fun j x hj => by simp at hj, fun c hc => by cases hc⟩
  simp only [List.append_nil, List.mem_map] at hp
  obtain ⟨z, hz', rfl⟩ := hp
  obtain ⟨i, hi, rfl⟩ := List.getElem_of_mem hz'
  have him : i < m := by simp at hi; omega
  have := h.1 i him
  rw [List.getD_eq_getElem?_getD, List.getElem?_eq_getElem (by omega)] at this
  simp at this ⊢
  omega
theorem rel2_start {wc wd wf : World} {T n m : Nat} {zs : List Int} (h : good zs m m) (hz : m ≤ zs.length) (hm : m ≤ 65536) (hT : TInv wd T wc.heap.size (List.replicate m ((0, 0, 0), 0)) (fun _ => none) ((zs.take m).map Int.toNat) 0) (hM : HasMap wd T) (hb : Below wc.heap.size wc wd)
    (hK : wf.ownsRow wd.heap.size 29 1 (.slice (some ⟨wd.heap.size, 0, none⟩) m m) m (((zs.take m).map Int.toNat).map (fun (l : Nat) => Value.int .u32 (l : Int)))) (hb2 : Below wd.heap.size wd wf) :
    Rel2 wc T n (.slice (some ⟨wd.heap.size, 0, none⟩) m m) (.int .i64 m) (.slice none 0 0) (.slice none 0 0) (.slice none 0 0) (.int .i64 0) wf := by
  have hl : ((zs.take m).map Int.toNat).length = m := by simp; omega
  refine ⟨0, [], [], [], (zs.take m).map Int.toNat, List.replicate m ((0, 0, 0), 0), Nat.zero_le _, rfl, by simp, m2_start h hz, Nat.le_refl _, by simp; omega, by rw [hl]; exact hm, ⟨?_, World.ownsRow_nil _ _ _ _, World.ownsRow_nil _ _ _ _, World.ownsRow_nil _ _ _ _, .inl rfl, hb.trans (hb2.mono hb.size)⟩, TInv.below hT hb2, hasMap_below hM hb2⟩
  rw [hl]
  exact row_base hK hb.size

theorem dist_symm {v w : Value} (h : v.ownBlock = none ∨ v.ownBlock ≠ w.ownBlock) : w.ownBlock = none ∨ w.ownBlock ≠ v.ownBlock := by
  cases hv : w.ownBlock with
  | none => exact .inl rfl
  | some q =>
    refine .inr (fun e => ?_)
    rcases h with hd | hd
    · rw [hd] at e; cases e
    · exact hd (e.symm.trans hv.symm)
theorem stack_top {w : World} {base gK capK l : Nat} {K0 : List Nat} (h : w.ownsRow base 29 1 (.slice (some ⟨gK, 0, none⟩) (K0.length + 1) capK) (K0 ++ [l]).length (u32s (K0 ++ [l]))) : w.cell? ⟨gK, K0.length, none⟩ = some (.int .u32 l) := by
  rw [List.length_append, List.length_singleton] at h
  rw [h.cellAt K0.length (by omega), u32s]
  simp
theorem stack_pop {w : World} {base gK capK l : Nat} {K0 : List Nat} (h : w.ownsRow base 29 1 (.slice (some ⟨gK, 0, none⟩) (K0.length + 1) capK) (K0 ++ [l]).length (u32s (K0 ++ [l]))) : w.ownsRow base 29 1 (.slice (some ⟨gK, 0, none⟩) K0.length capK) K0.length (u32s K0) := by
  rw [List.length_append, List.length_singleton] at h
  rcases h.2 with ⟨h1, _⟩ | ⟨g', cap', cur, h1, hbg, hg, hr⟩
  · simp at h1
  · simp at h1
    obtain ⟨rfl, rfl⟩ := h1
    refine ⟨by simp [u32s], .inr ⟨gK, capK, cur, rfl, hbg, hg, by omega, hr.2.1, hr.2.2.1, ?_⟩⟩
    have h3 : cur.toList.take (K0.length * 1) = (cur.toList.take ((K0.length + 1) * 1)).take K0.length := by rw [List.take_take]; congr 1; omega
    rw [h3, hr.2.2.2]
    simp [u32s, List.take_append_of_le_length]

theorem nil_or_snoc (K : List Nat) : K = [] ∨ ∃ K0 l, K = K0 ++ [l] := by
  rcases List.eq_nil_or_concat K with h | ⟨K0, l, h⟩
  · exact .inl h
  · exact .inr ⟨K0, l, by rw [h, List.concat_eq_append]⟩
theorem f2_new {S : List Lim} {P : List Nat} {x : Lim} {l : Nat} (hP : P.length = S.length) (hi : idx S x = none) : f2 (S ++ [x]) (P ++ [l]) x = some l := by
  rw [f2_snoc S P x l hP hi]
  simp
theorem rowK_at {w : World} {base : Nat} {a : Option Addr} {c : Nat} {K : List Nat} {j l : Nat} (h : w.ownsRow base 29 1 (.slice a K.length c) K.length (u32s K)) (hj : K[j]? = some l) :
    ∃ g, a = some ⟨g, 0, none⟩ ∧ w.cell? ⟨g, j, none⟩ = some (.int .u32 l) := by
  have hlt : j < K.length := (List.getElem?_eq_some_iff.1 hj).1
  rcases h.2 with ⟨_, h0⟩ | ⟨g, cap, cur, hv, _, hg, _⟩
  · omega
  · simp at hv
    obtain ⟨rfl, rfl⟩ := hv
    refine ⟨g, rfl, ?_⟩
    rw [h.cellAt j (by omega), u32s, List.getElem?_map, hj]
    rfl
theorem rowP_at {w : World} {base n : Nat} {v : Value} {xs : List Value} {j : Nat} {u : Value} (h : w.ownsRow base 3 1 v n xs) (hj : xs[j]? = some u) :
    ∃ g cap, v = .slice (some ⟨g, 0, none⟩) n cap ∧ w.cell? ⟨g, j, none⟩ = some u := by
  have hlt : j < xs.length := (List.getElem?_eq_some_iff.1 hj).1
  have hl := h.1
  rcases h.2 with ⟨_, h0⟩ | ⟨g, cap, cur, rfl, _, hg, _⟩
  · omega
  · exact ⟨g, cap, rfl, by rw [h.cellAt j (by omega), hj]⟩

theorem acq2_old' (T base : Nat) (S : List Lim) (P : List Nat) (C : List Int) (K : List Nat) (L : List (Lim × Int)) (k j pp : Nat) (c : Int) (x : Lim) (w : World) (hpp : P.getD j 0 = pp) (hcc : C.getD j 0 = c) (h : TInv w T base L (f2 S P) K k) (hm : M2 S P C K L k) (hx : wf3 x) (hi : idx S x = some j) (hL : L.length ≤ 1048575) (hk : k ≤ 4096) :
    Calls Try.prog 25 #[.pointer (some ⟨T, 0, none⟩), aLim x] w fun e w' => e = .returned (.tuple #[.int .u32 (pp : Int), .bool true]) ∧ TInv w' T base (L.set pp (x, c + 1)) (f2 S P) K (k + 1) ∧ Fr base w w' := by
  subst hpp hcc
  exact acq2_old T base S P C K L k j x w h hm hx hi hL hk

set_option maxRecDepth 100000 in
set_option maxHeartbeats 4000000 in
theorem walk_yes (a : Option Addr) (m cap : Nat) (zs : List Int) (a0 : Option Addr) (n cap0 : Nat) (z0 : List Int) (a1 : Option Addr) (cap1 : Nat) (z1 : List Int) (a2 : Option Addr) (cap2 : Nat) (z2 : List Int) (w : World) (w9 : IsRow .u32 w a m cap zs) (w0 : IsRow .i64 w a0 n cap0 z0) (w1 : IsRow .i64 w a1 n cap1 z1) (w2 : IsRow .i64 w a2 n cap2 z2) (hn : n ≤ 4096) :
    Calls Try.prog 6 #[.slice a m cap, .slice a0 n cap0, .slice a1 n cap1, .slice a2 n cap2] w fun e w' => e = .returned (.bool true) ∧ Below w.heap.size w w' := by
  have f0 := row_wf w0
  have f1 := row_wf w1
  have f2' := row_wf w2
  have f9 := row_wf w9
  have mm := row_max w9
  unfold maxLen at mm
  have W0 : Hid (IsRow .i64 w a0 n cap0 z0) := w0
  have W1 : Hid (IsRow .i64 w a1 n cap1 z1) := w1
  have W2 : Hid (IsRow .i64 w a2 n cap2 z2) := w2
  have W9 : Hid (IsRow .u32 w a m cap zs) := w9
  have WF : Hid (∀ i, i < n → wf3 (z0.getD i 0, z1.getD i 0, z2.getD i 0)) := fun i hi => ⟨f0 i hi, f1 i hi, f2' i hi⟩
  have WU : Hid (∀ i, i < m → 0 ≤ zs.getD i 0 ∧ zs.getD i 0 ≤ 4294967295) := fun i hi => by
    have := f9 i hi
    have h1 : IntKind.u32.min = 0 := rfl
    have h2 : IntKind.u32.max = 4294967295 := rfl
    simpa [Lit.wf, h1, h2] using this
  clear w0 w1 w2 w9 f0 f1 f2' f9
  obtain ⟨i0, hi, hz0, hz1, hz2⟩ := info_parts info4
  go_enter Try.func6, Try.ntmps6
  go_wp2_with (first
    | (go_at_call 30; refine (bytes30 _ _ _ _ _ _ _ _ _ _ _ _ _ (by unfold maxLen; omega) (by unfold maxLen; omega) (by unfold maxLen; omega) (by unfold maxLen; omega)).mono ?_; rintro e w' ⟨b, rfl, hb, hw⟩; obtain rfl : w = w' := hw.symm; cases b)
    | (at_make; refine wpList_make_full _ rfl _ _ 66 rfl w.heap.size 4 i0 (.bool false) 1 Try.underlying66 hi hz0 hz1 .i64 .i64 _ _ m rfl rfl rfl rfl (by rw [hz2]; omega) (by unfold maxLen; omega) (Nat.le_refl _) ?_; intro wm hown1 hgrow1))
  all_goals try (go_ret; exact ⟨rfl, Below.refl _ _⟩)
  have hown : wm.ownsRow w.heap.size 4 1 (.slice (some ⟨w.heap.size, 0, none⟩) m m) m (marks m []) := by
    rw [← marks_nil, ← toList_madeCells_one]; simpa [Value.cells] using hown1
  have hbel : Below w.heap.size w wm := (Below.refl _ _).grown hgrow1 (Nat.le_refl _) (by simp)
  have HW : Hid (wm.ownsRow w.heap.size 4 1 (.slice (some ⟨w.heap.size, 0, none⟩) m m) m (marks m []) ∧ Below w.heap.size w wm) := ⟨hown, hbel⟩
  clear hown1 hgrow1 hown hbel
  go_loopw [12] (fun i wr => ∃ j : Nat, j ≤ m ∧ i = .int .i64 j ∧ good zs m j ∧ wr.ownsRow w.heap.size 4 1 (.slice (some ⟨w.heap.size, 0, none⟩) m m) m (marks m ((zs.take j).map Int.toNat)) ∧ Below w.heap.size w wr) (fun i _ => m - (intOf i).toNat)
  case atStart => exact ⟨0, Nat.zero_le _, rfl, ⟨by omega, by simp⟩, by simpa using HW.out.1, HW.out.2⟩
  case round =>
    obtain ⟨j, hj, rfl, hgood, hown, hbel⟩ := hrel
    clear HW
    by_cases hlt : j < m
    · obtain ⟨x, rfl, hxc, hzl⟩ : ∃ x, a = some x ∧ w.cell? (x.add j) = some (.int .u32 (zs.getD j 0)) ∧ m ≤ zs.length := by
        rcases W9.out with ⟨_, rfl, _⟩ | ⟨x, hx, h1, h2, h3, hc, _⟩
        · omega
        · exact ⟨x, hx, hc j (by omega), by omega⟩
      have hxl := block_lt_of_cell hxc
      have hcell : wr.cell? (x.add j) = some (.int .u32 (zs.getD j 0)) := (hbel.cell hxl).trans hxc
      have hu := WU.out j hlt
      obtain ⟨v, hv⟩ : ∃ v : Nat, zs.getD j 0 = (v : Int) := ⟨(zs.getD j 0).toNat, by omega⟩
      rw [hv] at hcell hu
      have HG : Hid (good zs m j) := hgood
      have HO : Hid (wr.ownsRow w.heap.size 4 1 (.slice (some ⟨w.heap.size, 0, none⟩) m m) m (marks m ((zs.take j).map Int.toNat)) ∧ Below w.heap.size w wr) := ⟨hown, hbel⟩
      have HV : Hid (zs.getD j 0 = (v : Int)) := hv
      have HBel : Hid (Below w.heap.size w wr) := hbel
      by_cases hvm : v < m
      · have hmk := hown.cellAt v (by omega)
        rw [marks_at _ _ _ hvm] at hmk
        have hfz := hown.frozenAt v
        obtain ⟨hst1, hst2⟩ := hown.stored v (.bool true)
        rw [marks_set _ _ _ hvm, ← take_toNat zs j v (by omega) hv] at hst1
        have HST : Hid ((wr.setCell ⟨w.heap.size, v, none⟩ (.bool true)).ownsRow w.heap.size 4 1 (.slice (some ⟨w.heap.size, 0, none⟩) m m) m (marks m ((zs.take (j + 1)).map Int.toNat)) ∧ Below w.heap.size w (wr.setCell ⟨w.heap.size, v, none⟩ (.bool true))) := ⟨hst1, hbel.grown hst2 hbel.size (by simp)⟩
        by_cases hin : v ∈ (zs.take j).map Int.toNat
        · rw [decide_eq_true hin] at hmk
          clear hgood hown hbel hst1 hst2 hxc hv hin
          go_wp2
          go_ret
          exact ⟨rfl, HBel.out⟩
        · rw [decide_eq_false hin] at hmk
          have HN : Hid (good zs m (j + 1)) := good_succ hgood (by omega) hv hvm hin
          clear hgood hown hbel hst1 hst2 hxc hv hin
          go_wp2
          go_roundw
          case rel => exact ⟨j + 1, by omega, by go_num, HN.out, HST.out.1, HST.out.2⟩
          case measure => simp [intOf]; omega
      · clear hgood hown hbel hxc hv
        go_wp2
        go_ret
        exact ⟨rfl, HBel.out⟩
    · obtain rfl : j = m := by omega
      obtain ⟨wz, hwz⟩ : ∃ wz, wz = wr := ⟨_, rfl⟩
      subst hwz
      have HBz : Hid (Below w.heap.size w wz) := hbel
      have HG : Hid (good zs j j) := hgood
      clear hown hbel hgood
      have hjm : j ≤ 65536 := by omega
      go_wp2_with fail
      refine (copy13 _ _ _ _ _ (row_below W9.out HBz.out) (by omega)).mono ?_
      intro e wa h0
      obtain ⟨b9, e9, rfl, p0, p1, hc9, hbel9⟩ := copied_of (by omega) (row_len W9.out) h0
      clear h0
      have HB9 : Hid (Below w.heap.size w wa) := HBz.out.trans (hbel9.mono HBz.out.size)
      go_wp2_with fail
      refine (copy14 _ _ _ _ _ (row_below W0.out HB9.out) (by omega)).mono ?_
      intro e wb h0
      obtain ⟨b0, e0, rfl, g0, g1, hc0, hbel0⟩ := copied_of (by omega) (row_len W0.out) h0
      clear h0
      have HB0 : Hid (Below w.heap.size w wb) := HB9.out.trans (hbel0.mono HB9.out.size)
      go_wp2_with fail
      refine (copy11 _ _ _ _ _ (row_below W1.out HB0.out) (by omega)).mono ?_
      intro e wc' h0
      obtain ⟨b1, e1, rfl, g2, g3, hc1, hbel1⟩ := copied_of (by omega) (row_len W1.out) h0
      clear h0
      have HB1 : Hid (Below w.heap.size w wc') := HB0.out.trans (hbel1.mono HB0.out.size)
      go_wp2_with fail
      refine (copy14 _ _ _ _ _ (row_below W2.out HB1.out) (by omega)).mono ?_
      intro e wc h0
      obtain ⟨b2, e2, rfl, g4, g5, hc2, hbel2⟩ := copied_of (by omega) (row_len W2.out) h0
      clear h0
      have HB : Hid (Below w.heap.size w wc) := HB1.out.trans (hbel2.mono HB1.out.size)
      have HC9 : Hid (0 < j → ∃ g, b9 = some ⟨g, 0, none⟩ ∧ ∀ i, i < j → wc.cell? ⟨g, i, none⟩ = some (.int .u32 (zs.getD i 0))) := by
        intro hj0
        obtain ⟨g, rfl, q⟩ := hc9 hj0
        refine ⟨g, rfl, fun i hi => ?_⟩
        have hl := block_lt_of_cell (q i hi)
        exact (hbel2.cell (p := ⟨g, i, none⟩) (Nat.lt_of_lt_of_le hl (Nat.le_trans hbel0.size hbel1.size))).trans ((hbel1.cell (p := ⟨g, i, none⟩) (Nat.lt_of_lt_of_le hl hbel0.size)).trans ((hbel0.cell (p := ⟨g, i, none⟩) hl).trans (q i hi)))
      have HC : Hid (0 < n → ∃ g0 g1 g2, b0 = some ⟨g0, 0, none⟩ ∧ b1 = some ⟨g1, 0, none⟩ ∧ b2 = some ⟨g2, 0, none⟩ ∧ ∀ i, i < n → wc.cell? ⟨g0, i, none⟩ = some (.int .i64 (z0.getD i 0)) ∧ wc.cell? ⟨g1, i, none⟩ = some (.int .i64 (z1.getD i 0)) ∧ wc.cell? ⟨g2, i, none⟩ = some (.int .i64 (z2.getD i 0))) := by
        intro hn0
        obtain ⟨g0, rfl, q0⟩ := hc0 hn0
        obtain ⟨g1, rfl, q1⟩ := hc1 hn0
        obtain ⟨g2, rfl, q2⟩ := hc2 hn0
        refine ⟨g0, g1, g2, rfl, rfl, rfl, fun i hi => ⟨?_, ?_, q2 i hi⟩⟩
        · have hl := block_lt_of_cell (q0 i hi)
          exact (hbel2.cell (p := ⟨g0, i, none⟩) (Nat.lt_of_lt_of_le hl hbel1.size)).trans ((hbel1.cell (p := ⟨g0, i, none⟩) hl).trans (q0 i hi))
        · exact (hbel2.cell (p := ⟨g1, i, none⟩) (block_lt_of_cell (q1 i hi))).trans (q1 i hi)
      have HZ : Hid (j ≤ zs.length) := row_len W9.out
      clear hc9 hc0 hc1 hc2 hbel9 hbel0 hbel1 hbel2 W0 W1 W2 W9 HB9 HB0 HB1 HBz
      go_wp2_with fail
      refine (rel31_any b9 j e9 zs wc (by omega) HZ.out (fun i hi => (WU.out i hi).1) HC9.out).mono ?_
      rintro e wd ⟨T, rfl, hTd, hMd, hbd⟩
      have HD : Hid (TInv wd T wc.heap.size (List.replicate j ((0, 0, 0), 0)) (fun _ => none) ((zs.take j).map Int.toNat) 0 ∧ HasMap wd T ∧ Below wc.heap.size wc wd) := ⟨hTd, hMd, hbd⟩
      clear hTd hMd hbd
      obtain ⟨i29, hi29, hz29, hs29, hb29⟩ := info_parts info29
      go_wp2_with (at_make; refine wpList_make_full _ rfl _ _ 25 rfl wd.heap.size 29 i29 (.int .u32 0) 1 Try.underlying25 hi29 hz29 hs29 .i64 .i64 _ _ j rfl rfl rfl rfl (by rw [hb29]; omega) (by unfold maxLen; omega) (Nat.le_refl _) ?_; intro we hown1 hgrow1)
      have HE : Hid (we.ownsRow wd.heap.size 29 1 (.slice (some ⟨wd.heap.size, 0, none⟩) j j) j (A2.part .u32 zs j 0) ∧ Below wd.heap.size wd we) := ⟨start_row hown1, (Below.refl _ _).grown hgrow1 (Nat.le_refl _) (by simp)⟩
      clear hown1 hgrow1
      go_loopw [16] (fun v wr => ∃ i : Nat, i ≤ j ∧ v = .int .i64 i ∧ wr.ownsRow wd.heap.size 29 1 (.slice (some ⟨wd.heap.size, 0, none⟩) j j) j (A2.part .u32 zs j i) ∧ Below wd.heap.size wd wr) (fun v _ => j - (intOf v).toNat)
      case atStart => exact ⟨0, Nat.zero_le _, rfl, HE.out.1, HE.out.2⟩
      case round =>
        obtain ⟨i, hij, rfl, hown, hbel⟩ := hrel
        clear HE
        by_cases hlt2 : i < j
        · obtain ⟨g9, rfl, hg9⟩ := HC9.out (by omega)
          have hgc := hg9 i hlt2
          have hgl := block_lt_of_cell hgc
          have hcell : wr.cell? ⟨g9, i, none⟩ = some (.int .u32 (zs.getD i 0)) := (hbel.cell (p := ⟨g9, i, none⟩) (Nat.lt_of_lt_of_le hgl HD.out.2.2.size)).trans ((HD.out.2.2.cell (p := ⟨g9, i, none⟩) hgl).trans hgc)
          have hfz := hown.frozenAt i
          obtain ⟨v0, hold⟩ : ∃ v0, wr.cell? ⟨wd.heap.size, i, none⟩ = some v0 := by
            rw [hown.cellAt i (by omega), List.getElem?_eq_getElem (by rw [part_len _ _ _ _ hij HZ.out]; exact hlt2)]
            exact ⟨_, rfl⟩
          have hst := hown.stored i (.int .u32 (zs.getD i 0))
          rw [part_succ _ _ _ _ hlt2 HZ.out] at hst
          have HS : Hid _ := hst
          have HBl : Hid (Below wd.heap.size wd wr) := hbel
          have hij' : (i : Int) < (j : Int) := by omega
          clear hst hown hbel hgc hg9
          go_wp2
          go_roundw
          case rel => exact ⟨i + 1, by omega, by go_num, by simpa using HS.out.1, by simpa using HBl.out.grown HS.out.2 HBl.out.size (by simp)⟩
          case measure => simp [intOf]; omega
        · obtain rfl : i = j := by omega
          obtain ⟨wf, hwf⟩ : ∃ wf, wf = wr := ⟨_, rfl⟩
          subst hwf
          rw [← K0_map HZ.out (fun q hq => (WU.out q hq).1)] at hown
          have HF : Hid (wf.ownsRow wd.heap.size 29 1 (.slice (some ⟨wd.heap.size, 0, none⟩) i i) i (((zs.take i).map Int.toNat).map (fun (l : Nat) => Value.int .u32 (l : Int))) ∧ Below wd.heap.size wd wf) := ⟨hown, hbel⟩
          clear hown hbel
          go_wp2
          have HR : Hid (Rel2 wc T n (.slice (some ⟨wd.heap.size, 0, none⟩) i i) (.int .i64 i) (.slice none 0 0) (.slice none 0 0) (.slice none 0 0) (.int .i64 0) wf) := rel2_start HG.out HZ.out hjm HD.out.1 HD.out.2.1 HD.out.2.2 HF.out.1 HF.out.2
          have hbase : Hid (wc.heap.size ≤ wd.heap.size) := HD.out.2.2.size
          clear HD HF HC9 HG WU HZ hlt2 hlt hij hj
          go_loopw [15, 17, 18, 19, 20, 21] (fun v15 v17 v18 v19 v20 v21 wr => Rel2 wc T n v15 v17 v18 v19 v20 v21 wr) (fun _ _ _ _ _ q _ => n - (intOf q).toNat)
          case atStart => exact HR.out
          case round =>
            clear HR
            obtain ⟨k, S, P, C, K, L, hk, rfl, rfl, hm2, hSk, hLk, hKk, hrows, hTI, hMap⟩ := hrel
            by_cases hlt : k < n
            · obtain ⟨p0, p1, p2, rfl, rfl, rfl, hcells⟩ := HC.out (by omega)
              have hck := hcells k hlt
              have l0 := block_lt_of_cell hck.1
              have l1 := block_lt_of_cell hck.2.1
              have l2 := block_lt_of_cell hck.2.2
              have d0 : wr.cell? ⟨p0, k, none⟩ = _ := (hrows.bel.cell (by exact l0)).trans hck.1
              have d1 : wr.cell? ⟨p1, k, none⟩ = _ := (hrows.bel.cell (by exact l1)).trans hck.2.1
              have d2 : wr.cell? ⟨p2, k, none⟩ = _ := (hrows.bel.cell (by exact l2)).trans hck.2.2
              have hx := WF.out k hlt
              generalize z0.getD k 0 = x0 at *
              generalize z1.getD k 0 = x1 at *
              generalize z2.getD k 0 = x2 at *
              have hsz := hrows.bel.size
              simp only at l0 l1 l2
              have HH : Hid (∀ W1, Below wr.heap.size wr W1 → W1.heap[wr.heap.size]? = some (.cells #[.int .i64 x0, .int .i64 x1, .int .i64 x2] 58 (0, 0)) → St2 wc W1 T u15 u18 u19 u20 S P C K L (f2 S P) K k (x0, x1, x2) wr.heap.size ∧ HasMap W1 T) := fun W1 hb hl =>
                ⟨⟨hrows.below hb, TInv.below hTI hb, hl⟩, hasMap_below hMap hb⟩
              have HX : Hid (wf3 (x0, x1, x2)) := hx
              have HM : Hid (M2 S P C K L k) := hm2
              clear hm2 hrows hTI hMap hx hcells hck
              have hki : (k : Int) < (n : Int) := by omega
              have hk0 : (0 : Int) ≤ (k : Int) := by omega
              go_wp2
              go_region_held3 (fun w' => w'.cell? ⟨p0, k, none⟩ = some (.int .i64 x0) ∧ w'.cell? ⟨p1, k, none⟩ = some (.int .i64 x1) ∧ w'.cell? ⟨p2, k, none⟩ = some (.int .i64 x2)) (go_keep) (fail)
              go_wp2
              refine wp_gen (fun W => (St2 wc W T u15 u18 u19 u20 S P C K L (f2 S P) K k (x0, x1, x2) wr.heap.size ∧ HasMap W T) ∧ Below wr.heap.size wr W) (by
                have hb : Below wr.heap.size wr (wr.alloc (.cells #[.int .i64 x0, .int .i64 x1, .int .i64 x2] 58)).drew := ((Below.refl _ _).alloc (Nat.le_refl _) _).drew
                exact ⟨HH.out _ hb (heap_alloc_new wr _), hb⟩) ?_
              intro W hW
              obtain ⟨hSt, hbW⟩ := hW
              have HSt : Hid (St2 wc W T u15 u18 u19 u20 S P C K L (f2 S P) K k (x0, x1, x2) wr.heap.size ∧ HasMap W T) := hSt
              have r0 : W.cell? ⟨p0, k, none⟩ = _ := (hbW.cell (by show p0 < _; omega)).trans d0
              have r1 : W.cell? ⟨p1, k, none⟩ = _ := (hbW.cell (by show p1 < _; omega)).trans d1
              have r2 : W.cell? ⟨p2, k, none⟩ = _ := (hbW.cell (by show p2 < _; omega)).trans d2
              have hWs : wr.heap.size ≤ W.heap.size := hbW.size
              clear hSt hbW d0 d1 d2 HH
              cases hi : idx S (x0, x1, x2) with
              | some j2 =>
                have HI : Hid (idx S (x0, x1, x2) = some j2) := hi
                obtain ⟨c, hc⟩ : ∃ c, C.getD j2 0 = c := ⟨_, rfl⟩
                obtain ⟨pp, hpp⟩ : ∃ pp, P.getD j2 0 = pp := ⟨_, rfl⟩
                have HCC : Hid (C.getD j2 0 = c) := hc
                have HPP : Hid (P.getD j2 0 = pp) := hpp
                clear hi hc hpp
                go_region_held3 (fun w' => w'.cell? ⟨p0, k, none⟩ = some (.int .i64 x0) ∧ w'.cell? ⟨p1, k, none⟩ = some (.int .i64 x1) ∧ w'.cell? ⟨p2, k, none⟩ = some (.int .i64 x2)) (go_keep)
                  (first
                    | (go_at_call 21; refine (lim21 _ _ _ _).mono ?_; rintro e wl ⟨rfl, hb21⟩; have hb2 : Below W.heap.size W wl := ⟨hb21.os, hb21.tape, hb21.output, hb21.size, hb21.block⟩; have q0 : wl.cell? ⟨p0, k, none⟩ = some (.int .i64 x0) := (hb21.cell (by show p0 < W.heap.size; omega)).trans r0; have q1 : wl.cell? ⟨p1, k, none⟩ = some (.int .i64 x1) := (hb21.cell (by show p1 < W.heap.size; omega)).trans r1; have q2 : wl.cell? ⟨p2, k, none⟩ = some (.int .i64 x2) := (hb21.cell (by show p2 < W.heap.size; omega)).trans r2; clear r0 r1 r2)
                    | (go_at_call 25; refine (acq2_old' T wc.heap.size S P C K L k j2 pp c (x0, x1, x2) wl HPP.out HCC.out (HSt.out.1.below hb2).tab HM.out HX.out HI.out (by omega) (by omega)).mono ?_; rintro e wm ⟨rfl, hTm, hFm⟩; have t0 : wm.cell? ⟨p0, k, none⟩ = some (.int .i64 x0) := (World.cell?_of_block (hFm.block p0 (by omega))).trans q0; have t1 : wm.cell? ⟨p1, k, none⟩ = some (.int .i64 x1) := (World.cell?_of_block (hFm.block p1 (by omega))).trans q1; have t2 : wm.cell? ⟨p2, k, none⟩ = some (.int .i64 x2) := (World.cell?_of_block (hFm.block p2 (by omega))).trans q2))
                have hS2 := (HSt.out.1.below hb2).fr hFm hTm
                obtain ⟨m0, m1, m2⟩ := hS2.cells
                have HS2 : Hid (St2 wc wm T u15 u18 u19 u20 S P C K (L.set pp ((x0, x1, x2), c + 1)) (f2 S P) K (k + 1) (x0, x1, x2) wr.heap.size) := hS2
                clear hS2 HSt q0 q1 q2 t0 t1 t2 hTm hFm hb2 hb21
                go_wp2_with fail
                refine (find26 wc.heap.size u18 S (x0, x1, x2) _ HS2.out.rows.rS (by omega)).mono ?_
                rintro e wf ⟨rfl, hbf⟩
                have hS3 := HS2.out.below hbf
                obtain ⟨f0, f1, f2c⟩ := hS3.cells
                have HS3 : Hid (St2 wc wf T u15 u18 u19 u20 S P C K (L.set pp ((x0, x1, x2), c + 1)) (f2 S P) K (k + 1) (x0, x1, x2) wr.heap.size) := hS3
                clear hS3 hbf HS2 m0 m1 m2
                obtain ⟨hjS, hSj⟩ := idx_lt HI.out
                rw [Go.Proofs.Qxb6605674a.B1.place_some HI.out]
                have hPS := HM.out.hP
                have hCS := HM.out.hC
                obtain ⟨gC, capC, curC, rfl, hbC, hgC, hnC, hmC, hcsC, htC⟩ : ∃ g cap cur, u20 = .slice (some ⟨g, 0, none⟩) S.length cap ∧ wc.heap.size ≤ g ∧ wf.heap[g]? = some (.cells cur 3 (0, 0)) ∧ S.length ≤ cap ∧ cap ≤ maxLen ∧ cur.size = cap * 1 ∧ cur.toList.take (S.length * 1) = C.map (Value.int .i64) := by
                  rcases HS3.out.rows.rC.2 with ⟨_, h0⟩ | h
                  · omega
                  · exact h
                obtain ⟨gP, capP, curP, rfl, hbP, hgP, hnP, hmP, hcsP, htP⟩ : ∃ g cap cur, u19 = .slice (some ⟨g, 0, none⟩) S.length cap ∧ wc.heap.size ≤ g ∧ wf.heap[g]? = some (.cells cur 3 (0, 0)) ∧ S.length ≤ cap ∧ cap ≤ maxLen ∧ cur.size = cap * 1 ∧ cur.toList.take (S.length * 1) = i64s P := by
                  rcases HS3.out.rows.rP.2 with ⟨_, h0⟩ | h
                  · omega
                  · exact h
                have hne : gP ≠ gC := by
                  rcases HS3.out.rows.dist with h | h
                  · simp [Value.ownBlock] at h
                  · simpa [Value.ownBlock] using h
                have c20 := HS3.out.rows.rC.cellAt j2 (by omega)
                have fz20 := HS3.out.rows.rC.frozenAt j2
                have c19 := HS3.out.rows.rP.cellAt j2 (by omega)
                have hCj : C[j2]? = some (C.getD j2 0) := by rw [List.getD_eq_getElem?_getD, List.getElem?_eq_getElem (by omega)]; simp
                have hPj : P[j2]? = some (P.getD j2 0) := by rw [List.getD_eq_getElem?_getD, List.getElem?_eq_getElem (by omega)]; simp
                rw [List.getElem?_map, hCj] at c20
                unfold i64s at c19
                rw [List.getElem?_map, hPj] at c19
                simp only [Option.map_some] at c20 c19
                have hcb := HM.out.cb _ (List.mem_of_getElem? hCj)
                have hpb := HM.out.lt (P.getD j2 0) (List.mem_append_right _ (List.mem_of_getElem? hPj))
                have hj1 : (j2 : Int) < (S.length : Int) := by omega
                have hc := HCC.out
                have hpp := HPP.out
                have HN : Hid (M2 S P (C.set j2 (c + 1)) K (L.set pp ((x0, x1, x2), c + 1)) (k + 1)) := by
                  have := HM.out.old hSj
                  rwa [hc, hpp] at this
                rw [hc] at c20 hcb
                rw [hpp] at c19 hpb
                have HST : Hid (Rows4 wc (wf.setCell ⟨gC, j2, none⟩ (.int .i64 (c + 1))) u15 u18 (.slice (some ⟨gP, 0, none⟩) S.length capP) (.slice (some ⟨gC, 0, none⟩) S.length capC) S P (C.set j2 (c + 1)) K ∧ TInv (wf.setCell ⟨gC, j2, none⟩ (.int .i64 (c + 1))) T wc.heap.size (L.set pp ((x0, x1, x2), c + 1)) (f2 S P) K (k + 1)) := by
                  exact rows_old (j := j2) (c := c + 1) HS3.out
                have HMp : Hid (f2 S P (x0, x1, x2) = some pp) := by show f2 S P (x0, x1, x2) = some pp; simp only [f2, HI.out, Option.map_some, hpp]
                clear hgC htC hcsC hgP htP hcsP hc hpp hCj hPj hSj HS3 hPS hCS HX HM HI
                go_wp2_with fail
                go_roundw
                case rel => exact ⟨k + 1, S, P, C.set j2 (c + 1), K, L.set pp ((x0, x1, x2), c + 1), by omega, by go_num, by simp, HN.out, by omega, by simp; omega, hKk, HST.out.1, HST.out.2, hasMap_of HST.out.2 HMp.out⟩
                case measure => simp [intOf]; omega
              | none =>
                have HI : Hid (idx S (x0, x1, x2) = none) := hi
                rcases nil_or_snoc K with rfl | ⟨K0, l, rfl⟩
                · obtain ⟨aK, cK, rfl⟩ := row_form HSt.out.1.rows.rK
                  go_region_held3 (fun w' => w'.cell? ⟨p0, k, none⟩ = some (.int .i64 x0) ∧ w'.cell? ⟨p1, k, none⟩ = some (.int .i64 x1) ∧ w'.cell? ⟨p2, k, none⟩ = some (.int .i64 x2)) (go_keep)
                    (first
                      | (go_at_call 21; refine (lim21 _ _ _ _).mono ?_; rintro e wl ⟨rfl, hb21⟩; have hb2 : Below W.heap.size W wl := ⟨hb21.os, hb21.tape, hb21.output, hb21.size, hb21.block⟩; have q0 : wl.cell? ⟨p0, k, none⟩ = some (.int .i64 x0) := (hb21.cell (by show p0 < W.heap.size; omega)).trans r0; have q1 : wl.cell? ⟨p1, k, none⟩ = some (.int .i64 x1) := (hb21.cell (by show p1 < W.heap.size; omega)).trans r1; have q2 : wl.cell? ⟨p2, k, none⟩ = some (.int .i64 x2) := (hb21.cell (by show p2 < W.heap.size; omega)).trans r2; clear r0 r1 r2)
                      | (go_at_call 25; refine (acq2_grow T wc.heap.size S P C L k (x0, x1, x2) wl (HSt.out.1.below hb2).tab (hasMap_below HSt.out.2 hb2) HM.out HX.out HI.out (by omega) (by omega)).mono ?_; rintro e wm ⟨rfl, hTm, hFm⟩; have t0 : wm.cell? ⟨p0, k, none⟩ = some (.int .i64 x0) := (World.cell?_of_block (hFm.block p0 (by omega))).trans q0; have t1 : wm.cell? ⟨p1, k, none⟩ = some (.int .i64 x1) := (World.cell?_of_block (hFm.block p1 (by omega))).trans q1; have t2 : wm.cell? ⟨p2, k, none⟩ = some (.int .i64 x2) := (World.cell?_of_block (hFm.block p2 (by omega))).trans q2))
                  have hS2 := (HSt.out.1.below hb2).fr hFm hTm
                  obtain ⟨m0, m1, m2⟩ := hS2.cells
                  have HS2 : Hid (St2 wc wm T (.slice aK ([] : List Nat).length cK) u18 u19 u20 S P C ([]) (L ++ [((x0, x1, x2), 1)]) (f2 (S ++ [(x0, x1, x2)]) (P ++ [L.length])) [] (k + 1) (x0, x1, x2) wr.heap.size) := hS2
                  clear hS2 HSt q0 q1 q2 t0 t1 t2 hTm hFm hb2 hb21
                  go_wp2_with fail
                  refine (find26 wc.heap.size u18 S (x0, x1, x2) _ HS2.out.rows.rS (by omega)).mono ?_
                  rintro e wf ⟨rfl, hbf⟩
                  have hS3 := HS2.out.below hbf
                  obtain ⟨f0, f1, f2c⟩ := hS3.cells
                  have HS3 : Hid (St2 wc wf T (.slice aK ([] : List Nat).length cK) u18 u19 u20 S P C ([]) (L ++ [((x0, x1, x2), 1)]) (f2 (S ++ [(x0, x1, x2)]) (P ++ [L.length])) [] (k + 1) (x0, x1, x2) wr.heap.size) := hS3
                  clear hS3 hbf HS2 m0 m1 m2
                  rw [Go.Proofs.Qxb6605674a.B1.place_none HI.out]
                  have HDs : Hid (u20.ownBlock = none ∨ u20.ownBlock ≠ u19.ownBlock) := dist_symm HS3.out.rows.dist
                  have HCl : Hid (C.length = S.length) := HM.out.hC
                  have HPl : Hid (P.length = S.length) := HM.out.hP
                  obtain ⟨ia, hia, hza0, hza1, hza2⟩ := info_parts Go.Proofs.Qxb6605674a.B1.info58
                  obtain ⟨ib, hib, hzb0, hzb1, hzb2⟩ := info_parts info3
                  clear hi HX
                  go_wp2_with (first
                    | (at_builtin; refine wpList_append_lies _ rfl _ _ 56 rfl wc.heap.size 58 ia (.agg #[.int .i64 0, .int .i64 0, .int .i64 0]) 3 24 Try.underlying56 hia hza0 hza1 hza2 rfl (by decide) _ S.length (flat3 S) rfl (by exact HS3.out.rows.rS.alloc _) _ 1 1 [.int .i64 x0, .int .i64 x1, .int .i64 x2] rfl rfl (by exact World.news_of_block (cs := #[.int .i64 x0, .int .i64 x1, .int .i64 x2]) (heap_alloc_new _ _)) (by simp [Value.oneCell']) (by decide) (by unfold maxLen; omega) (by omega) (by have := HS3.out.rows.bel.size; simp; omega) _ rfl ?_; intro g18 cap18 wp hown18 hgrow18 hat18 hlt18)
                    | (at_builtin; refine wpList_append_lies _ rfl (.tmp 204) (.tmp 206) 26 rfl wc.heap.size 3 ib (.int .i64 0) 1 8 Try.underlying26 hib hzb0 hzb1 hzb2 rfl (by decide) _ S.length (i64s P) rfl (by exact ((Oth.grown (HS3.out.rows.rS.alloc _) hgrow18).row (HS3.out.rows.rP.alloc _) (by decide)).alloc _) _ 1 1 [.int .i64 (L.length : Int)] rfl rfl (by exact World.news_of_block (cs := #[.int .i64 (L.length : Int)]) (heap_alloc_new _ _)) (by simp [Value.oneCell']) (by decide) (by unfold maxLen; omega) (by omega) (by have h1 := HS3.out.rows.bel.size; have h2 := hgrow18.size; simp at h2; simp; omega) (wp.heap.size + 1) (by simp) ?_; intro g19 cap19 wq hown19 hgrow19 hat19 hlt19)
                    | (at_builtin; refine wpList_append_lies _ rfl (.tmp 208) (.tmp 209) 26 rfl wc.heap.size 3 ib (.int .i64 0) 1 8 Try.underlying26 hib hzb0 hzb1 hzb2 rfl (by decide) _ S.length (C.map (Value.int .i64)) rfl (by exact ((((Oth.grown (HS3.out.rows.rS.alloc _) hgrow18).row (HS3.out.rows.rC.alloc _) (by decide)).alloc _).kept hgrow19 HDs.out).alloc _) _ 1 1 [.int .i64 0] rfl rfl (by exact World.news_of_block (cs := #[.int .i64 0]) (heap_alloc_new _ _)) (by simp [Value.oneCell']) (by decide) (by unfold maxLen; omega) (by omega) (by have h1 := HS3.out.rows.bel.size; have h2 := hgrow18.size; have h3 := hgrow19.size; simp at h2 h3; simp; omega) (wq.heap.size + 1) (by simp) ?_; intro g20 cap20 wt hown20 hgrow20 hat20 hlt20; have RN := rows_new HS3.out HCl.out hown18 hgrow18 hown19 hgrow19 hat19 hlt19 hown20 hgrow20 hat20; obtain ⟨hne, hP3, hR3, hT3⟩ := RN; have HR3 : Hid (_ ∧ _) := ⟨hR3, hT3⟩; have c20 := hown20.cellAt S.length (by omega); have fz20 := hown20.frozenAt S.length; rw [List.getElem?_append_right (by rw [List.length_map, HCl.out]; exact Nat.le_refl _), List.length_map, HCl.out, Nat.sub_self] at c20; simp only [List.getElem?_cons_zero] at c20; have c19 := hP3.cellAt S.length (by omega); rw [List.getElem?_append_right (by rw [i64s, List.length_map, HPl.out]; exact Nat.le_refl _), i64s, List.length_map, HPl.out, Nat.sub_self] at c19; simp only [List.getElem?_cons_zero] at c19; clear hR3 hT3 hP3))
                  go_roundw
                  case rel => exact ⟨k + 1, S ++ [(x0, x1, x2)], P ++ [L.length], C ++ [1], [], L ++ [((x0, x1, x2), 1)], by omega, by go_num, by simp, HM.out.grow _, by simp; omega, by simp; omega, by simp, HR3.out.1, HR3.out.2, hasMap_of HR3.out.2 (f2_new HPl.out HI.out)⟩
                  case measure => simp [intOf]; omega
                · rw [List.length_append, List.length_singleton] at hKk
                  obtain ⟨gK, capK, curK, rfl, hbK, hgK, hnK, hmK, hcsK, htK⟩ : ∃ g cap cur, u15 = .slice (some ⟨g, 0, none⟩) (K0.length + 1) cap ∧ wc.heap.size ≤ g ∧ W.heap[g]? = some (.cells cur 29 (0, 0)) ∧ K0.length + 1 ≤ cap ∧ cap ≤ maxLen ∧ cur.size = cap * 1 ∧ cur.toList.take ((K0.length + 1) * 1) = u32s (K0 ++ [l]) := by
                    have := HSt.out.1.rows.rK.2
                    rw [List.length_append, List.length_singleton] at this
                    rcases this with ⟨_, h0⟩ | h
                    · omega
                    · exact h
                  have hlL : l < L.length := HM.out.lt l (by simp)
                  clear hgK htK hcsK
                  go_region_held3 (fun w' => w'.cell? ⟨p0, k, none⟩ = some (.int .i64 x0) ∧ w'.cell? ⟨p1, k, none⟩ = some (.int .i64 x1) ∧ w'.cell? ⟨p2, k, none⟩ = some (.int .i64 x2)) (go_keep)
                    (first
                      | (go_at_call 21; refine (lim21 _ _ _ _).mono ?_; rintro e wl ⟨rfl, hb21⟩; have hb2 : Below W.heap.size W wl := ⟨hb21.os, hb21.tape, hb21.output, hb21.size, hb21.block⟩; have q0 : wl.cell? ⟨p0, k, none⟩ = some (.int .i64 x0) := (hb21.cell (by show p0 < W.heap.size; omega)).trans r0; have q1 : wl.cell? ⟨p1, k, none⟩ = some (.int .i64 x1) := (hb21.cell (by show p1 < W.heap.size; omega)).trans r1; have q2 : wl.cell? ⟨p2, k, none⟩ = some (.int .i64 x2) := (hb21.cell (by show p2 < W.heap.size; omega)).trans r2; clear r0 r1 r2)
                      | (go_at_call 25; refine (acq2_free T wc.heap.size S P C K0 l L k (x0, x1, x2) wl (HSt.out.1.below hb2).tab (hasMap_below HSt.out.2 hb2) HM.out HX.out HI.out (by omega) (by omega) (by omega)).mono ?_; rintro e wm ⟨rfl, hTm, hFm⟩; have t0 : wm.cell? ⟨p0, k, none⟩ = some (.int .i64 x0) := (World.cell?_of_block (hFm.block p0 (by omega))).trans q0; have t1 : wm.cell? ⟨p1, k, none⟩ = some (.int .i64 x1) := (World.cell?_of_block (hFm.block p1 (by omega))).trans q1; have t2 : wm.cell? ⟨p2, k, none⟩ = some (.int .i64 x2) := (World.cell?_of_block (hFm.block p2 (by omega))).trans q2))
                  have hS2 := (HSt.out.1.below hb2).fr hFm hTm
                  obtain ⟨m0, m1, m2⟩ := hS2.cells
                  have HS2 : Hid (St2 wc wm T (.slice (some ⟨gK, 0, none⟩) (K0.length + 1) capK) u18 u19 u20 S P C (K0 ++ [l]) (L.set l ((x0, x1, x2), 1)) (f2 (S ++ [(x0, x1, x2)]) (P ++ [l])) K0 (k + 1) (x0, x1, x2) wr.heap.size) := hS2
                  clear hS2 HSt q0 q1 q2 t0 t1 t2 hTm hFm hb2 hb21
                  go_wp2_with fail
                  refine (find26 wc.heap.size u18 S (x0, x1, x2) _ HS2.out.rows.rS (by omega)).mono ?_
                  rintro e wf ⟨rfl, hbf⟩
                  have hS3 := HS2.out.below hbf
                  obtain ⟨f0, f1, f2c⟩ := hS3.cells
                  have HS3 : Hid (St2 wc wf T (.slice (some ⟨gK, 0, none⟩) (K0.length + 1) capK) u18 u19 u20 S P C (K0 ++ [l]) (L.set l ((x0, x1, x2), 1)) (f2 (S ++ [(x0, x1, x2)]) (P ++ [l])) K0 (k + 1) (x0, x1, x2) wr.heap.size) := hS3
                  clear hS3 hbf HS2 m0 m1 m2
                  rw [Go.Proofs.Qxb6605674a.B1.place_none HI.out]
                  have hck : wf.cell? ⟨gK, K0.length, none⟩ = some (.int .u32 l) := stack_top HS3.out.rows.rK
                  have hKi : (K0.length : Int) + 1 ≤ (capK : Int) := by omega
                  have HDs : Hid (u20.ownBlock = none ∨ u20.ownBlock ≠ u19.ownBlock) := dist_symm HS3.out.rows.dist
                  have HCl : Hid (C.length = S.length) := HM.out.hC
                  have HPl : Hid (P.length = S.length) := HM.out.hP
                  obtain ⟨ia, hia, hza0, hza1, hza2⟩ := info_parts Go.Proofs.Qxb6605674a.B1.info58
                  obtain ⟨ib, hib, hzb0, hzb1, hzb2⟩ := info_parts info3
                  clear hi HX
                  go_wp2_with (first
                    | (at_builtin; refine wpList_append_lies _ rfl _ _ 56 rfl wc.heap.size 58 ia (.agg #[.int .i64 0, .int .i64 0, .int .i64 0]) 3 24 Try.underlying56 hia hza0 hza1 hza2 rfl (by decide) _ S.length (flat3 S) rfl (by exact HS3.out.rows.rS.alloc _) _ 1 1 [.int .i64 x0, .int .i64 x1, .int .i64 x2] rfl rfl (by exact World.news_of_block (cs := #[.int .i64 x0, .int .i64 x1, .int .i64 x2]) (heap_alloc_new _ _)) (by simp [Value.oneCell']) (by decide) (by unfold maxLen; omega) (by omega) (by have := HS3.out.rows.bel.size; simp; omega) _ rfl ?_; intro g18 cap18 wp hown18 hgrow18 hat18 hlt18)
                    | (at_builtin; refine wpList_append_lies _ rfl (.tmp 204) (.tmp 206) 26 rfl wc.heap.size 3 ib (.int .i64 0) 1 8 Try.underlying26 hib hzb0 hzb1 hzb2 rfl (by decide) _ S.length (i64s P) rfl (by exact ((Oth.grown (HS3.out.rows.rS.alloc _) hgrow18).row (HS3.out.rows.rP.alloc _) (by decide)).alloc _) _ 1 1 [.int .i64 (l : Int)] rfl rfl (by exact World.news_of_block (cs := #[.int .i64 (l : Int)]) (heap_alloc_new _ _)) (by simp [Value.oneCell']) (by decide) (by unfold maxLen; omega) (by omega) (by have h1 := HS3.out.rows.bel.size; have h2 := hgrow18.size; simp at h2; simp; omega) (wp.heap.size + 1) (by simp) ?_; intro g19 cap19 wq hown19 hgrow19 hat19 hlt19)
                    | (at_builtin; refine wpList_append_lies _ rfl (.tmp 208) (.tmp 209) 26 rfl wc.heap.size 3 ib (.int .i64 0) 1 8 Try.underlying26 hib hzb0 hzb1 hzb2 rfl (by decide) _ S.length (C.map (Value.int .i64)) rfl (by exact ((((Oth.grown (HS3.out.rows.rS.alloc _) hgrow18).row (HS3.out.rows.rC.alloc _) (by decide)).alloc _).kept hgrow19 HDs.out).alloc _) _ 1 1 [.int .i64 0] rfl rfl (by exact World.news_of_block (cs := #[.int .i64 0]) (heap_alloc_new _ _)) (by simp [Value.oneCell']) (by decide) (by unfold maxLen; omega) (by omega) (by have h1 := HS3.out.rows.bel.size; have h2 := hgrow18.size; have h3 := hgrow19.size; simp at h2 h3; simp; omega) (wq.heap.size + 1) (by simp) ?_; intro g20 cap20 wt hown20 hgrow20 hat20 hlt20; have RN := rows_new HS3.out HCl.out hown18 hgrow18 hown19 hgrow19 hat19 hlt19 hown20 hgrow20 hat20; obtain ⟨hne, hP3, hR3, hT3⟩ := RN; have HR3 : Hid (_ ∧ _) := ⟨hR3, hT3⟩; have c20 := hown20.cellAt S.length (by omega); have fz20 := hown20.frozenAt S.length; rw [List.getElem?_append_right (by rw [List.length_map, HCl.out]; exact Nat.le_refl _), List.length_map, HCl.out, Nat.sub_self] at c20; simp only [List.getElem?_cons_zero] at c20; have c19 := hP3.cellAt S.length (by omega); rw [List.getElem?_append_right (by rw [i64s, List.length_map, HPl.out]; exact Nat.le_refl _), i64s, List.length_map, HPl.out, Nat.sub_self] at c19; simp only [List.getElem?_cons_zero] at c19; clear hR3 hT3 hP3))
                  go_roundw
                  case rel => exact ⟨k + 1, S ++ [(x0, x1, x2)], P ++ [l], C ++ [1], K0, L.set l ((x0, x1, x2), 1), by omega, by go_num, by simp, HM.out.free _, by simp; omega, by simp; omega, by omega, ⟨stack_pop HR3.out.1.rK, HR3.out.1.rS, HR3.out.1.rP, HR3.out.1.rC, HR3.out.1.dist, HR3.out.1.bel⟩, HR3.out.2, hasMap_of HR3.out.2 (f2_new HPl.out HI.out)⟩
                  case measure => simp [intOf]; omega
            · obtain rfl : k = n := by omega
              obtain ⟨wy, hwy⟩ : ∃ wy, wy = wr := ⟨_, rfl⟩
              subst hwy
              have HM : Hid (M2 S P C K L k) := hm2
              have HR : Hid (Rows4 wc wy u15 u18 u19 u20 S P C K) := hrows
              have HT : Hid (TInv wy T wc.heap.size L (f2 S P) K k) := hTI
              obtain ⟨aS, cS, rfl⟩ := row_form hrows.rS
              obtain ⟨aK, cK, rfl⟩ := row_form hrows.rK
              clear HC WF hm2 hrows hTI hMap
              go_wp2_with (first
                | (go_at_call 27; refine (len27 _ _ _ _ _ _ _ HT.out).mono ?_; rintro e w' ⟨rfl, hw⟩; obtain rfl : wy = w' := hw.symm)
                | (go_at_call 28; refine (len28 _ _ _ _ _ _ _ HT.out).mono ?_; rintro e w' ⟨rfl, hw⟩; obtain rfl : wy = w' := hw.symm))
              go_loopw [27] (fun v wx => ∃ i2 : Nat, i2 ≤ K.length ∧ v = .int .i64 i2 ∧ Below wy.heap.size wy wx) (fun v _ => K.length - (intOf v).toNat)
              case atStart => exact ⟨0, Nat.zero_le _, rfl, Below.refl _ _⟩
              case round =>
                obtain ⟨i2, hi2, rfl, hbx4⟩ := hrel
                by_cases hlt2 : i2 < K.length
                · obtain ⟨l, hl⟩ : ∃ l, K[i2]? = some l := ⟨_, List.getElem?_eq_getElem hlt2⟩
                  obtain ⟨gK, rfl, s0⟩ := rowK_at HR.out.rK hl
                  have lK := block_lt_of_cell s0
                  have s1 : wr.cell? ⟨gK, i2, none⟩ = some (.int .u32 l) := (hbx4.cell (p := ⟨gK, i2, none⟩) lK).trans s0
                  have HB4 : Hid (Below wy.heap.size wy wr) := hbx4
                  clear s0 hbx4
                  have HL : Hid (K[i2]? = some l) := hl
                  have hi3 : (i2 : Int) < (K.length : Int) := by omega
                  clear hl
                  go_wp2_with fail
                  go_quiet ((go_at_call 32; refine Calls.quiet_of (at32 T wc.heap.size L (f2 S P) K k i2 l _ ?_ HL.out (by omega)); exact TInv.below HT.out (belN HB4.out _)))
                  go_wp2_with fail
                  go_roundw
                  case rel => exact ⟨i2 + 1, by omega, by go_num, belN HB4.out _⟩
                  case measure => simp [intOf]; omega
                · go_wp2_with fail
                  go_loopw [28] (fun v wx => ∃ j3 : Nat, j3 ≤ S.length ∧ v = .int .i64 j3 ∧ Below wy.heap.size wy wx) (fun v _ => S.length - (intOf v).toNat)
                  case atStart => exact ⟨0, Nat.zero_le _, rfl, hbx4⟩
                  case round =>
                    obtain ⟨j3, hj3, rfl, hbx⟩ := hrel
                    by_cases hlt3 : j3 < S.length
                    · have hPS := HM.out.hP
                      have hCS := HM.out.hC
                      obtain ⟨⟨y0, y1, y2⟩, hy⟩ : ∃ y, S[j3]? = some y := ⟨_, List.getElem?_eq_getElem hlt3⟩
                      have hCj : C[j3]? = some (C.getD j3 0) := by rw [List.getD_eq_getElem?_getD, List.getElem?_eq_getElem (by omega)]; simp
                      have hPj : P[j3]? = some (P.getD j3 0) := by rw [List.getD_eq_getElem?_getD, List.getElem?_eq_getElem (by omega)]; simp
                      have hpos := HM.out.pos j3 _ hy
                      have hpl := HM.out.lt (P.getD j3 0) (List.mem_append_right _ (List.mem_of_getElem? hPj))
                      obtain ⟨c, hc⟩ : ∃ c, C.getD j3 0 = c := ⟨_, rfl⟩
                      obtain ⟨pp, hpp⟩ : ∃ pp, P.getD j3 0 = pp := ⟨_, rfl⟩
                      rw [hc] at hCj hpos
                      rw [hpp] at hPj hpos hpl
                      obtain ⟨gS, rfl, s0, s1, s2⟩ := Go.Proofs.Qxb6605674a.B1.row3_at HR.out.rS hy
                      obtain ⟨gC, capC, rfl, s3⟩ := rowP_at (u := .int .i64 c) HR.out.rC (by rw [List.getElem?_map, hCj]; rfl)
                      obtain ⟨gP, capP, rfl, s4⟩ := rowP_at (u := .int .i64 pp) HR.out.rP (by rw [i64s, List.getElem?_map, hPj]; rfl)
                      have lS := block_lt_of_cell s0
                      have lC := block_lt_of_cell s3
                      have lP := block_lt_of_cell s4
                      simp only at lS lC lP
                      have HZ : Hid (L[pp]? = some ((y0, y1, y2), c)) := hpos
                      have hjl : (j3 : Int) < (S.length : Int) := by omega
                      have v0 := (hbx.cell (p := ⟨gP, j3, none⟩) lP).trans s4
                      clear hpos hCj hPj hy hPS hCS hc hpp s4
                      go_wp2_with (go_at_call 29; refine (at29 T wc.heap.size _ _ _ _ pp y0 y1 y2 c _ (TInv.below HT.out hbx) HZ.out (by omega)).mono ?_; rintro e wk ⟨rfl, hbk⟩; have hbk' := hbx.trans (hbk.mono hbx.size); have t0 := (hbk'.cell (p := ⟨gS, j3 * 3, none⟩) lS).trans s0; have t1 := (hbk'.cell (p := ⟨gS, j3 * 3 + 1, none⟩) lS).trans s1; have t2 := (hbk'.cell (p := ⟨gS, j3 * 3 + 2, none⟩) lS).trans s2; have t3 := (hbk'.cell (p := ⟨gC, j3, none⟩) lC).trans s3; clear s0 s1 s2 s3)
                      go_roundw
                      case rel => exact ⟨j3 + 1, by omega, by go_num, hbk'⟩
                      case measure => simp [intOf]; omega
                    · go_wp2_with fail
                      go_ret
                      exact ⟨rfl, HB.out.trans ((HR.out.bel.trans (hbx.mono HR.out.bel.size)).mono HB.out.size)⟩
end Go.Proofs.Qxb6605674a.C3
