import Derived.Test.Qxb6605674aProg
import Derived.WalkKit
import Derived.WalkSpells
import Derived.WalkLawsBesides
import Derived.KernelRfl
set_option linter.unusedVariables false
set_option linter.unusedSimpArgs false
namespace Go.Proofs.Qxb6605674a.A2
open Go.RowKit

def IsRow (k : IntKind) (w : World) (a : Option Addr) (len cap : Nat) (zs : List Int) : Prop :=
  (a = none ∧ len = 0 ∧ cap = 0 ∧ zs = []) ∨
  ∃ x, a = some x ∧ len ≤ cap ∧ cap ≤ maxLen ∧ zs.length = cap ∧ (∀ i, i < zs.length → w.cell? (x.add i) = some (.int k (zs.getD i 0))) ∧ ∀ n ∈ zs, (Lit.int k n).wf = true

theorem info3 : (Try.prog.info? 3).map (fun i => (i.zero, i.size, i.bytes)) = some (some (.int .i64 0), 1, 8) := by kernel_rfl
theorem info2 : (Try.prog.info? 2).map (fun i => (i.zero, i.size, i.bytes)) = some (some (.int .i64 0), 1, 8) := by kernel_rfl
theorem info29 : (Try.prog.info? 29).map (fun i => (i.zero, i.size, i.bytes)) = some (some (.int .u32 0), 1, 4) := by kernel_rfl

/-- The first k numbers of zs, then noughts, n in all. -/
def part (q : IntKind) (zs : List Int) (n k : Nat) : List Value := (zs.take k).map (Value.int q) ++ List.replicate (n - k) (Value.int q 0)

theorem part_zero (q : IntKind) (zs : List Int) (n : Nat) : part q zs n 0 = List.replicate n (Value.int q 0) := by simp [part]
theorem part_succ (q : IntKind) (zs : List Int) (n k : Nat) (hk : k < n) (hz : n ≤ zs.length) : (part q zs n k).set k (Value.int q (zs.getD k 0)) = part q zs n (k + 1) := by
  unfold part
  have hk' : k < zs.length := by omega
  obtain ⟨m, hm⟩ : ∃ m, n - k = m + 1 := ⟨n - k - 1, by omega⟩
  have hm' : n - (k + 1) = m := by omega
  rw [hm, hm', List.set_append_right _ _ (by simp; omega)]
  have e1 : k - ((zs.take k).map (Value.int q)).length = 0 := by simp; omega
  rw [e1, List.replicate_succ, List.set_cons_zero, List.take_succ_eq_append_getElem hk', List.map_append, List.append_assoc]
  simp [List.getD_eq_getElem?_getD, List.getElem?_eq_getElem hk']
theorem part_len (q : IntKind) (zs : List Int) (n k : Nat) (hk : k ≤ n) (hz : n ≤ zs.length) : (part q zs n k).length = n := by
  simp [part]; omega

theorem start_row {w w1 : World} {e : TypeId} {q : IntKind} {n : Nat} {zs : List Int} (h : w1.ownsRow w.heap.size e 1 (.slice (some ⟨w.heap.size, 0, none⟩) n n) n (madeCells (Value.cells (.int q 0)) (n * 1)).toList) :
    w1.ownsRow w.heap.size e 1 (.slice (some ⟨w.heap.size, 0, none⟩) n n) n (part q zs n 0) := by
  rw [part_zero, ← toList_madeCells_one]
  simpa [Value.cells] using h

set_option maxRecDepth 100000 in
set_option maxHeartbeats 400000 in
theorem copy14 (a : Option Addr) (n c : Nat) (zs : List Int) (w : World) (h : IsRow .i64 w a n c zs) (hn : n ≤ 1048576) :
    Calls Try.prog 14 #[.slice a n c] w fun e w' => (n = 0 ∧ e = .returned (.slice none 0 0) ∧ w' = w) ∨
      (e = .returned (.slice (some ⟨w.heap.size, 0, none⟩) n n) ∧ w'.ownsRow w.heap.size 3 1 (.slice (some ⟨w.heap.size, 0, none⟩) n n) n (part .i64 zs n n) ∧ Below w.heap.size w w') := by
  obtain ⟨i0, hi, hz0, hz1, hz2⟩ := info_parts info3
  have hnil := fun wx a n c => Lib.run_eql_slice_nil (P := Try.prog) wx 26 3 a n c 0 0 Try.underlying26
  rcases h with ⟨rfl, rfl, rfl, rfl⟩ | ⟨x, rfl, hl, hm, hz, hc, hw⟩
  · go_enter Try.func14, Try.ntmps14
    go_wp2
    go_ret
    exact .inl (by simp)
  · go_enter Try.func14, Try.ntmps14
    go_wp2_with (at_make; refine wpList_make_full _ rfl _ _ 26 rfl w.heap.size 3 i0 (.int .i64 0) 1 Try.underlying26 hi hz0 hz1 .i64 .i64 _ _ n rfl rfl rfl rfl (by rw [hz2]; omega) (by unfold maxLen; omega) (Nat.le_refl _) ?_; intro w1 hown1 hgrow1)
    have hown := start_row (zs := zs) hown1
    have hbel : Below w.heap.size w w1 := (Below.refl _ _).grown hgrow1 (Nat.le_refl _) (by simp)
    clear hown1 hgrow1
    go_loopw [4] (fun i wr => ∃ k : Nat, k ≤ n ∧ i = .int .i64 k ∧ wr.ownsRow w.heap.size 3 1 (.slice (some ⟨w.heap.size, 0, none⟩) n n) n (part .i64 zs n k) ∧ Below w.heap.size w wr)
      (fun i _ => n - (intOf i).toNat)
    case atStart => exact ⟨0, Nat.zero_le _, rfl, hown, hbel⟩
    case round =>
      clear hown hbel
      obtain ⟨k, hk, rfl, hown, hbel⟩ := hrel
      by_cases hlt : k < n
      · have hx := block_lt_of_cell (hc k (by omega))
        have hcell : wr.cell? (x.add k) = some (.int .i64 (zs.getD k 0)) := (hbel.cell (by simpa using hx)).trans (hc k (by omega))
        have hfz := hown.frozenAt k
        obtain ⟨v0, hold⟩ : ∃ v0, wr.cell? ⟨w.heap.size, k, none⟩ = some v0 := by
          rw [hown.cellAt k (by omega), List.getElem?_eq_getElem (by rw [part_len _ _ _ _ hk (by omega)]; exact hlt)]
          exact ⟨_, rfl⟩
        have hst := hown.stored k (.int .i64 (zs.getD k 0))
        rw [part_succ _ _ _ _ hlt (by omega)] at hst
        have HS : Hid _ := hst
        clear hst
        go_wp2
        go_roundw
        case rel => exact ⟨k + 1, by omega, by go_num, by simpa using HS.out.1, by simpa using hbel.grown HS.out.2 hbel.size (by simp)⟩
        case measure => simp [intOf]; omega
      · have : k = n := by omega
        subst this
        go_wp2
        go_ret
        exact .inr ⟨rfl, hown, hbel⟩
set_option maxRecDepth 100000 in
set_option maxHeartbeats 400000 in
theorem copy11 (a : Option Addr) (n c : Nat) (zs : List Int) (w : World) (h : IsRow .i64 w a n c zs) (hn : n ≤ 1048576) :
    Calls Try.prog 11 #[.slice a n c] w fun e w' => (n = 0 ∧ e = .returned (.slice none 0 0) ∧ w' = w) ∨
      (e = .returned (.slice (some ⟨w.heap.size, 0, none⟩) n n) ∧ w'.ownsRow w.heap.size 2 1 (.slice (some ⟨w.heap.size, 0, none⟩) n n) n (part .i64 zs n n) ∧ Below w.heap.size w w') := by
  obtain ⟨i0, hi, hz0, hz1, hz2⟩ := info_parts info2
  have hnil := fun wx a n c => Lib.run_eql_slice_nil (P := Try.prog) wx 23 2 a n c 0 0 Try.underlying23
  rcases h with ⟨rfl, rfl, rfl, rfl⟩ | ⟨x, rfl, hl, hm, hz, hc, hw⟩
  · go_enter Try.func11, Try.ntmps11
    go_wp2
    go_ret
    exact .inl (by simp)
  · go_enter Try.func11, Try.ntmps11
    go_wp2_with (at_make; refine wpList_make_full _ rfl _ _ 23 rfl w.heap.size 2 i0 (.int .i64 0) 1 Try.underlying23 hi hz0 hz1 .i64 .i64 _ _ n rfl rfl rfl rfl (by rw [hz2]; omega) (by unfold maxLen; omega) (Nat.le_refl _) ?_; intro w1 hown1 hgrow1)
    have hown := start_row (zs := zs) hown1
    have hbel : Below w.heap.size w w1 := (Below.refl _ _).grown hgrow1 (Nat.le_refl _) (by simp)
    clear hown1 hgrow1
    go_loopw [4] (fun i wr => ∃ k : Nat, k ≤ n ∧ i = .int .i64 k ∧ wr.ownsRow w.heap.size 2 1 (.slice (some ⟨w.heap.size, 0, none⟩) n n) n (part .i64 zs n k) ∧ Below w.heap.size w wr)
      (fun i _ => n - (intOf i).toNat)
    case atStart => exact ⟨0, Nat.zero_le _, rfl, hown, hbel⟩
    case round =>
      clear hown hbel
      obtain ⟨k, hk, rfl, hown, hbel⟩ := hrel
      by_cases hlt : k < n
      · have hx := block_lt_of_cell (hc k (by omega))
        have hcell : wr.cell? (x.add k) = some (.int .i64 (zs.getD k 0)) := (hbel.cell (by simpa using hx)).trans (hc k (by omega))
        have hfz := hown.frozenAt k
        obtain ⟨v0, hold⟩ : ∃ v0, wr.cell? ⟨w.heap.size, k, none⟩ = some v0 := by
          rw [hown.cellAt k (by omega), List.getElem?_eq_getElem (by rw [part_len _ _ _ _ hk (by omega)]; exact hlt)]
          exact ⟨_, rfl⟩
        have hst := hown.stored k (.int .i64 (zs.getD k 0))
        rw [part_succ _ _ _ _ hlt (by omega)] at hst
        have HS : Hid _ := hst
        clear hst
        go_wp2
        go_roundw
        case rel => exact ⟨k + 1, by omega, by go_num, by simpa using HS.out.1, by simpa using hbel.grown HS.out.2 hbel.size (by simp)⟩
        case measure => simp [intOf]; omega
      · have : k = n := by omega
        subst this
        go_wp2
        go_ret
        exact .inr ⟨rfl, hown, hbel⟩
set_option maxRecDepth 100000 in
set_option maxHeartbeats 400000 in
theorem copy13 (a : Option Addr) (n c : Nat) (zs : List Int) (w : World) (h : IsRow .u32 w a n c zs) (hn : n ≤ 1048576) :
    Calls Try.prog 13 #[.slice a n c] w fun e w' => (n = 0 ∧ e = .returned (.slice none 0 0) ∧ w' = w) ∨
      (e = .returned (.slice (some ⟨w.heap.size, 0, none⟩) n n) ∧ w'.ownsRow w.heap.size 29 1 (.slice (some ⟨w.heap.size, 0, none⟩) n n) n (part .u32 zs n n) ∧ Below w.heap.size w w') := by
  obtain ⟨i0, hi, hz0, hz1, hz2⟩ := info_parts info29
  have hnil := fun wx a n c => Lib.run_eql_slice_nil (P := Try.prog) wx 25 29 a n c 0 0 Try.underlying25
  rcases h with ⟨rfl, rfl, rfl, rfl⟩ | ⟨x, rfl, hl, hm, hz, hc, hw⟩
  · go_enter Try.func13, Try.ntmps13
    go_wp2
    go_ret
    exact .inl (by simp)
  · go_enter Try.func13, Try.ntmps13
    go_wp2_with (at_make; refine wpList_make_full _ rfl _ _ 25 rfl w.heap.size 29 i0 (.int .u32 0) 1 Try.underlying25 hi hz0 hz1 .i64 .i64 _ _ n rfl rfl rfl rfl (by rw [hz2]; omega) (by unfold maxLen; omega) (Nat.le_refl _) ?_; intro w1 hown1 hgrow1)
    have hown := start_row (zs := zs) hown1
    have hbel : Below w.heap.size w w1 := (Below.refl _ _).grown hgrow1 (Nat.le_refl _) (by simp)
    clear hown1 hgrow1
    go_loopw [4] (fun i wr => ∃ k : Nat, k ≤ n ∧ i = .int .i64 k ∧ wr.ownsRow w.heap.size 29 1 (.slice (some ⟨w.heap.size, 0, none⟩) n n) n (part .u32 zs n k) ∧ Below w.heap.size w wr)
      (fun i _ => n - (intOf i).toNat)
    case atStart => exact ⟨0, Nat.zero_le _, rfl, hown, hbel⟩
    case round =>
      clear hown hbel
      obtain ⟨k, hk, rfl, hown, hbel⟩ := hrel
      by_cases hlt : k < n
      · have hx := block_lt_of_cell (hc k (by omega))
        have hcell : wr.cell? (x.add k) = some (.int .u32 (zs.getD k 0)) := (hbel.cell (by simpa using hx)).trans (hc k (by omega))
        have hfz := hown.frozenAt k
        obtain ⟨v0, hold⟩ : ∃ v0, wr.cell? ⟨w.heap.size, k, none⟩ = some v0 := by
          rw [hown.cellAt k (by omega), List.getElem?_eq_getElem (by rw [part_len _ _ _ _ hk (by omega)]; exact hlt)]
          exact ⟨_, rfl⟩
        have hst := hown.stored k (.int .u32 (zs.getD k 0))
        rw [part_succ _ _ _ _ hlt (by omega)] at hst
        have HS : Hid _ := hst
        clear hst
        go_wp2
        go_roundw
        case rel => exact ⟨k + 1, by omega, by go_num, by simpa using HS.out.1, by simpa using hbel.grown HS.out.2 hbel.size (by simp)⟩
        case measure => simp [intOf]; omega
      · have : k = n := by omega
        subst this
        go_wp2
        go_ret
        exact .inr ⟨rfl, hown, hbel⟩

/-- What a copy hands back: a slice of n numbers in new memory. -/
def Copied (q : IntKind) (w w' : World) (zs : List Int) (n : Nat) (e : Ending) : Prop :=
  ∃ a c, e = .returned (.slice a n c) ∧ n ≤ c ∧ c ≤ 1048576 ∧ (0 < n → ∃ g, a = some ⟨g, 0, none⟩ ∧ ∀ i, i < n → w'.cell? ⟨g, i, none⟩ = some (.int q (zs.getD i 0))) ∧ Below w.heap.size w w'
theorem copied_of {q : IntKind} {t : TypeId} {w w' : World} {zs : List Int} {n : Nat} {e : Ending} (hn : n ≤ 1048576) (hz : n ≤ zs.length) (h : (n = 0 ∧ e = .returned (.slice none 0 0) ∧ w' = w) ∨
      (e = .returned (.slice (some ⟨w.heap.size, 0, none⟩) n n) ∧ w'.ownsRow w.heap.size t 1 (.slice (some ⟨w.heap.size, 0, none⟩) n n) n (part q zs n n) ∧ Below w.heap.size w w')) : Copied q w w' zs n e := by
  rcases h with ⟨rfl, rfl, rfl⟩ | ⟨rfl, h1, h2⟩
  · exact ⟨none, 0, rfl, Nat.le_refl _, by omega, by omega, Below.refl _ _⟩
  · refine ⟨_, n, rfl, Nat.le_refl _, hn, fun _ => ⟨_, rfl, fun i hi => ?_⟩, h2⟩
    rw [h1.cellAt i (by omega)]
    simp only [part, Nat.sub_self, List.replicate_zero, List.append_nil]
    simp [hi, List.getElem?_eq_getElem (show i < zs.length by omega)]
theorem row_len {k : IntKind} {w : World} {a : Option Addr} {n c : Nat} {zs : List Int} (h : IsRow k w a n c zs) : n ≤ zs.length := by
  rcases h with ⟨_, rfl, _, rfl⟩ | ⟨x, _, h1, _, h2, _⟩
  · simp
  · omega
theorem row_max {k : IntKind} {w : World} {a : Option Addr} {n c : Nat} {zs : List Int} (h : IsRow k w a n c zs) : n ≤ maxLen := by
  rcases h with ⟨_, rfl, _, rfl⟩ | ⟨x, _, h1, h3, h2, _⟩
  · simp [maxLen]
  · omega
theorem row_wf {k : IntKind} {w : World} {a : Option Addr} {n c : Nat} {zs : List Int} (h : IsRow k w a n c zs) : ∀ i, i < n → (Lit.int k (zs.getD i 0)).wf = true := by
  intro i hi
  have hl := row_len h
  rcases h with ⟨_, rfl, _, rfl⟩ | ⟨x, _, h1, h3, h2, _, hw⟩
  · omega
  · apply hw
    rw [List.getD_eq_getElem?_getD, List.getElem?_eq_getElem (by omega)]
    simp
theorem row_below {k : IntKind} {w w' : World} {a : Option Addr} {n c : Nat} {zs : List Int} (h : IsRow k w a n c zs) (hb : Below w.heap.size w w') : IsRow k w' a n c zs := by
  rcases h with h | ⟨x, h0, h1, h3, h2, hc, hw⟩
  · exact .inl h
  · refine .inr ⟨x, h0, h1, h3, h2, fun i hi => ?_, hw⟩
    exact (hb.cell (block_lt_of_cell (hc i hi))).trans (hc i hi)
end Go.Proofs.Qxb6605674a.A2
