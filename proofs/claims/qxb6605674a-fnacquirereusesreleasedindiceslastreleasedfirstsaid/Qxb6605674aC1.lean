import Derived.Test.Qxb6605674aB2
import Derived.Deep.RegionHeld3
import Derived.Deep.DrawnRows
set_option linter.unusedVariables false
set_option linter.unusedSimpArgs false
namespace Go.Proofs.Qxb6605674a.C1
open Go.RowKit Go.Proofs.Qxb6605674a.A2 Go.Proofs.Qxb6605674a.A4 Go.Proofs.Qxb6605674a.A3 Go.Proofs.Qxb6605674a.A5 Go.Proofs.Qxb6605674a.A6 Go.Proofs.Qxb6605674a.A7 Go.Proofs.Qxb6605674a.A8 Go.Proofs.Qxb6605674a.A9 Go.Proofs.Qxb6605674a.B0 Go.Proofs.Qxb6605674a.B2

theorem bel_alloc {w wx : World} {o : Obj} (h : Below w.heap.size w wx) : Below w.heap.size w (wx.alloc o) := h.alloc h.size o
/-- The table's index is there. -/
def HasMap (w : World) (T : Nat) : Prop := ∃ a b c d e M g, w.heap[T]? = some (.cells #[a, b, c, d, e, .map (some M), g] 84 (0, 0))
def zeros (n : Nat) : Array Value := madeCells #[.int .i64 0, .int .i64 0, .int .i64 0, .int .i64 0] (n * 4)
theorem make81 (n : Nat) (hn : n ≤ 1048576) (w : World) : (Instr.makeSlice 81 (.int .i64 (n : Int)) (.int .i64 (n : Int))).run Try.prog w = .ok (.slice (some ⟨w.heap.size, 0, none⟩) n n) (w.alloc (.cells (zeros n) 90)) := by
  obtain ⟨i0, hi, hz0, hz1, hz2⟩ := info_parts info90
  have h := run_make (P := Try.prog) w 81 90 i0 _ Try.underlying81 hi hz0 .i64 .i64 n n (by omega) (Int.le_refl _) (by rw [hz2]; omega) (by omega)
  simp only [Int.toNat_natCast, hz1] at h
  exact h

theorem zeros_flat (n : Nat) : (zeros n).toList = flat4 (List.replicate n ((0, 0, 0), 0)) := by
  apply List.ext_getElem?
  intro j
  by_cases hj : j < n * 4
  · have h1 : j / 4 < n := by omega
    have hr : (List.replicate n (((0 : Int), (0 : Int), (0 : Int)), (0 : Int)))[j / 4]? = some ((0, 0, 0), 0) := by simp [h1]
    have hf := flat4_at _ _ _ hr
    have e0 : j = j / 4 * 4 ∨ j = j / 4 * 4 + 1 ∨ j = j / 4 * 4 + 2 ∨ j = j / 4 * 4 + 3 := by omega
    have hz : (zeros n).toList[j]? = some (.int .i64 0) := by
      have hm : j % 4 = 0 ∨ j % 4 = 1 ∨ j % 4 = 2 ∨ j % 4 = 3 := by omega
      simp only [zeros, madeCells]
      rcases hm with h | h | h | h <;> simp [hj, h]
    rw [hz]
    rcases e0 with h | h | h | h <;> rw [h] <;> first | exact hf.1.symm | exact hf.2.1.symm | exact hf.2.2.1.symm | exact hf.2.2.2.symm
  · rw [List.getElem?_eq_none (by simp [zeros, madeCells]; omega), List.getElem?_eq_none (by rw [flat4_len]; simp; omega)]
theorem zeros_size (n : Nat) : (zeros n).size = n * 4 := by simp [zeros, madeCells]
theorem heap_alloc3_new (w : World) (A B C : Obj) : (((w.alloc A).alloc B).alloc C).heap[w.heap.size + 1 + 1]? = some C := by
  have := heap_alloc_new ((w.alloc A).alloc B) C
  simpa using this
theorem alloc_some {w : World} {k : Nat} {o o' : Obj} (h : w.heap[k]? = some o) : (w.alloc o').heap[k]? = some o := by
  rw [Below.heap_alloc _ _ _ (lt_of_block h), h]
theorem grown_some {w w1 : World} {k : Nat} {o : Obj} {a n : Nat} (hg : w.grownBy w1 (Value.ownBlock (.slice none a n))) (h : w.heap[k]? = some o) : w1.heap[k]? = some o := by
  rw [hg.block k (lt_of_block h) (by simp [Value.ownBlock]), h]
theorem tab_made {w W : World} {T bL M n : Nat} {vF : Value} {F : List Nat} (hT : W.heap[T]? = some (.cells #[.slice none 0 0, .slice none 0 0, .int .i64 0, .int .i64 0, .slice (some ⟨bL, 0, none⟩) n n, .map (some M), vF] 84 (0, 0))) (hL : W.heap[bL]? = some (.cells (zeros n) 90 (0, 0)))
    (hM : W.heap[M]? = some (.map #[] 0)) (hF : W.ownsRow w.heap.size 29 1 vF n (F.map (fun (l : Nat) => Value.int .u32 (l : Int)))) (hn : F.length = n) (hn' : n ≤ 1048576) (b1 : w.heap.size ≤ T) (b2 : w.heap.size ≤ bL) (b3 : w.heap.size ≤ M) :
    TInv W T w.heap.size (List.replicate n ((0, 0, 0), 0)) (fun _ => none) F 0 ∧ HasMap W T := by
  refine ⟨?_, ⟨_, _, _, _, _, _, _, hT⟩⟩
  refine ⟨_, _, _, hT, b1, ⟨by rw [flat4_len], .inr ⟨bL, n, zeros n, by simp, b2, hL, by simp, by unfold maxLen; omega, zeros_size n, ?_⟩⟩, by rw [hn]; exact hF, .inr ⟨M, rfl, b3, ?_⟩⟩
  · rw [zeros_flat, List.take_of_length_le (by rw [flat4_len]; exact Nat.le_refl _)]
  · refine ⟨.map [], ⟨#[], 0, hM, ⟨by simp, MapKept.stamped_empty 0, by simp⟩, Nat.le_refl _, rfl⟩, fun x k _ => ⟨by simp [Maps.has], by simp⟩⟩

set_option maxRecDepth 100000 in
set_option maxHeartbeats 1000000 in
theorem rel31 (g n c : Nat) (F : List Nat) (w : World) (hn : 0 < n) (hn' : n ≤ 1048576) (hF : F.length = n) (hc : ∀ i, i < n → w.cell? ⟨g, i, none⟩ = some (.int .u32 (F.getD i 0 : Nat))) :
    Calls Try.prog 31 #[.slice (some ⟨g, 0, none⟩) n c] w fun e w' => ∃ T, e = .returned (.pointer (some ⟨T, 0, none⟩)) ∧ TInv w' T w.heap.size (List.replicate n ((0, 0, 0), 0)) (fun _ => none) F 0 ∧ HasMap w' T ∧ Below w.heap.size w w' := by
  obtain ⟨i0, hi, hz0, hz1, hz2⟩ := info_parts info29
  have hg : g < w.heap.size := block_lt_of_cell (hc 0 hn)
  have hmk := make81 n hn'
  have hmm := @run_makeMap Try.prog
  have HC : Hid (∀ wx, Below w.heap.size w wx → ∀ j u, (F.map (fun (l : Nat) => Value.int .u32 (l : Int)))[j]? = some u → wx.cell? ((⟨g, 0, none⟩ : Addr).add j) = some u) := by
    intro wx hb j u hj
    have hj' : j < n := by have := (List.getElem?_eq_some_iff.1 hj).1; simpa [hF] using this
    rw [show (⟨g, 0, none⟩ : Addr).add j = ⟨g, j, none⟩ by unfold Addr.add; split <;> simp_all, (hb.cell (p := ⟨g, j, none⟩) hg), hc j hj', ← hj, List.getElem?_map, List.getElem?_eq_getElem (by omega)]
    simp [List.getElem?_eq_getElem (show j < F.length by omega)]
  clear hc
  go_enter Try.func31, Try.ntmps31
  go_wp2
  go_region_held3 (fun w' => Below w.heap.size w w') (repeat (first | exact Below.refl _ _ | assumption | apply Below.drew | apply bel_alloc))
    ((refine step_append_lies _ (by rfl) _ _ 25 (by rfl) w.heap.size 29 i0 (.int .u32 0) 1 4 Try.underlying25 hi hz0 hz1 hz2 rfl (by decide) (.slice none 0 0) 0 [] (by rfl) (World.ownsRow_nil _ _ _ _) ⟨g, 0, none⟩ n c (F.map (fun (l : Nat) => Value.int .u32 (l : Int))) (by rfl) (by simp [hF]) (HC.out _ (by repeat (first | exact Below.refl _ _ | assumption | apply Below.drew | apply bel_alloc))) (by simp [Value.oneCell']) hn (by unfold maxLen; omega) (by omega) (by first | exact Nat.le_refl _ | (simp; done) | (simp; omega)) _ rfl ?_; intro g1 cap1 w1 hown1 hgrow1 hat1 hlt1; have hb1 : Below w.heap.size w w1 := Below.grown (by repeat (first | exact Below.refl _ _ | assumption | apply Below.drew | apply bel_alloc)) hgrow1 (by first | exact Nat.le_refl _ | (simp; done) | (simp; omega)) (by simp [Value.ownBlock])))
  all_goals
    go_wp2
    go_ret
    refine ⟨_, rfl, and_assoc.1 ⟨?_, by repeat (first | exact Below.refl _ _ | assumption | apply Below.drew | apply bel_alloc)⟩⟩
    first | refine tab_made (n := n) (heap_alloc_new _ _) ?_ ?_ ?_ hF hn' ?_ ?_ ?_ | refine tab_made (n := n) (heap_alloc2_new _ _ _) ?_ ?_ ?_ hF hn' ?_ ?_ ?_ | refine tab_made (n := n) (heap_alloc3_new _ _ _ _) ?_ ?_ ?_ hF hn' ?_ ?_ ?_
  all_goals first
    | (have := hb1.size; omega)
    | (have hz : w1.ownsRow w.heap.size 29 1 (Value.slice (some ⟨g1, 0, none⟩) n cap1) n (F.map (fun (l : Nat) => Value.int .u32 (l : Int))) := by simpa using hown1
       first | exact hz.alloc _ | exact (hz.alloc _).alloc _ | exact ((hz.alloc _).alloc _).alloc _)
    | (repeat (first | exact heap_alloc_new _ _ | exact heap_alloc2_new _ _ _ | apply alloc_some | apply grown_some hgrow1))

set_option maxRecDepth 100000 in
set_option maxHeartbeats 1000000 in
theorem rel31_nil (a : Option Addr) (c : Nat) (w : World) :
    Calls Try.prog 31 #[.slice a 0 c] w fun e w' => ∃ T, e = .returned (.pointer (some ⟨T, 0, none⟩)) ∧ TInv w' T w.heap.size (List.replicate 0 ((0, 0, 0), 0)) (fun _ => none) [] 0 ∧ HasMap w' T ∧ Below w.heap.size w w' := by
  obtain ⟨i0, hi, hz0, hz1, hz2⟩ := info_parts info29
  have hmk := make81 0 (by omega)
  simp only [Int.natCast_zero] at hmk
  have hmm := @run_makeMap Try.prog
  cases a
  all_goals
    go_enter Try.func31, Try.ntmps31
    go_wp2
    go_region
  all_goals
    go_wp2
    go_ret
    refine ⟨_, rfl, and_assoc.1 ⟨?_, by repeat (first | exact Below.refl _ _ | assumption | apply Below.drew | apply bel_alloc)⟩⟩
    refine tab_made (n := 0) (heap_alloc3_new _ _ _ _) ?_ ?_ (World.ownsRow_nil _ _ _ _) rfl (by omega) ?_ ?_ ?_
  all_goals first
    | omega
    | (repeat (first | exact heap_alloc_new _ _ | exact heap_alloc2_new _ _ _ | apply alloc_some))
end Go.Proofs.Qxb6605674a.C1
