import Derived.Test.Qxb6605674aA2
import Derived.BigQuiet
set_option linter.unusedVariables false
set_option linter.unusedSimpArgs false
namespace Go.Proofs.Qxb6605674a.A3
open Go.RowKit

def c3 (x : Int × Int × Int) : List Value := [.int .i64 x.1, .int .i64 x.2.1, .int .i64 x.2.2]
def flat3 (S : List (Int × Int × Int)) : List Value := S.flatMap c3
def a3 (x : Int × Int × Int) : Value := .agg #[.int .i64 x.1, .int .i64 x.2.1, .int .i64 x.2.2]

theorem flat3_len (S : List (Int × Int × Int)) : (flat3 S).length = S.length * 3 := by
  induction S with
  | nil => rfl
  | cons x r ih => simp [flat3, c3] at ih ⊢; omega
theorem flat3_at (S : List (Int × Int × Int)) (k : Nat) (x : Int × Int × Int) (hk : S[k]? = some x) :
    (flat3 S)[3 * k]? = some (.int .i64 x.1) ∧ (flat3 S)[3 * k + 1]? = some (.int .i64 x.2.1) ∧ (flat3 S)[3 * k + 2]? = some (.int .i64 x.2.2) := by
  induction S generalizing k with
  | nil => simp at hk
  | cons y r ih =>
    cases k with
    | zero => simp at hk; subst hk; simp [flat3, c3]
    | succ k =>
      have h := ih k (by simpa using hk)
      have e : ∀ j, (flat3 (y :: r))[j + 3]? = (flat3 r)[j]? := fun j => by simp [flat3, c3]
      rw [show 3 * (k + 1) = 3 * k + 3 by omega, show 3 * k + 3 + 1 = (3 * k + 1) + 3 by omega, show 3 * k + 3 + 2 = (3 * k + 2) + 3 by omega, e, e, e]
      exact h

theorem eqg58 : Try.prog.eqGuardType Try.prog.depth 58 = false := by kernel_rfl
theorem held58 : Try.prog.stoodInHeld 58 = false := by kernel_rfl
def eq3 (y0 y1 y2 x0 x1 x2 : Int) : Bool := (y0, y1, y2) == (x0, x1, x2)
theorem eql58 (x0 x1 x2 y0 y1 y2 : Int) (w : World) : (binOp .eql 58 (.agg #[.int .i64 y0, .int .i64 y1, .int .i64 y2]) (.agg #[.int .i64 x0, .int .i64 x1, .int .i64 x2])).run Try.prog w = .ok (.bool (eq3 y0 y1 y2 x0 x1 x2)) w := by
  have h58 := Try.underlying58
  have h3 := Try.underlying3
  have h2 := Try.underlying2
  have hh := held58
  simp [go_sem, h58, h3, h2, hh, eq3]
  by_cases e0 : y0 = x0 <;> by_cases e1 : y1 = x1 <;> by_cases e2 : y2 = x2 <;> simp [e0, e1, e2]

/-- The place of x in S, -1 where it isn't there. -/
def place (S : List (Int × Int × Int)) (x : Int × Int × Int) : Int := match S.findIdx? (· == x) with | some j => j | none => -1

theorem place_hit {S : List (Int × Int × Int)} {x y : Int × Int × Int} {k : Nat} (hno : ∀ j, j < k → S[j]? ≠ some x) (hy : S[k]? = some y) (e : y = x) : place S x = k := by
  subst e
  have : S.findIdx? (· == y) = some k := by
    rw [List.findIdx?_eq_some_iff_getElem]
    obtain ⟨h1, h2⟩ := List.getElem?_eq_some_iff.1 hy
    refine ⟨h1, by simp [h2], fun j hj => ?_⟩
    have := hno j hj
    rw [List.getElem?_eq_getElem (by omega)] at this
    simpa using this
  simp [place, this]
theorem place_miss {S : List (Int × Int × Int)} {x : Int × Int × Int} (hno : ∀ j, j < S.length → S[j]? ≠ some x) : place S x = -1 := by
  have : S.findIdx? (· == x) = none := by
    rw [List.findIdx?_eq_none_iff]
    intro y hy
    obtain ⟨j, hj, rfl⟩ := List.getElem_of_mem hy
    have := hno j hj
    rw [List.getElem?_eq_getElem hj] at this
    simpa using this
  simp [place, this]
theorem belN {B : Nat} {a w : World} (h : Below B a w) (n : Nat) : Below B a (w.drewN n) := ⟨h.os, h.tape, h.output, h.size, h.block⟩
theorem ret_int {k : IntKind} {a b : Int} (h : a = b) : Ending.returned (.int k a) = .returned (.int k b) := by rw [h]

set_option maxRecDepth 100000 in
set_option maxHeartbeats 400000 in
theorem find26 (base : Nat) (v : Value) (S : List (Int × Int × Int)) (x : Int × Int × Int) (w : World) (h : w.ownsRow base 58 3 v S.length (flat3 S)) (hn : S.length ≤ 1048576) :
    Calls Try.prog 26 #[v, a3 x] w fun e w' => e = .returned (.int .i64 (place S x)) ∧ Below w.heap.size w w' := by
  obtain ⟨x0, x1, x2⟩ := x
  rcases h.2 with ⟨rfl, hn0⟩ | ⟨g, cap, cur, rfl, hb, hg, hcap, hmax, hcur, htake⟩
  · unfold a3
    go_enter Try.func26, Try.ntmps26
    go_wp2
    refine wp_loop_rounds 1 ?_; rw [rounds_succ]
    go_wp2
    go_ret
    obtain rfl : S = [] := List.eq_nil_of_length_eq_zero hn0
    exact ⟨rfl, (Below.refl _ _).alloc (Nat.le_refl _) _⟩
  · unfold a3
    go_enter Try.func26, Try.ntmps26
    go_wp2
    go_loopw [5] (fun i wr => ∃ k : Nat, k ≤ S.length ∧ i = .int .i64 k ∧ (∀ j, j < k → S[j]? ≠ some (x0, x1, x2)) ∧ wr.heap = (w.alloc (.cells #[.int .i64 x0, .int .i64 x1, .int .i64 x2] 58)).heap ∧ Below w.heap.size w wr)
      (fun i _ => S.length - (intOf i).toNat)
    case atStart => exact ⟨0, Nat.zero_le _, rfl, by simp, rfl, (Below.refl _ _).alloc (Nat.le_refl _) _⟩
    case round =>
      obtain ⟨k, hk, rfl, hno, hheap, hbel⟩ := hrel
      have hglt : g < w.heap.size := (Array.getElem?_eq_some_iff.1 hg).1
      have hbox : wr.heap[w.heap.size]? = some (.cells #[.int .i64 x0, .int .i64 x1, .int .i64 x2] 58 (0, 0)) := by rw [hheap]; exact heap_alloc_new w _
      have hgr : wr.heap[g]? = some (.cells cur 58 (0, 0)) := (hbel.block g hglt).trans hg
      have hsz : wr.heap.size = w.heap.size + 1 := by rw [hheap]; simp
      have hb0 := cell_of_row wr w.heap.size 0 _ _ _ hbox
      have hb1 := cell_of_row wr w.heap.size 1 _ _ _ hbox
      have hb2 := cell_of_row wr w.heap.size 2 _ _ _ hbox
      simp at hb0 hb1 hb2
      by_cases hlt : k < S.length
      · obtain ⟨⟨y0, y1, y2⟩, hy⟩ : ∃ y, S[k]? = some y := ⟨_, List.getElem?_eq_getElem hlt⟩
        have hf := flat3_at S k _ hy
        have hc0 := cell_of_row wr g (3 * k) _ _ _ hgr
        have hc1 := cell_of_row wr g (3 * k + 1) _ _ _ hgr
        have hc2 := cell_of_row wr g (3 * k + 2) _ _ _ hgr
        have hcu : ∀ j, j < S.length * 3 → cur[j]? = (flat3 S)[j]? := fun j hj => by rw [← htake, List.getElem?_take, if_pos hj]; simp
        rw [hcu _ (by omega)] at hc0 hc1 hc2
        rw [hf.1] at hc0
        rw [hf.2.1] at hc1
        rw [hf.2.2] at hc2
        clear hf hcu
        rw [Nat.mul_comm] at hc0 hc1 hc2
        have hq := fun wx => eql58 x0 x1 x2 y0 y1 y2 wx
        have hgd := eqg58
        cases hE : eq3 y0 y1 y2 x0 x1 x2
        · have hno' : ∀ j, j < k + 1 → S[j]? ≠ some (x0, x1, x2) := by
            intro j hj
            by_cases e : j = k
            · subst e; rw [hy]; simpa [eq3] using hE
            · exact hno j (by omega)
          have HN : Hid _ := hno'
          clear hno' hno hy
          go_wp2
          go_quiet (fail)
          go_wp2
          go_roundw
          case rel => exact ⟨k + 1, by omega, by go_num, HN.out, by simpa using hheap, belN hbel _⟩
          case measure => simp [intOf]; omega
        · have hpl := place_hit hno hy (by simpa [eq3] using hE)
          have HP : Hid _ := hpl
          clear hpl hno hy
          go_wp2
          go_quiet (fail)
          go_wp2
          go_ret
          exact ⟨ret_int HP.out.symm, belN hbel _⟩
      · have hpl := place_miss (S := S) (x := (x0, x1, x2)) (fun j hj => hno j (by omega))
        have HP : Hid _ := hpl
        clear hpl hno
        go_wp2
        go_ret
        exact ⟨ret_int HP.out.symm, hbel⟩
end Go.Proofs.Qxb6605674a.A3
