import Derived.Test.Qxb6605674aA3
import Derived.Maps.OwnSet
import Derived.DeepKeys4
set_option linter.unusedVariables false
set_option linter.unusedSimpArgs false
namespace Go.Proofs.Qxb6605674a.A4
open Go.Maps Go.RowKit
theorem laidOut : laidOutB Try.prog = true := by kernel_rfl
theorem keyed49 : Keyed Try.prog 49 := Keyed.of_law (deep_law_laid laidOut (m := 3) (by decide) (of_decide_eq_true (by kernel_rfl)) (by kernel_rfl) (by kernel_rfl))
theorem keyTy49 : Try.prog.keyType 49 = true := by kernel_rfl
theorem cells49 : Try.prog.cellsOf 49 = 3 := by kernel_rfl
theorem cells3 : Try.prog.cellsOf 3 = 1 := by kernel_rfl
theorem cells47 : Try.prog.cellsOf 47 = 1 := by kernel_rfl

/-- The limit (rate, period, burst) as a value. -/
def aLim (x : Int × Int × Int) : Value := .agg #[.int .i64 x.1, .int .i64 x.2.1, .int .i64 x.2.2]
def wf3 (x : Int × Int × Int) : Prop := (Lit.int .i64 x.1).wf = true ∧ (Lit.int .i64 x.2.1).wf = true ∧ (Lit.int .i64 x.2.2).wf = true

theorem key49 (x : Int × Int × Int) (h : wf3 x) : ∃ kl, keyOf Try.prog 49 (aLim x) = some kl := by
  obtain ⟨r, p, b⟩ := x
  obtain ⟨hr, hp, hb⟩ := h
  have h49 := Try.underlying49
  have h3 := Try.underlying3
  have h47 := Try.underlying47
  unfold keyOf
  rw [h49]
  simp [keyTy49, Value.formed, h49, cells49, Value.cells, aLim]
  have e3 : ∀ (d : Nat) (a : Int), (Lit.int .i64 a).wf = true → Try.prog.keyLits (d + 1) 3 [.int .i64 a] = some [.int .i64 a] := fun d a ha => by simp [Program.keyLits, h3, ha]
  have e47 : ∀ (d : Nat) (a : Int), (Lit.int .i64 a).wf = true → Try.prog.keyLits (d + 1) 47 [.int .i64 a] = some [.int .i64 a] := fun d a ha => by simp [Program.keyLits, h47, ha]
  have e : Try.prog.keyLits 156 49 [.int .i64 r, .int .i64 p, .int .i64 b] = some [.int .i64 r, .int .i64 p, .int .i64 b] := by
    rw [show (156 : Nat) = 154 + 1 + 1 from rfl]
    generalize (154 : Nat) = d
    unfold Program.keyLits
    simp only [h49]
    simp [cells3, cells47, cells49, e3 d r hr, e47 d p hp, e3 d b hb]
  exact ⟨_, _, e, rfl⟩
theorem key_ne {x y : Int × Int × Int} {k l : Lit} (hx : keyOf Try.prog 49 (aLim x) = some k) (hy : keyOf Try.prog 49 (aLim y) = some l) (h : x ≠ y) : k ≠ l := by
  intro e
  subst e
  have := keyed49.inj hx hy
  obtain ⟨x0, x1, x2⟩ := x
  obtain ⟨y0, y1, y2⟩ := y
  simp [aLim] at this
  exact h (by simp [this])

/-- Block M is the table's index: the limit x has the index f x. -/
def IdxMap (w : World) (M n : Nat) (f : Int × Int × Int → Option Nat) : Prop :=
  ∃ D : DataW Unit, w.ownsMap Try.prog 49 (plainElem Try.prog 29) M n D ∧ ∀ x k, keyOf Try.prog 49 (aLim x) = some k → Maps.has D k = (f x).isSome ∧ ∀ l, f x = some l → D.atKey k (.lit (.int .u32 0)) = .lit (.int .u32 l)

theorem zero29 (w : World) : (zeroValue 29).run Try.prog w = .ok (.int .u32 0) w := by kernel_rfl

theorem idx_made (w : World) : IdxMap (w.alloc (.map #[] 0)) w.heap.size 0 (fun _ => none) :=
  ⟨_, World.ownsMap_made w _ _ _, fun x k _ => ⟨by simp [Maps.has], by simp⟩⟩
theorem idx_none {w : World} {M n : Nat} {f : Int × Int × Int → Option Nat} (h : IdxMap w M n f) {x : Int × Int × Int} (hx : wf3 x) (hf : f x = none) :
    ∃ v, (Instr.lookup 82 (.map (some M)) (aLim x) true).run Try.prog w = .ok (.tuple #[.int .u32 v, .bool false]) w := by
  obtain ⟨D, hown, hD⟩ := h
  obtain ⟨k, hk⟩ := key49 x hx
  obtain ⟨v, ps, hrun, hv⟩ := hown.look_ok keyed49 Try.underlying82 (zero29 w) (plainElem_int Try.underlying29 (by decide)) hk
  obtain ⟨c, rfl, _, _⟩ := plainElem_int_inv Try.underlying29 hv
  rw [(hD x k hk).1, hf] at hrun
  exact ⟨c, hrun⟩
theorem idx_some {w : World} {M n : Nat} {f : Int × Int × Int → Option Nat} (h : IdxMap w M n f) {x : Int × Int × Int} (hx : wf3 x) {l : Nat} (hf : f x = some l) :
    (Instr.lookup 82 (.map (some M)) (aLim x) true).run Try.prog w = .ok (.tuple #[.int .u32 l, .bool true]) w := by
  obtain ⟨D, hown, hD⟩ := h
  obtain ⟨k, hk⟩ := key49 x hx
  obtain ⟨v, ps, hrun, hv⟩ := hown.look_ok keyed49 Try.underlying82 (zero29 w) (plainElem_int Try.underlying29 (by decide)) hk
  obtain ⟨c, rfl, hc, _⟩ := plainElem_int_inv Try.underlying29 hv
  rw [(hD x k hk).1, hf] at hrun
  have := (hD x k hk).2 l hf
  simp [this] at hc
  obtain ⟨hc, _⟩ := hc
  subst hc
  exact hrun
theorem idx_nil (w : World) {x : Int × Int × Int} (hx : wf3 x) : (Instr.lookup 82 (.map none) (aLim x) true).run Try.prog w = .ok (.tuple #[.int .u32 0, .bool false]) w := by
  obtain ⟨k, hk⟩ := key49 x hx
  have := Maps.look_nil true keyed49 Try.underlying82 (zero29 w) hk
  simpa using this
theorem wfu32 {l : Nat} (hl : l ≤ 4294967295) : (Lit.int .u32 (l : Int)).wf = true := by
  have h1 : IntKind.u32.min = 0 := rfl
  have h2 : IntKind.u32.max = 4294967295 := rfl
  simp [Lit.wf, h1, h2]; omega
theorem idx_store {w : World} {M n : Nat} {f : Int × Int × Int → Option Nat} (h : IdxMap w M n f) {x : Int × Int × Int} (hx : wf3 x) {l : Nat} (hl : l ≤ 4294967295) (hn : n < maxLen) :
    ∃ w', (Instr.mapUpdate 82 (.map (some M)) (aLim x) (.int .u32 l)).run Try.prog w = .ok () w' ∧ IdxMap w' M (n + 1) (fun y => if y = x then some l else f y) ∧ w.grownBy w' (some M) := by
  obtain ⟨D, hown, hD⟩ := h
  obtain ⟨k, hk⟩ := key49 x hx
  obtain ⟨w', hrun, hown', hg⟩ := hown.update keyed49 Try.underlying82 hn hk (plainElem_int (H := Unit) Try.underlying29 (a := (l : Int)) (wfu32 hl))
  refine ⟨w', hrun, ⟨_, hown', fun y ky hky => ?_⟩, hg⟩
  by_cases e : y = x
  · subst e
    rw [hk] at hky
    cases hky
    simp only [if_true, Option.isSome_some]
    exact ⟨Maps.has_put_same hown.isMap (keyed49.key hk) _, fun l' hl' => by cases hl'; exact Maps.atKey_put_same hown.isMap (keyed49.key hk) _ _⟩
  · have hne := key_ne hky hk e
    simp only [if_neg e]
    rw [Maps.has_put_other hne]
    exact ⟨(hD y ky hky).1, fun l' hl' => by rw [Maps.atKey_put_other hne]; exact (hD y ky hky).2 l' hl'⟩
theorem idx_kept {w w' : World} {M n : Nat} {f : Int × Int × Int → Option Nat} (h : IdxMap w M n f) (hb : w'.heap[M]? = w.heap[M]?) : IdxMap w' M n f := by
  obtain ⟨D, ⟨es, clock, h1, r⟩, hD⟩ := h
  exact ⟨D, ⟨es, clock, hb.trans h1, r⟩, hD⟩
theorem idx_block {w : World} {M n : Nat} {f : Int × Int × Int → Option Nat} (h : IdxMap w M n f) : ∃ es c, w.heap[M]? = some (.map es c) := by
  obtain ⟨D, ⟨es, clock, h1, r⟩, hD⟩ := h
  exact ⟨_, _, h1⟩
end Go.Proofs.Qxb6605674a.A4
