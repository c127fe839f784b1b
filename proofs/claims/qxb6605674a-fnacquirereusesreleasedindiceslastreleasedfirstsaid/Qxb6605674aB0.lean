import Derived.Test.Qxb6605674aA9
set_option linter.unusedVariables false
set_option linter.unusedSimpArgs false
namespace Go.Proofs.Qxb6605674a.B0
open Go.RowKit Go.Proofs.Qxb6605674a.A2 Go.Proofs.Qxb6605674a.A4 Go.Proofs.Qxb6605674a.A3 Go.Proofs.Qxb6605674a.A5 Go.Proofs.Qxb6605674a.A6 Go.Proofs.Qxb6605674a.A7 Go.Proofs.Qxb6605674a.A8 Go.Proofs.Qxb6605674a.A9

abbrev Lim := Int × Int × Int
/-- The index of a limit: its place among those seen. -/
def idx (S : List Lim) (x : Lim) : Option Nat := S.findIdx? (· == x)
def numOf (S : List Lim) (x : Lim) : Nat := (idx S x).getD S.length
def seen' (S : List Lim) (x : Lim) : List Lim := match idx S x with | some _ => S | none => S ++ [x]
def cnt' (S : List Lim) (C : List Int) (x : Lim) : List Int := match idx S x with | some j => C.set j (C.getD j 0 + 1) | none => C ++ [1]

theorem idx_lt {S : List Lim} {x : Lim} {j : Nat} (h : idx S x = some j) : j < S.length ∧ S[j]? = some x := by
  unfold idx at h
  rw [List.findIdx?_eq_some_iff_getElem] at h
  obtain ⟨h1, h2, _⟩ := h
  exact ⟨h1, by rw [List.getElem?_eq_getElem h1]; simpa using h2⟩
theorem idx_snoc (S : List Lim) (x : Lim) (h : idx S x = none) : idx (S ++ [x]) = fun y => if y = x then some S.length else idx S y := by
  funext y
  unfold idx at *
  rw [List.findIdx?_append]
  by_cases e : y = x
  · subst e
    rw [h]
    simp [List.findIdx?_cons]
  · rw [if_neg e]
    have : List.findIdx? (fun a => a == y) [x] = none := by simp [List.findIdx?_cons, Ne.symm e]
    rw [this]
    simp
theorem zip_set {α β : Type} (S : List α) (C : List β) (j : Nat) (x : α) (c : β) (h : S[j]? = some x) : (S.zip C).set j (x, c) = S.zip (C.set j c) := by
  induction S generalizing C j with
  | nil => simp at h
  | cons y r ih =>
    cases C with
    | nil => simp
    | cons d q =>
      cases j with
      | zero => simp at h; subst h; simp
      | succ j => simp at h; simp [ih q j h]

/-- 'acquire' over a table whose limits were first acquired in the order of S. -/
theorem acq1 (T base : Nat) (S : List Lim) (C : List Int) (N : Nat) (x : Lim) (w : World) (h : TInv w T base (S.zip C) (idx S) [] N) (hx : wf3 x) (hC : C.length = S.length) (hc : ∀ c ∈ C, 0 ≤ c ∧ c ≤ 1048576) (hL : S.length ≤ 1048575) (hN : N ≤ 1048576) :
    Calls Try.prog 25 #[.pointer (some ⟨T, 0, none⟩), aLim x] w fun e w' => e = .returned (.tuple #[.int .u32 (numOf S x), .bool true]) ∧ TInv w' T base ((seen' S x).zip (cnt' S C x)) (idx (seen' S x)) [] (N + 1) ∧ Fr base w w' := by
  have hlen : (S.zip C).length = S.length := by simp [hC]
  have hlow : base ≤ w.heap.size := by
    obtain ⟨_, _, _, hT, hbT, _⟩ := h
    have := lt_of_block hT
    omega
  refine acq25 T x _ (fun w' => TInv w' T base ((seen' S x).zip (cnt' S C x)) (idx (seen' S x)) [] (N + 1) ∧ Fr base w w') w fun w1 hb => ?_
  have h1 := TInv.below h hb
  have hfr : Fr base w w1 := (Fr.refl base w).below hb hlow
  cases hi : idx S x with
  | some j =>
    obtain ⟨hj, hSj⟩ := idx_lt hi
    have e1 : numOf S x = j := by simp [numOf, hi]
    have e2 : seen' S x = S := by simp [seen', hi]
    have e3 : cnt' S C x = C.set j (C.getD j 0 + 1) := by simp [cnt', hi]
    rw [e1, e2, e3]
    have hCj : C[j]? = some (C.getD j 0) := by rw [List.getD_eq_getElem?_getD, List.getElem?_eq_getElem (by omega)]; simp
    have hz : (S.zip C)[j]? = some (x, C.getD j 0) := by rw [List.getElem?_zip_eq_some]; exact ⟨hSj, hCj⟩
    refine (acq_hit T base _ _ _ N x j (C.getD j 0) w1 h1 hx hi hz (hc _ (List.mem_of_getElem? hCj)) (by omega)).mono ?_
    rintro e w' ⟨rfl, hT', hfr'⟩
    refine ⟨rfl, ?_, hfr.trans hfr'⟩
    rw [zip_set S C j x _ hSj] at hT'
    obtain ⟨vL, vM, vF, q1, q2, q3, q4, q5⟩ := hT'
    refine ⟨vL, vM, vF, q1, q2, q3, q4, ?_⟩
    rcases q5 with q | ⟨M, q, q', q6⟩
    · exact .inl q
    · obtain ⟨D, hD, hD'⟩ := q6
      exact .inr ⟨M, q, q', D, hD.mono (Nat.le_succ N), hD'⟩
  | none =>
    have e1 : numOf S x = S.length := by simp [numOf, hi]
    have e2 : seen' S x = S ++ [x] := by simp [seen', hi]
    have e3 : cnt' S C x = C ++ [1] := by simp [cnt', hi]
    rw [e1, e2, e3, List.zip_append (by omega), idx_snoc S x hi]
    obtain ⟨vL, vM, vF, q1, q2, q3, q4, q5⟩ := h1
    rcases q5 with ⟨rfl, hno⟩ | ⟨M, rfl, q', q6⟩
    · have hS : idx S = fun _ => none := funext hno
      refine (acq_new_nil T base (S.zip C) vL vF x w1 q1 q2 q3 q4 hx (by omega)).mono ?_
      rintro e w' ⟨rfl, hT', hfr'⟩
      rw [hlen] at *
      refine ⟨rfl, ?_, hfr.trans hfr'⟩
      rw [hS]
      obtain ⟨vL, vM, vF, q1, q2, q3, q4, q5⟩ := hT'
      refine ⟨vL, vM, vF, q1, q2, q3, q4, ?_⟩
      rcases q5 with q | ⟨M, q, q', q6⟩
      · exact .inl q
      · obtain ⟨D, hD, hD'⟩ := q6
        exact .inr ⟨M, q, q', D, hD.mono (by omega), hD'⟩
    · refine (acq_new_map T base (S.zip C) (idx S) N M vL vF x w1 q1 q2 q' q6 hi hN q3 q4 hx (by omega)).mono ?_
      rintro e w' ⟨rfl, hT', hfr'⟩
      rw [hlen] at *
      exact ⟨rfl, hT', hfr.trans hfr'⟩

theorem tab24 (w : World) : Calls Try.prog 24 #[] w fun e w' => e = .returned (.pointer (some ⟨w.heap.size, 0, none⟩)) ∧ w' = w.alloc (.cells #[.slice none 0 0, .slice none 0 0, .int .i64 0, .int .i64 0, .slice none 0 0, .map none, .slice none 0 0] 84) := by
  go_enter Try.func24, Try.ntmps24
  go_wp2
  go_ret
  exact ⟨rfl, rfl⟩
theorem tab_start (w : World) : TInv (w.alloc (.cells #[.slice none 0 0, .slice none 0 0, .int .i64 0, .int .i64 0, .slice none 0 0, .map none, .slice none 0 0] 84)) w.heap.size w.heap.size (([] : List Lim).zip ([] : List Int)) (idx []) [] 0 :=
  ⟨_, _, _, heap_alloc_new w _, Nat.le_refl _, World.ownsRow_nil _ _ _ _, World.ownsRow_nil _ _ _ _, .inl ⟨rfl, fun x => rfl⟩⟩
end Go.Proofs.Qxb6605674a.B0
