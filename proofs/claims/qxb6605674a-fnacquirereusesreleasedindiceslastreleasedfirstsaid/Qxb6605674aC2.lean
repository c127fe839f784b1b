import Derived.Test.Qxb6605674aC1
set_option linter.unusedVariables false
set_option linter.unusedSimpArgs false
namespace Go.Proofs.Qxb6605674a.C2
open Go.RowKit Go.Proofs.Qxb6605674a.A2 Go.Proofs.Qxb6605674a.A4 Go.Proofs.Qxb6605674a.A3 Go.Proofs.Qxb6605674a.A5 Go.Proofs.Qxb6605674a.A6 Go.Proofs.Qxb6605674a.A7 Go.Proofs.Qxb6605674a.A8 Go.Proofs.Qxb6605674a.A9 Go.Proofs.Qxb6605674a.B0 Go.Proofs.Qxb6605674a.B2 Go.Proofs.Qxb6605674a.C1

/-- The model's state: S the limits seen, P their places, C their counts, K the stack of free places, L the table's limits. -/
structure M2 (S : List Lim) (P : List Nat) (C : List Int) (K : List Nat) (L : List (Lim × Int)) (k : Nat) : Prop where
  hP : P.length = S.length
  hC : C.length = S.length
  nd : (K ++ P).Nodup
  lt : ∀ p ∈ K ++ P, p < L.length
  pos : ∀ (j : Nat) (x : Lim), S[j]? = some x → L[P.getD j 0]? = some (x, C.getD j 0)
  cb : ∀ c ∈ C, 0 ≤ c ∧ c ≤ k

def f2 (S : List Lim) (P : List Nat) (y : Lim) : Option Nat := (idx S y).map (fun j => P.getD j 0)

theorem f2_snoc (S : List Lim) (P : List Nat) (x : Lim) (l : Nat) (hP : P.length = S.length) (h : idx S x = none) : f2 (S ++ [x]) (P ++ [l]) = fun y => if y = x then some l else f2 S P y := by
  funext y
  unfold f2
  rw [idx_snoc S x h]
  by_cases e : y = x
  · simp [e, ← hP]
  · simp only [if_neg e]
    cases hy : idx S y with
    | none => rfl
    | some j =>
      have := (idx_lt hy).1
      simp only [Option.map_some]
      rw [List.getD_eq_getElem?_getD, List.getD_eq_getElem?_getD, List.getElem?_append_left (by omega)]

theorem getD_snoc_lt {α : Type} (l : List α) (x d : α) (j : Nat) (h : j < l.length) : (l ++ [x]).getD j d = l.getD j d := by
  rw [List.getD_eq_getElem?_getD, List.getD_eq_getElem?_getD, List.getElem?_append_left h]
theorem getD_snoc_eq {α : Type} (l : List α) (x d : α) : (l ++ [x]).getD l.length d = x := by simp
theorem getD_mem {l : List Nat} {j : Nat} (h : j < l.length) : l.getD j 0 ∈ l := by
  rw [List.getD_eq_getElem?_getD, List.getElem?_eq_getElem h]; simp

/-- A new limit at place l, which no limit seen holds. -/
theorem M2.new {S : List Lim} {P : List Nat} {C : List Int} {K K' : List Nat} {L L' : List (Lim × Int)} {k : Nat} (h : M2 S P C K L k) (x : Lim) (l : Nat) (hnd : (K' ++ (P ++ [l])).Nodup) (hlt : ∀ p ∈ K' ++ (P ++ [l]), p < L'.length)
    (hl : L'[l]? = some (x, 1)) (hL : ∀ p ∈ P, L'[p]? = L[p]?) : M2 (S ++ [x]) (P ++ [l]) (C ++ [1]) K' L' (k + 1) := by
  refine ⟨by simp [h.hP], by simp [h.hC], hnd, hlt, fun j y hj => ?_, fun c hc => ?_⟩
  · by_cases e : j < S.length
    · rw [List.getElem?_append_left e] at hj
      rw [getD_snoc_lt _ _ _ _ (by rw [h.hP]; exact e), getD_snoc_lt _ _ _ _ (by rw [h.hC]; exact e), hL _ (getD_mem (by rw [h.hP]; exact e))]
      exact h.pos j y hj
    · have hjl : j < (S ++ [x]).length := (List.getElem?_eq_some_iff.1 hj).1
      have ej : j = S.length := by simp at hjl; omega
      subst ej
      rw [List.getElem?_append_right (Nat.le_refl _)] at hj
      simp at hj
      subst hj
      rw [← h.hP, getD_snoc_eq, h.hP, ← h.hC, getD_snoc_eq]
      exact hl
  · rcases List.mem_append.1 hc with hc | hc
    · have := h.cb c hc; omega
    · simp at hc; omega
theorem M2.free {S : List Lim} {P : List Nat} {C : List Int} {K0 : List Nat} {l : Nat} {L : List (Lim × Int)} {k : Nat} (h : M2 S P C (K0 ++ [l]) L k) (x : Lim) : M2 (S ++ [x]) (P ++ [l]) (C ++ [1]) K0 (L.set l (x, 1)) (k + 1) := by
  have hlL : l < L.length := h.lt l (by simp)
  have hperm : (K0 ++ (P ++ [l])).Perm (K0 ++ [l] ++ P) := by
    rw [List.append_assoc]
    exact List.Perm.append_left K0 List.perm_append_comm
  refine h.new x l (hperm.nodup_iff.2 h.nd) (fun p hp => ?_) (by simp [hlL]) (fun p hp => ?_)
  · rw [List.length_set]; exact h.lt p (hperm.mem_iff.1 hp)
  · have hne : l ≠ p := by
      intro e
      subst e
      have := h.nd
      rw [List.nodup_append] at this
      exact this.2.2 l (by simp) l hp rfl
    rw [List.getElem?_set_ne hne]
theorem M2.grow {S : List Lim} {P : List Nat} {C : List Int} {L : List (Lim × Int)} {k : Nat} (h : M2 S P C [] L k) (x : Lim) : M2 (S ++ [x]) (P ++ [L.length]) (C ++ [1]) [] (L ++ [(x, 1)]) (k + 1) := by
  have hlt : ∀ p ∈ P, p < L.length := fun p hp => h.lt p (by simpa using hp)
  refine h.new x L.length ?_ (fun p hp => ?_) (by simp) (fun p hp => ?_)
  · have := h.nd
    simp only [List.nil_append] at this ⊢
    rw [List.nodup_append]
    refine ⟨this, by simp, fun a ha b hb => ?_⟩
    simp at hb
    have := hlt a ha
    omega
  · simp at hp ⊢
    rcases hp with hp | rfl
    · have := hlt p hp; omega
    · omega
  · rw [List.getElem?_append_left (hlt p hp)]
theorem M2.old {S : List Lim} {P : List Nat} {C : List Int} {K : List Nat} {L : List (Lim × Int)} {k j : Nat} {x : Lim} (h : M2 S P C K L k) (hj : S[j]? = some x) : M2 S P (C.set j (C.getD j 0 + 1)) K (L.set (P.getD j 0) (x, C.getD j 0 + 1)) (k + 1) := by
  have hjS : j < S.length := (List.getElem?_eq_some_iff.1 hj).1
  have hPl : P.getD j 0 < L.length := h.lt _ (List.mem_append_right _ (getD_mem (by rw [h.hP]; exact hjS)))
  have hcj : C.getD j 0 ∈ C := by rw [List.getD_eq_getElem?_getD, List.getElem?_eq_getElem (by rw [h.hC]; exact hjS)]; simp
  refine ⟨h.hP, by simp [h.hC], h.nd, fun p hp => by rw [List.length_set]; exact h.lt p hp, fun i y hi => ?_, fun c hc => ?_⟩
  · have hiS : i < S.length := (List.getElem?_eq_some_iff.1 hi).1
    by_cases e : i = j
    · subst e
      rw [hj] at hi
      cases hi
      rw [List.getElem?_set_self hPl, List.getD_eq_getElem?_getD (l := C.set i _), List.getElem?_set_self (by rw [h.hC]; exact hjS)]
      rfl
    · have hne : P.getD j 0 ≠ P.getD i 0 := by
        intro ee
        have hnd := (List.nodup_append.1 h.nd).2.1
        rw [List.getD_eq_getElem?_getD, List.getD_eq_getElem?_getD, List.getElem?_eq_getElem (by rw [h.hP]; exact hjS), List.getElem?_eq_getElem (by rw [h.hP]; exact hiS)] at ee
        exact e ((List.getElem_inj hnd).1 ee).symm
      rw [List.getElem?_set_ne hne, h.pos i y hi, List.getD_eq_getElem?_getD (l := C.set j _), List.getElem?_set_ne (Ne.symm e), List.getD_eq_getElem?_getD]
  · rcases List.mem_or_eq_of_mem_set hc with hc | rfl
    · have := h.cb c hc; omega
    · have := h.cb _ hcj; omega

theorem TInv.mono {w : World} {T base : Nat} {L : List (Lim × Int)} {f : Lim → Option Nat} {F : List Nat} {N N' : Nat} (h : TInv w T base L f F N) (hN : N ≤ N') : TInv w T base L f F N' := by
  obtain ⟨vL, vM, vF, q1, q2, q3, q4, q5⟩ := h
  refine ⟨vL, vM, vF, q1, q2, q3, q4, ?_⟩
  rcases q5 with q | ⟨M, q, q', D, hD, hD'⟩
  · exact .inl q
  · exact .inr ⟨M, q, q', D, hD.mono hN, hD'⟩
theorem hasMap_of {w : World} {T base : Nat} {L : List (Lim × Int)} {f : Lim → Option Nat} {F : List Nat} {N : Nat} {x : Lim} {l : Nat} (h : TInv w T base L f F N) (hf : f x = some l) : HasMap w T := by
  obtain ⟨vL, vM, vF, q1, q2, q3, q4, q5⟩ := h
  rcases q5 with ⟨_, q⟩ | ⟨M, rfl, _⟩
  · rw [q] at hf; cases hf
  · exact ⟨_, _, _, _, _, M, _, q1⟩
theorem hasMap_below {w w1 : World} {T : Nat} (h : HasMap w T) (hb : Below w.heap.size w w1) : HasMap w1 T := by
  obtain ⟨a, b, c, d, e, M, g, hT⟩ := h
  exact ⟨a, b, c, d, e, M, g, (hb.block T (lt_of_block hT)).trans hT⟩
theorem bytes30 (a0 a1 a2 a3 : Option Addr) (n0 n1 n2 n3 c0 c1 c2 c3 : Nat) (w : World) (h0 : n0 ≤ maxLen) (h1 : n1 ≤ maxLen) (h2 : n2 ≤ maxLen) (h3 : n3 ≤ maxLen) :
    Calls Try.prog 30 #[.slice a0 n0 c0, .slice a1 n1 c1, .slice a2 n2 c2, .slice a3 n3 c3] w fun e w' => ∃ b : Bool, e = .returned (.bool b) ∧ (b = true → n0 + n1 + n2 + n3 ≤ 1048576) ∧ w' = w := by
  unfold maxLen at h0 h1 h2 h3
  go_enter Try.func30, Try.ntmps30
  go_wp2
  all_goals go_ret
  all_goals exact ⟨_, rfl, by simp <;> omega, rfl⟩

/-- 'acquire' of a limit that is held. -/
theorem acq2_old (T base : Nat) (S : List Lim) (P : List Nat) (C : List Int) (K : List Nat) (L : List (Lim × Int)) (k j : Nat) (x : Lim) (w : World) (h : TInv w T base L (f2 S P) K k) (hm : M2 S P C K L k) (hx : wf3 x) (hi : idx S x = some j) (hL : L.length ≤ 1048575) (hk : k ≤ 4096) :
    Calls Try.prog 25 #[.pointer (some ⟨T, 0, none⟩), aLim x] w fun e w' => e = .returned (.tuple #[.int .u32 (P.getD j 0 : Nat), .bool true]) ∧ TInv w' T base (L.set (P.getD j 0) (x, C.getD j 0 + 1)) (f2 S P) K (k + 1) ∧ Fr base w w' := by
  obtain ⟨hj, hSj⟩ := idx_lt hi
  have hlow : base ≤ w.heap.size := by
    obtain ⟨_, _, _, hT, hbT, _⟩ := h
    have := lt_of_block hT
    omega
  have hcj : C.getD j 0 ∈ C := by rw [List.getD_eq_getElem?_getD, List.getElem?_eq_getElem (by rw [hm.hC]; exact hj)]; simp
  have hcb := hm.cb _ hcj
  refine acq25 T x _ (fun w' => TInv w' T base (L.set (P.getD j 0) (x, C.getD j 0 + 1)) (f2 S P) K (k + 1) ∧ Fr base w w') w fun w1 hb => ?_
  refine (acq_hit T base _ _ _ k x (P.getD j 0) (C.getD j 0) w1 (TInv.below h hb) hx (by simp [f2, hi]) (hm.pos j x hSj) (by omega) (by omega)).mono ?_
  rintro e w' ⟨rfl, hT', hfr'⟩
  exact ⟨rfl, TInv.mono hT' (Nat.le_succ k), ((Fr.refl base w).below hb hlow).trans hfr'⟩
/-- 'acquire' of a new limit, a place being free. -/
theorem acq2_free (T base : Nat) (S : List Lim) (P : List Nat) (C : List Int) (K0 : List Nat) (l : Nat) (L : List (Lim × Int)) (k : Nat) (x : Lim) (w : World) (h : TInv w T base L (f2 S P) (K0 ++ [l]) k) (hM : HasMap w T) (hm : M2 S P C (K0 ++ [l]) L k) (hx : wf3 x) (hi : idx S x = none) (hL : L.length ≤ 1048575) (hk : k ≤ 4096) (hK : K0.length ≤ 1048576) :
    Calls Try.prog 25 #[.pointer (some ⟨T, 0, none⟩), aLim x] w fun e w' => e = .returned (.tuple #[.int .u32 l, .bool true]) ∧ TInv w' T base (L.set l (x, 1)) (f2 (S ++ [x]) (P ++ [l])) K0 (k + 1) ∧ Fr base w w' := by
  have hlow : base ≤ w.heap.size := by
    obtain ⟨_, _, _, hT, hbT, _⟩ := h
    have := lt_of_block hT
    omega
  rw [f2_snoc S P x l hm.hP hi]
  refine acq25 T x _ (fun w' => TInv w' T base (L.set l (x, 1)) (fun y => if y = x then some l else f2 S P y) K0 (k + 1) ∧ Fr base w w') w fun w1 hb => ?_
  have hM1 := hasMap_below hM hb
  obtain ⟨vL, vM, vF, q1, q2, q3, q4, q5⟩ := TInv.below h hb
  rcases q5 with ⟨rfl, _⟩ | ⟨M, rfl, q', q6⟩
  · obtain ⟨a, b, c, d, e, M, g, hT⟩ := hM1
    rw [q1] at hT
    simp at hT
  · refine (acq_free T base L (f2 S P) K0 l k M vL vF x w1 q1 q2 q' q6 (by simp [f2, hi]) (by omega) q3 (by simpa using q4) hx (by omega) hK (hm.lt l (by simp))).mono ?_
    rintro e w' ⟨rfl, hT', hfr'⟩
    exact ⟨rfl, hT', ((Fr.refl base w).below hb hlow).trans hfr'⟩
/-- 'acquire' of a new limit, no place being free. -/
theorem acq2_grow (T base : Nat) (S : List Lim) (P : List Nat) (C : List Int) (L : List (Lim × Int)) (k : Nat) (x : Lim) (w : World) (h : TInv w T base L (f2 S P) [] k) (hM : HasMap w T) (hm : M2 S P C [] L k) (hx : wf3 x) (hi : idx S x = none) (hL : L.length ≤ 1048575) (hk : k ≤ 4096) :
    Calls Try.prog 25 #[.pointer (some ⟨T, 0, none⟩), aLim x] w fun e w' => e = .returned (.tuple #[.int .u32 L.length, .bool true]) ∧ TInv w' T base (L ++ [(x, 1)]) (f2 (S ++ [x]) (P ++ [L.length])) [] (k + 1) ∧ Fr base w w' := by
  have hlow : base ≤ w.heap.size := by
    obtain ⟨_, _, _, hT, hbT, _⟩ := h
    have := lt_of_block hT
    omega
  rw [f2_snoc S P x L.length hm.hP hi]
  refine acq25 T x _ (fun w' => TInv w' T base (L ++ [(x, 1)]) (fun y => if y = x then some L.length else f2 S P y) [] (k + 1) ∧ Fr base w w') w fun w1 hb => ?_
  have hM1 := hasMap_below hM hb
  obtain ⟨vL, vM, vF, q1, q2, q3, q4, q5⟩ := TInv.below h hb
  rcases q5 with ⟨rfl, _⟩ | ⟨M, rfl, q', q6⟩
  · obtain ⟨a, b, c, d, e, M, g, hT⟩ := hM1
    rw [q1] at hT
    simp at hT
  · refine (acq_new_map T base L (f2 S P) k M vL vF x w1 q1 q2 q' q6 (by simp [f2, hi]) (by omega) q3 q4 hx (by omega)).mono ?_
    rintro e w' ⟨rfl, hT', hfr'⟩
    exact ⟨rfl, hT', ((Fr.refl base w).below hb hlow).trans hfr'⟩
end Go.Proofs.Qxb6605674a.C2
