import Derived.Test.Qxb6605746aB3
set_option linter.unusedVariables false
set_option linter.unusedSimpArgs false
namespace Go.Proofs.Qxb6605746a.C1
open Go.RowKit Go.Proofs.Qxb6605746a.A1 Go.Proofs.Qxb6605746a.A2 Go.Proofs.Qxb6605746a.A3 Go.Proofs.Qxb6605746a.A4 Go.Proofs.Qxb6605746a.A5 Go.Proofs.Qxb6605746a.A6 Go.Proofs.Qxb6605746a.A7 Go.Proofs.Qxb6605746a.A8 Go.Proofs.Qxb6605746a.A9 Go.Proofs.Qxb6605746a.B1 Go.Proofs.Qxb6605746a.B2

/-- A slice of n0 means: if there are any, the block s. -/
def U (n0 : Nat) (w : World) (p : Option Addr) (s : Nat) (zs : List Nat) : Prop := zs.length = n0 ∧ (0 < n0 → p = some ⟨s, 0, none⟩ ∧ FB w s zs)
def CI (n0 : Nat) (w : World) (p : Option Addr) (s : Nat) (ks : List Int) : Prop := 0 < n0 → p = some ⟨s, 0, none⟩ ∧ IB w s ks
/-- A row of floats in a block between lo and hi. -/
def FX (w : World) (lo hi : Nat) (p : Option Addr) (X : List Nat) : Prop := 0 < X.length → ∃ b, lo ≤ b ∧ b < hi ∧ p = some ⟨b, 0, none⟩ ∧ FB w b X
/-- Behind a walk that writes, if there are means, the block s alone. -/
def OU (n0 s : Nat) (w w' : World) : Prop := w'.os = w.os ∧ w'.tape = w.tape ∧ w'.output = w.output ∧ w.heap.size ≤ w'.heap.size ∧ ∀ k, k < w.heap.size → (0 < n0 → k ≠ s) → w'.heap[k]? = w.heap[k]?

theorem OU.of_oth {n0 s : Nat} {w w' : World} (h : Oth s w w') (h0 : 0 < n0) : OU n0 s w w' := ⟨h.1, h.2.1, h.2.2.1, h.2.2.2.1, fun k hk hn => h.2.2.2.2 k hk (hn h0)⟩
theorem OU.of_below {n0 s : Nat} {w w' : World} (h : Below w.heap.size w w') : OU n0 s w w' := ⟨h.os, h.tape, h.output, h.size, fun k hk _ => h.block k hk⟩
theorem OU.of_oth' {n0 s : Nat} {w w' : World} (h : OU 1 s w w') : Oth s w w' := ⟨h.1, h.2.1, h.2.2.1, h.2.2.2.1, fun k hk hn => h.2.2.2.2 k hk (fun _ => hn)⟩
theorem oth_one {s : Nat} {w w' : World} (h : Oth s w w') : OU 1 s w w' := OU.of_oth h (by omega)
theorem OU.to {n0 s : Nat} {w0 w w1 : World} (hb : Below w0.heap.size w0 w) (h : OU n0 s w w1) (hs : 0 < n0 → w0.heap.size ≤ s) : Below w0.heap.size w0 w1 := by
  obtain ⟨a1, a2, a3, a4, a5⟩ := h
  exact ⟨a1.trans hb.os, a2.trans hb.tape, a3.trans hb.output, Nat.le_trans hb.size a4, fun k hk => (a5 k (Nat.lt_of_lt_of_le hk hb.size) (fun h => by have := hs h; omega)).trans (hb.block k hk)⟩

theorem U.ou {m n0 s s' : Nat} {w w' : World} {p : Option Addr} {zs : List Nat} (h : U n0 w p s' zs) (ho : OU m s w w') (hs : 0 < n0 → s' ≠ s) : U n0 w' p s' zs :=
  ⟨h.1, fun h0 => ⟨(h.2 h0).1, (ho.2.2.2.2 s' (h.2 h0).2.lt (fun _ => hs h0)).trans (h.2 h0).2⟩⟩
theorem CI.ou {m n0 s s' : Nat} {w w' : World} {p : Option Addr} {zs : List Int} (h : CI n0 w p s' zs) (ho : OU m s w w') (hs : 0 < n0 → s' ≠ s) : CI n0 w' p s' zs :=
  fun h0 => ⟨(h h0).1, (ho.2.2.2.2 s' (h h0).2.lt (fun _ => hs h0)).trans (h h0).2⟩
theorem FX.ou {n0 s lo hi : Nat} {w w' : World} {p : Option Addr} {zs : List Nat} (h : FX w lo hi p zs) (ho : OU n0 s w w') (hs : 0 < n0 → s < lo ∨ hi ≤ s) : FX w' lo hi p zs := by
  intro h0
  obtain ⟨b, h1, h2, h3, h4⟩ := h h0
  exact ⟨b, h1, h2, h3, (ho.2.2.2.2 b h4.lt (fun h => by rcases hs h with h | h <;> omega)).trans h4⟩
theorem U.below {n0 s' : Nat} {w w' : World} {p : Option Addr} {zs : List Nat} (h : U n0 w p s' zs) (ho : Below w.heap.size w w') : U n0 w' p s' zs :=
  ⟨h.1, fun h0 => ⟨(h.2 h0).1, (h.2 h0).2.below ho⟩⟩

theorem u_of_own {w : World} {B n0 : Nat} {p : Option Addr} {X : List Nat} (h : Own w B 22 p (X.map (Value.float .f64))) (l : X.length = n0) : ∃ s, U n0 w p s X ∧ (0 < n0 → B ≤ s ∧ s < w.heap.size) := by
  by_cases h0 : 0 < n0
  · obtain ⟨b, h1, h2, h3⟩ := fb_of_own h (by omega)
    exact ⟨b, ⟨l, fun _ => ⟨h2, h3⟩⟩, fun _ => ⟨h1, h3.lt⟩⟩
  · exact ⟨0, ⟨l, fun h => absurd h h0⟩, fun h => absurd h h0⟩
theorem ci_of_own {w : World} {B n0 : Nat} {p : Option Addr} {X : List Int} (h : Own w B 3 p (X.map (Value.int .i64))) (l : n0 ≤ X.length) : ∃ s, CI n0 w p s X ∧ (0 < n0 → B ≤ s ∧ s < w.heap.size) := by
  by_cases h0 : 0 < n0
  · obtain ⟨b, h1, h2, h3⟩ := ib_of_own h (by omega)
    exact ⟨b, fun _ => ⟨h2, h3⟩, fun _ => ⟨h1, h3.lt⟩⟩
  · exact ⟨0, fun h => absurd h h0, fun h => absurd h h0⟩
theorem fx_of_own {w : World} {B : Nat} {p : Option Addr} {X : List Nat} (h : Own w B 22 p (X.map (Value.float .f64))) : FX w B w.heap.size p X := by
  intro h0
  obtain ⟨b, h1, h2, h3⟩ := fb_of_own h h0
  exact ⟨b, h1, h3.lt, h2, h3⟩
theorem own_of_fx {w : World} {lo hi : Nat} {p : Option Addr} {X : List Nat} (h : FX w lo hi p X) : Own w lo 22 p (X.map (Value.float .f64)) := by
  intro h0
  obtain ⟨b, h1, h2, h3, h4⟩ := h (by simpa using h0)
  exact ⟨b, h1, h3, h4⟩

theorem zz_u (n0 n1 n2 s b1 lo hi : Nat) (n cols : Int) {N cl : Nat} (Y X2 : List Nat) (K : List Int) (p p1 p2 : Option Addr) (wr : World) (hN : N = n.toNat) (hcl : cl = cols.toNat)
    (hu : U n0 wr p s Y) (hk : CI n0 wr p1 b1 K) (l1 : K.length = n1) (hd : 0 < n0 → b1 ≠ s) (hx : FX wr lo hi p2 X2) (l2 : X2.length = n2) (hs : 0 < n0 → s < lo ∨ hi ≤ s) (hh : Head p2) (hg : Passes n0 n1 n2 n cols) :
    Calls Try.prog 11 #[.slice p n0 n0, .slice p1 n1 n1, .int .i64 n, .pointer (some ⟨wr.heap.size, 0, none⟩)] (wr.alloc (.cells #[.int .i64 n, .int .i64 cols, .slice p2 n2 n2, .slice none 0 0, .slice none 0 0, .string ⟨#[]⟩, .slice none 0 0] 35)) fun e w' => e = .returned (.tuple #[]) ∧ ∃ zs, U n0 w' p s zs ∧ (∀ j, j < n0 → fnum (zs.getD j 0) = want X2 K cl N j) ∧ OU n0 s wr w' := by
  by_cases h0 : 0 < n0
  · obtain ⟨l0, hu'⟩ := hu
    obtain ⟨rfl, f0⟩ := hu' h0
    obtain ⟨rfl, f1⟩ := hk h0
    have hT : TB (wr.alloc (.cells #[.int .i64 n, .int .i64 cols, .slice p2 n2 n2, .slice none 0 0, .slice none 0 0, .string ⟨#[]⟩, .slice none 0 0] 35)) wr.heap.size n cols p2 n2 n2 := heap_alloc_new _ _
    have hb : Below wr.heap.size wr (wr.alloc (.cells #[.int .i64 n, .int .i64 cols, .slice p2 n2 n2, .slice none 0 0, .slice none 0 0, .string ⟨#[]⟩, .slice none 0 0] 35)) := B1.bel_alloc (Below.refl _ _)
    generalize wr.alloc (.cells #[.int .i64 n, .int .i64 cols, .slice p2 n2 n2, .slice none 0 0, .slice none 0 0, .string ⟨#[]⟩, .slice none 0 0] 35) = wE at *
    obtain ⟨g1, g2, g3, g4⟩ := hg
    refine zz11_raw (some ⟨s, 0, none⟩) (some ⟨b1, 0, none⟩) n0 n1 n1 wr.heap.size n wE (fun w' => ∃ zs, U n0 w' (some ⟨s, 0, none⟩) s zs ∧ (∀ j, j < n0 → fnum (zs.getD j 0) = want X2 K cl N j) ∧ OU n0 s wr w') ?_
    have key : ∃ cb, (0 < N → TB wE wr.heap.size n (cl : Int) (some ⟨cb, 0, none⟩) n2 n2 ∧ wr.heap.size ≠ s ∧ FB wE cb X2 ∧ cb ≠ s ∧ X2.length = n2 ∧ N * cl ≤ n2 ∧ n0 ≤ cl) := by
      by_cases hNp : 0 < N
      · obtain ⟨g5, g6⟩ := g4 (by omega)
        have hc' : cols = (cl : Int) := by omega
        have hn' : n = (N : Int) := by omega
        have q7 : N * cl ≤ n2 := by rw [hc', hn', ← Int.natCast_mul] at g6; omega
        have q8 : 1 * cl ≤ N * cl := Nat.mul_le_mul_right _ hNp
        obtain ⟨cb, hcb, hcb2, hp2, hFc⟩ := hx (by omega)
        have hw := hs h0
        refine ⟨cb, fun _ => ⟨by rw [← hc', ← hp2]; exact hT, ?_, hFc.below hb, by omega, l2, q7, by omega⟩⟩
        have := f0.lt
        omega
      · exact ⟨0, fun h => absurd h hNp⟩
    obtain ⟨cb, hcb⟩ := key
    refine (colmeans15 s n0 cb wr.heap.size b1 n1 n2 cl N n Y X2 K wE h0 (by omega) g3 (by omega) (by omega) hN (by omega) (f0.below hb) l0 (f1.below hb) l1 (hd h0) hcb).mono ?_
    rintro e w' ⟨h1, zs, z1, z2, z3, z4⟩
    have hO' : Oth s wr w' := Oth.trans ⟨hb.os, hb.tape, hb.output, hb.size, fun k hk _ => hb.block k hk⟩ z4
    exact ⟨h1, zs, ⟨z2, fun _ => ⟨rfl, z1⟩⟩, z3, OU.of_oth hO' h0⟩
  · obtain rfl : n0 = 0 := by omega
    refine (zz_zero p p1 p2 n1 n2 lo n cols wr _ (own_of_fx hx) (by simpa using l2) hg hh).mono ?_
    rintro e w' ⟨h1, h2⟩
    exact ⟨h1, [], ⟨rfl, fun h => absurd h (by omega)⟩, fun j hj => by omega, OU.of_below h2⟩

theorem same_u (n0 s t : Nat) (p q : Option Addr) (xs ys : List Nat) (w : World) (hs : U n0 w p s xs) (ht : U n0 w q t ys) (hn : n0 ≤ 1048576) (he : ∀ j, j < n0 → fnum (xs.getD j 0) = fnum (ys.getD j 0)) :
    Calls Try.prog 12 #[.slice p n0 n0, .slice q n0 n0] w fun e w' => e = .returned (.bool true) ∧ Below w.heap.size w w' := by
  by_cases h0 : 0 < n0
  · obtain ⟨l1, h1⟩ := hs
    obtain ⟨l2, h2⟩ := ht
    obtain ⟨rfl, f1⟩ := h1 h0
    obtain ⟨rfl, f2⟩ := h2 h0
    exact same12 s t n0 xs ys w f1 f2 l1 l2 hn he
  · obtain rfl : n0 = 0 := by omega
    exact same_nil p q w

/-- What stands between the calls. -/
def St (w wx : World) (n0 : Nat) (p0 : Option Addr) (s0 : Nat) (zs : List Nat) (p1 : Option Addr) (b1 : Nat) (K : List Int) (p2 : Option Addr) (lo hi : Nat) (X2 : List Nat) : Prop :=
  Below w.heap.size w wx ∧ U n0 wx p0 s0 zs ∧ CI n0 wx p1 b1 K ∧ FX wx lo hi p2 X2 ∧ (0 < n0 → w.heap.size ≤ s0 ∧ s0 < b1 ∧ b1 < lo) ∧ w.heap.size ≤ lo ∧ lo ≤ hi ∧ hi ≤ wx.heap.size ∧ Head p2

theorem St.below {w wx wy : World} {n0 : Nat} {p0 : Option Addr} {s0 : Nat} {zs : List Nat} {p1 : Option Addr} {b1 : Nat} {K : List Int} {p2 : Option Addr} {lo hi : Nat} {X2 : List Nat} (h : St w wx n0 p0 s0 zs p1 b1 K p2 lo hi X2) (hb : Below wx.heap.size wx wy) : St w wy n0 p0 s0 zs p1 b1 K p2 lo hi X2 := by
  obtain ⟨a1, a2, a3, a4, a5, a6, a7, a8, a9⟩ := h
  have ho : OU 0 0 wx wy := OU.of_below hb
  exact ⟨bel_trans a1 hb, a2.below hb, fun h0 => ⟨(a3 h0).1, (a3 h0).2.below hb⟩, a4.ou ho (fun h => by omega), a5, a6, a7, Nat.le_trans a8 hb.size, a9⟩
theorem St.ou {m s : Nat} {w wx wy : World} {n0 : Nat} {p0 : Option Addr} {s0 : Nat} {zs : List Nat} {p1 : Option Addr} {b1 : Nat} {K : List Int} {p2 : Option Addr} {lo hi : Nat} {X2 : List Nat} (h : St w wx n0 p0 s0 zs p1 b1 K p2 lo hi X2) (hb : OU m s wx wy) (hs : hi ≤ s) : St w wy n0 p0 s0 zs p1 b1 K p2 lo hi X2 := by
  obtain ⟨a1, a2, a3, a4, a5, a6, a7, a8, a9⟩ := h
  exact ⟨OU.to a1 hb (fun h => by omega), a2.ou hb (fun h => by have := a5 h; omega), a3.ou hb (fun h => by have := a5 h; omega), a4.ou hb (fun h => by omega), a5, a6, a7, Nat.le_trans a8 hb.2.2.2.1, a9⟩
theorem St.first {w wx wy : World} {n0 : Nat} {p0 : Option Addr} {s0 : Nat} {zs ys : List Nat} {p1 : Option Addr} {b1 : Nat} {K : List Int} {p2 : Option Addr} {lo hi : Nat} {X2 : List Nat} (h : St w wx n0 p0 s0 zs p1 b1 K p2 lo hi X2) (hb : OU n0 s0 wx wy) (hu : U n0 wy p0 s0 ys) : St w wy n0 p0 s0 ys p1 b1 K p2 lo hi X2 := by
  obtain ⟨a1, a2, a3, a4, a5, a6, a7, a8, a9⟩ := h
  exact ⟨OU.to a1 hb (fun h => by have := a5 h; omega), hu, a3.ou hb (fun h => by have := a5 h; omega), a4.ou hb (fun h => by have := a5 h; omega), a5, a6, a7, Nat.le_trans a8 hb.2.2.2.1, a9⟩

/-- The narrow copy: rows ahead of k whole, of row k the first j. -/
def Cop (N n0 cl k j : Nat) (X Z : List Nat) : Prop := Z.length = N * n0 ∧ ∀ a b, b < n0 → (a < k ∨ (a = k ∧ b < j)) → Z.getD (a * n0 + b) 0 = X.getD (a * cl + b) 0

theorem Cop.start {N n0 cl : Nat} {X : List Nat} : Cop N n0 cl 0 0 X (List.replicate (N * n0) 0) := ⟨by simp, fun a b _ h => by omega⟩
theorem Cop.row {N n0 cl k : Nat} {X Z : List Nat} (h : Cop N n0 cl k n0 X Z) : Cop N n0 cl (k + 1) 0 X Z :=
  ⟨h.1, fun a b hb h' => h.2 a b hb (by omega)⟩
theorem Cop.put {N n0 cl k j v : Nat} {X Z : List Nat} (h : Cop N n0 cl k j X Z) (hj : j < n0) (hk : k < N) (hv : X.getD (k * cl + j) 0 = v) : Cop N n0 cl k (j + 1) X (Z.set (k * n0 + j) v) := by
  have hl : k * n0 + j < Z.length := by
    have a1 : (k + 1) * n0 ≤ N * n0 := Nat.mul_le_mul_right _ hk
    have a2 : (k + 1) * n0 = k * n0 + n0 := by rw [Nat.add_mul, Nat.one_mul]
    have := h.1
    omega
  refine ⟨by simp [h.1], fun a b hb h' => ?_⟩
  rw [getD_set _ _ _ _ hl]
  by_cases e : a = k
  · subst e
    by_cases e2 : b = j
    · subst e2
      rw [if_pos rfl, hv]
    · rw [if_neg (by omega)]
      exact h.2 a b hb (by omega)
  · have a1 : (a + 1) * n0 ≤ k * n0 := Nat.mul_le_mul_right _ (by omega)
    have a2 : (a + 1) * n0 = a * n0 + n0 := by rw [Nat.add_mul, Nat.one_mul]
    rw [if_neg (by omega)]
    exact h.2 a b hb (by omega)

theorem colSum_congr {X Y : Nat → Option Nat} : ∀ n : Nat, (∀ i, i < n → X i = Y i) → colSum X n = colSum Y n
  | 0, _ => rfl
  | n + 1, h => by
    simp only [colSum]
    rw [colSum_congr n (fun i hi => h i (by omega)), h n (by omega)]
theorem want_narrow {X Z : List Nat} {K : List Int} {N n0 cl j : Nat} (h : Cop N n0 cl N 0 X Z) (hj : j < n0) : want Z K n0 N j = want X K cl N j := by
  unfold want
  congr 1
  exact colSum_congr N (fun i hi => by show fnum _ = fnum _; rw [h.2 i j hj (.inl hi)])
theorem want_none {X Z : List Nat} {K : List Int} {a b j : Nat} : want Z K a 0 j = want X K b 0 j := rfl
theorem pass_narrow {n0 n1 n2 N : Nat} {n cols : Int} (h : Passes n0 n1 n2 n cols) (hN : N = n.toNat) : Passes n0 n1 (N * n0) n n0 := by
  obtain ⟨h1, h2, h3, h4⟩ := h
  by_cases hn : 0 < n
  · obtain ⟨h5, h6⟩ := h4 hn
    obtain ⟨cl, rfl⟩ : ∃ cl : Nat, cols = (cl : Int) := ⟨cols.toNat, by omega⟩
    obtain rfl : n = (N : Int) := by omega
    have a1 : N * cl ≤ n2 := by rw [← Int.natCast_mul] at h6; omega
    have a2 : N * n0 ≤ N * cl := Nat.mul_le_mul_left _ (by omega)
    exact ⟨by omega, h2, h3, fun _ => ⟨by omega, by rw [← Int.natCast_mul]; omega⟩⟩
  · obtain rfl : N = 0 := by omega
    exact ⟨by omega, h2, h3, fun h => absurd h hn⟩
theorem u_made {w : World} {B g n : Nat} (h : w.ownsRow B 22 1 (.slice (some ⟨g, 0, none⟩) n n) n (madeCells (Value.cells (.float .f64 0)) (n * 1)).toList) : U n w (some ⟨g, 0, none⟩) g (List.replicate n 0) :=
  ⟨by simp, fun _ => ⟨rfl, made_fb h⟩⟩
end Go.Proofs.Qxb6605746a.C1
