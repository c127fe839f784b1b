import Derived.Test.Qxb6605746aA7
import Derived.Lib.SliceRun
set_option linter.unusedVariables false
set_option linter.unusedSimpArgs false
namespace Go.Proofs.Qxb6605746a.A8
open Go.RowKit Go.Proofs.Qxb6605746a.A1 Go.Proofs.Qxb6605746a.A2 Go.Proofs.Qxb6605746a.A3 Go.Proofs.Qxb6605746a.A4 Go.Proofs.Qxb6605746a.A5 Go.Proofs.Qxb6605746a.A6 Go.Proofs.Qxb6605746a.A7

theorem wp_gen {P : Program} {c : Code} {Q : Exit → Act → World → Prop} {a : Act} {w : World} (R : World → Prop) (hR : R w) (h : ∀ w', R w' → Code.wp P c Q a w') : Code.wp P c Q a w := h w hR

theorem set_zeros (s : Nat) : ∀ (k o : Nat) (w : World) (zs : List Nat), FB w s zs → o + k ≤ zs.length → ∃ ys, FB (w.setCells s o (List.replicate k (.float .f64 0))) s ys ∧ ys.length = zs.length ∧ (∀ j, o ≤ j → j < o + k → ys.getD j 0 = 0) ∧ ∀ j, j < o → ys.getD j 0 = zs.getD j 0
  | 0, o, w, zs, h, _ => ⟨zs, h, rfl, fun j h1 h2 => by omega, fun _ _ => rfl⟩
  | k + 1, o, w, zs, h, hl => by
    obtain ⟨ys, h1, h2, h3, h4⟩ := set_zeros s k (o + 1) _ _ (h.set o 0) (by simp; omega)
    refine ⟨ys, h1, by simpa using h2, fun j j1 j2 => ?_, fun j hj => ?_⟩
    · by_cases e : j = o
      · subst e
        rw [h4 j (by omega), getD_set _ _ _ _ (by omega), if_pos rfl]
      · exact h3 j (by omega) (by omega)
    · rw [h4 j (by omega), getD_set _ _ _ _ (by omega), if_neg (by omega)]

theorem oth_zeros (s : Nat) (v : Value) : ∀ (k o : Nat) (w0 w : World), Oth s w0 w → Oth s w0 (w.setCells s o (List.replicate k v))
  | 0, o, w0, w, h => h
  | k + 1, o, w0, w, h => oth_zeros s v k (o + 1) w0 _ (h.set o v)

/-- The sum of a column's observed cells, top to bottom. -/
def colSum (X : Nat → Option Nat) : Nat → Option Nat
  | 0 => some 0
  | i + 1 => faddo (colSum X i) (X i)

def Sums (m k cols : Nat) (cs ys : List Nat) : Prop := ys.length = m ∧ ∀ j, j < m → fnum (ys.getD j 0) = colSum (fun i => fnum (cs.getD (i * cols + j) 0)) k

theorem fnum0 : fnum 0 = some 0 := by
  unfold fnum
  rw [if_neg (by decide)]

theorem Sums.step {m k cols : Nat} {cs ys zs : List Nat} (h : Sums m k cols cs ys) (hp : Part m m ys cs (k * cols) zs) : Sums m (k + 1) cols cs zs := by
  refine ⟨hp.1, fun j hj => ?_⟩
  rw [hp.2.1 j hj, h.2 j hj]
  rfl

theorem zero22 (w : World) : (zeroValue 22).run Try.prog w = .ok (.float .f64 0) w := by
  obtain ⟨i0, hi, hz0, hz1, hz2⟩ := info_parts info22
  simp [zeroValue, typeInfo, hi, hz0]

def TB (w : World) (T : Nat) (n cols : Int) (p : Option Addr) (L C : Nat) : Prop := w.heap[T]? = some (.cells #[.int .i64 n, .int .i64 cols, .slice p L C, .slice none 0 0, .slice none 0 0, .string ⟨#[]⟩, .slice none 0 0] 35 (0, 0))

theorem TB.cols {w : World} {T : Nat} {n cols : Int} {p : Option Addr} {L C : Nat} (h : TB w T n cols p L C) : w.cell? ⟨T, 1, none⟩ = some (.int .i64 cols) := by rw [cell_of_row w T 1 _ _ _ h]; rfl
theorem TB.cells {w : World} {T : Nat} {n cols : Int} {p : Option Addr} {L C : Nat} (h : TB w T n cols p L C) : w.cell? ⟨T, 2, none⟩ = some (.slice p L C) := by rw [cell_of_row w T 2 _ _ _ h]; rfl
theorem TB.oth {s : Nat} {w w' : World} {T : Nat} {n cols : Int} {p : Option Addr} {L C : Nat} (h : TB w T n cols p L C) (ho : Oth s w w') (hs : T ≠ s) : TB w' T n cols p L C := (ho.2.2.2.2 T (lt_of_block h) hs).trans h
theorem TB.below {w w' : World} {T : Nat} {n cols : Int} {p : Option Addr} {L C : Nat} (h : TB w T n cols p L C) (ho : Below w.heap.size w w') : TB w' T n cols p L C := (ho.block T (lt_of_block h)).trans h

set_option maxRecDepth 100000 in
set_option maxHeartbeats 1000000 in
theorem colmeans15 (s m cb T kb M L cols N : Nat) (n : Int) (zs cs : List Nat) (ks : List Int) (w : World) (hm : 0 < m) (hm' : m ≤ 1048576) (hM : m ≤ M) (hM' : M ≤ 1048576) (hL : L ≤ 1048576) (hN : N = n.toNat) (hN' : N ≤ 1048576)
    (hs : FB w s zs) (hz : zs.length = m) (hk : IB w kb ks) (hkl : ks.length = M) (hks : kb ≠ s)
    (hT : 0 < N → TB w T n cols (some ⟨cb, 0, none⟩) L L ∧ T ≠ s ∧ FB w cb cs ∧ cb ≠ s ∧ cs.length = L ∧ N * cols ≤ L ∧ m ≤ cols) :
    Calls Try.prog 15 #[.slice (some ⟨s, 0, none⟩) m m, .slice (some ⟨kb, 0, none⟩) M M, .int .i64 n, .func (.func 16) #[.pointer (some ⟨T, 0, none⟩)] #[]] w fun e w' => e = .returned (.tuple #[]) ∧ ∃ ys,
      FB w' s ys ∧ ys.length = m ∧ (∀ j, j < m → fnum (ys.getD j 0) = fop .quo (colSum (fun i => fnum (cs.getD (i * cols + j) 0)) N) (fnum (floatOfInt .f64 (ks.getD j 0)))) ∧ Oth s w w' := by
  have hclr := fun ty => Lib.run_clear_slice (P := Try.prog) w 26 22 ty (.float .f64 0) Try.underlying26 zero22 rfl rfl s 0 m m hm (fun j hj => by rw [Nat.zero_add, hs.cell j (by omega)]; rfl) (fun j hj => by rw [Nat.zero_add]; exact hs.frozen j)
  go_enter Try.func15, Try.ntmps15
  go_wp2
  obtain ⟨z1, hz1, hz2, hz3, _⟩ := set_zeros s m 0 w zs hs (by omega)
  have hS0 : Sums m 0 cols cs z1 := ⟨by omega, fun j hj => by rw [hz3 j (by omega) (by omega), fnum0]; rfl⟩
  have hO0 : Oth s w (w.setCells s 0 (List.replicate m (.float .f64 0))) := oth_zeros s _ m 0 w w (Oth.refl _ _)
  refine wp_gen (fun W => Oth s w W ∧ FB W s z1) ⟨hO0, hz1⟩ ?_
  intro W hW
  obtain ⟨hO, hF⟩ := hW
  clear hz1 hz2 hz3 hO0 hclr
  go_loopw [11] (fun i wr => ∃ k : Nat, k ≤ N ∧ i = .int .i64 k ∧ ∃ ys, FB wr s ys ∧ Sums m k cols cs ys ∧ Oth s w wr) (fun i _ => N - (intOf i).toNat)
  case atStart => exact ⟨0, Nat.zero_le _, rfl, z1, hF, hS0, hO⟩
  case round =>
    clear hF hS0 hO
    obtain ⟨k, hkN, rfl, ys, hF, hS, hO⟩ := hrel
    by_cases hlt : k < N
    · obtain ⟨hT1, hTs, hC, hCs, hcl, hNc, hmc⟩ := hT (by omega)
      have hT2 := hT1.oth hO hTs
      have g1 := hT2.cols
      have g2 := hT2.cells
      have hC2 := hC.oth hO hCs
      have a1 : (k + 1) * cols ≤ N * cols := Nat.mul_le_mul_right _ hlt
      have a2 : (k + 1) * cols = k * cols + cols := by rw [Nat.add_mul, Nat.one_mul]
      obtain ⟨lo, hlo⟩ : ∃ lo, k * cols = lo := ⟨_, rfl⟩
      obtain ⟨hi, hhi⟩ : ∃ hi, (k + 1) * cols = hi := ⟨_, rfl⟩
      have a3 : hi = lo + cols := by rw [← hlo, ← hhi]; exact a2
      have a4 : hi ≤ L := by rw [← hhi]; omega
      have hkn : (k : Int) < n := by omega
      have HLO : Hid (k * cols = lo) := hlo
      have HHI : Hid ((k + 1) * cols = hi) := hhi
      have HF : Hid (FB wr s ys) := hF
      have HC : Hid (FB wr cb cs) := hC2
      have HS : Hid (Sums m k cols cs ys) := hS
      have HO : Hid (Oth s w wr) := hO
      have HSL : Hid (ys.length = m) := hS.1
      have R16 : Hid (Calls Try.prog 16 #[.pointer (some ⟨T, 0, none⟩), .int .i64 (k : Int)] wr fun e w' => e = .returned (.slice (some ⟨cb, lo, none⟩) (hi - lo) (L - lo)) ∧ ∃ n, w' = wr.drewN n) := row16 T cb k cols L L lo hi wr g1 g2 hlo hhi a4 (by omega) hL (by omega)
      have R18 : Hid (∀ nn, Calls Try.prog 18 #[.slice (some ⟨s, 0, none⟩) m m, .slice (some ⟨cb, lo, none⟩) (hi - lo) (L - lo)] (wr.drewN nn) fun e w' => e = .returned (.tuple #[]) ∧ ∃ zs, FB w' s zs ∧ Part m m ys cs lo zs ∧ Oth s wr w') := fun nn => addobs18 s m cb lo (hi - lo) (L - lo) ys cs (wr.drewN nn) hF hC2 hCs hS.1 (by omega) (by omega) (by omega) (by unfold maxLen; omega)
      clear hF hC2 hS hO hlo hhi a1 a2 a3 hT1 hT2 hC hcl
      go_wp2_with (first
        | (go_at_call 16; refine R16.out.mono ?_; rintro e w1 ⟨rfl, nn, rfl⟩)
        | (go_at_call 18; refine (R18.out _).mono ?_; rintro e w2 ⟨rfl, zs', hF2, hP2, hO2⟩))
      go_roundw
      case rel => exact ⟨k + 1, by omega, by go_num, zs', hF2, HS.out.step (by rw [HLO.out]; exact hP2), HO.out.trans hO2⟩
      case measure => simp [intOf]; omega
    · have hkn : ¬ ((k : Int) < n) := by omega
      have ekN : k = N := by omega
      have HF : Hid (FB wr s ys) := hF
      have HS : Hid (Sums m N cols cs ys) := (by rw [← ekN]; exact hS : Sums m N cols cs ys)
      have HO : Hid (Oth s w wr) := hO
      have R19 : Hid (Calls Try.prog 19 #[.slice (some ⟨s, 0, none⟩) m m, .slice (some ⟨kb, 0, none⟩) M M] wr fun e w' => e = .returned (.tuple #[]) ∧ ∃ zs, FB w' s zs ∧ PartQ m m ys ks zs ∧ Oth s wr w') := means19 s m kb M M ys ks wr hF (hk.oth hO hks) hks hS.1 hkl hM hm' hM'
      clear hF hS hO ekN hT
      go_wp2_with (go_at_call 19; refine R19.out.mono ?_; rintro e w2 ⟨rfl, zs', hF2, hP2, hO2⟩)
      go_end0
      exact ⟨rfl, zs', hF2, hP2.1, fun j hj => by rw [hP2.2.1 j hj, HS.out.2 j hj], HO.out.trans hO2⟩
end Go.Proofs.Qxb6605746a.A8
