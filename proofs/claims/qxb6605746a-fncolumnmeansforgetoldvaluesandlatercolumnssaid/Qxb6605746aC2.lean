import Derived.Test.Qxb6605746aC1
set_option linter.unusedVariables false
set_option linter.unusedSimpArgs false
namespace Go.Proofs.Qxb6605746a.C2
open Go.RowKit Go.Proofs.Qxb6605746a.A1 Go.Proofs.Qxb6605746a.A2 Go.Proofs.Qxb6605746a.A3 Go.Proofs.Qxb6605746a.A4 Go.Proofs.Qxb6605746a.A5 Go.Proofs.Qxb6605746a.A6 Go.Proofs.Qxb6605746a.A7 Go.Proofs.Qxb6605746a.A8 Go.Proofs.Qxb6605746a.A9 Go.Proofs.Qxb6605746a.B1 Go.Proofs.Qxb6605746a.B2 Go.Proofs.Qxb6605746a.C1

set_option maxRecDepth 100000 in
set_option maxHeartbeats 4000000 in
theorem walk5 (a0 a1 a2 : Option Addr) (n0 c0 n1 c1 n2 c2 : Nat) (n cols : Int) (w : World) (xs0 xs2 : List Nat) (ks : List Int) (hn0 : n0 < 9223372036854775808) (h1 : n1 < 9223372036854775808) (h2 : n2 < 9223372036854775808)
    (r0 : Hid (IsRow w a0 n0 c0 (xs0.map (Value.float .f64)))) (r1 : Hid (IsRow w a1 n1 c1 (ks.map (Value.int .i64)))) (r2 : Hid (IsRow w a2 n2 c2 (xs2.map (Value.float .f64)))) :
    Calls Try.prog 5 #[.slice a0 n0 c0, .slice a1 n1 c1, .int .i64 n, .slice a2 n2 c2, .int .i64 cols] w fun e w' => e = .returned (.bool true) ∧ Below w.heap.size w w' := by
  obtain ⟨i0, hi, hz0, hz1, hz2⟩ := info_parts info22
  have hsf := store_float
  obtain ⟨X0, hX0⟩ : ∃ X, X = xs0.take n0 := ⟨_, rfl⟩
  obtain ⟨K, hK⟩ : ∃ X, X = ks.take n1 := ⟨_, rfl⟩
  obtain ⟨X2, hX2⟩ : ∃ X, X = xs2.take n2 := ⟨_, rfl⟩
  have L0 : Hid (X0.length = n0) := (by have := row_len r0.out; simp [hX0] at this ⊢; omega : X0.length = n0)
  have L1 : Hid (K.length = n1) := (by have := row_len r1.out; simp [hK] at this ⊢; omega : K.length = n1)
  have L2 : Hid (X2.length = n2) := (by have := row_len r2.out; simp [hX2] at this ⊢; omega : X2.length = n2)
  have E0 : Hid (X0.map (Value.float .f64) = (xs0.map (Value.float .f64)).take n0) := (by rw [hX0, List.map_take] : X0.map (Value.float .f64) = (xs0.map (Value.float .f64)).take n0)
  have E1 : Hid (K.map (Value.int .i64) = (ks.map (Value.int .i64)).take n1) := (by rw [hK, List.map_take] : K.map (Value.int .i64) = (ks.map (Value.int .i64)).take n1)
  have E2 : Hid (X2.map (Value.float .f64) = (xs2.map (Value.float .f64)).take n2) := (by rw [hX2, List.map_take] : X2.map (Value.float .f64) = (xs2.map (Value.float .f64)).take n2)
  clear hX0 hK hX2
  obtain ⟨N, hN⟩ : ∃ N, N = n.toNat := ⟨_, rfl⟩
  obtain ⟨cl, hcl⟩ : ∃ cl, cl = cols.toNat := ⟨_, rfl⟩
  go_enter Try.func5, Try.ntmps5
  go_wp2_with (go_at_call 13; refine (bytes13 _ _ _ _ _ _ _ _ _ _ _ hn0 h1 h2 _).mono ?_; rintro e w1 ⟨b, rfl, hw⟩; obtain rfl : w = w1 := hw.symm; clear hw)
  all_goals try (go_ret; exact ⟨rfl, Below.refl _ _⟩)
  all_goals (
    have HG : Hid (Passes n0 n1 n2 n cols) := (by first
      | exact good_pos (by omega) (by omega) (by omega) (by omega) (by assumption) (And.right (by assumption))
      | exact good_zero (by omega) (by omega) (by omega) (by omega) (by omega)
      | exact good_neg (by omega) (by omega) (by omega) (by omega) : Passes n0 n1 n2 n cols)
    refine (clone9 a0 n0 c0 _ _ _ r0.out (by omega) E0 (one_f X0)).mono ?_
    rintro e wA ⟨p0, rfl, hown0, hh0, hbA⟩
    obtain ⟨s0, hu0, hs0⟩ := u_of_own hown0 L0.out
    have R1 : Hid (IsRow wA a1 n1 c1 (ks.map (Value.int .i64))) := r1.out.below hbA
    have HA : Hid (Below w.heap.size w wA ∧ U n0 wA p0 s0 X0 ∧ (0 < n0 → w.heap.size ≤ s0 ∧ s0 < wA.heap.size)) := ⟨hbA, hu0, hs0⟩
    clear hbA hown0 hh0 hu0 hs0
    go_wp2_with (first
      | (go_at_call 10; refine (clone10 a1 n1 c1 _ _ _ R1.out (by omega) E1 (one_i K)).mono ?_; rintro e wB ⟨p1, rfl, hown1, hh1, hbB⟩; obtain ⟨b1, hc1, hb1⟩ := ci_of_own (n0 := n0) hown1 (by have := L1.out; omega); have HB : Hid (Below w.heap.size w wB ∧ U n0 wB p0 s0 X0 ∧ CI n0 wB p1 b1 K ∧ (0 < n0 → w.heap.size ≤ s0 ∧ s0 < b1 ∧ b1 < wB.heap.size)) := ⟨bel_trans HA.out.1 hbB, HA.out.2.1.below hbB, hc1, fun h => ⟨(HA.out.2.2 h).1, Nat.lt_of_lt_of_le (HA.out.2.2 h).2 (hb1 h).1, (hb1 h).2⟩⟩; have R2 : Hid (IsRow wB a2 n2 c2 (xs2.map (Value.float .f64))) := r2.out.below HB.out.1; clear hown1 hh1 hbB hb1 hc1)
      | (go_at_call 9; refine (clone9 a2 n2 c2 _ _ _ R2.out (by omega) E2 (one_f X2)).mono ?_; rintro e wC ⟨p2, rfl, hown2, hh2, hbC⟩; have HC : Hid (St w wC n0 p0 s0 X0 p1 b1 K p2 wB.heap.size wC.heap.size X2) := ⟨bel_trans HB.out.1 hbC, HB.out.2.1.below hbC, fun h => ⟨(HB.out.2.2.1 h).1, (HB.out.2.2.1 h).2.below hbC⟩, fx_of_own hown2, HB.out.2.2.2, HB.out.1.size, hbC.size, Nat.le_refl _, hh2⟩; clear hown2 hh2 hbC))
    obtain ⟨lo, hlo⟩ : ∃ lo, wB.heap.size = lo := ⟨_, rfl⟩
    obtain ⟨hi', hhi⟩ : ∃ hi', wC.heap.size = hi' := ⟨_, rfl⟩
    have HC' : Hid (St w wC n0 p0 s0 X0 p1 b1 K p2 lo hi' X2) := (by rw [← hlo, ← hhi]; exact HC.out : St w wC n0 p0 s0 X0 p1 b1 K p2 lo hi' X2)
    clear R1 HA HB HC hlo hhi R2
    have Z1 : Hid (Calls Try.prog 11 #[.slice p0 n0 n0, .slice p1 n1 n1, .int .i64 n, .pointer (some ⟨wC.heap.size, 0, none⟩)] (wC.alloc (.cells #[.int .i64 n, .int .i64 cols, .slice p2 n2 n2, .slice none 0 0, .slice none 0 0, .string ⟨#[]⟩, .slice none 0 0] 35)) fun e w' => e = .returned (.tuple #[]) ∧ ∃ zs, U n0 w' p0 s0 zs ∧ (∀ j, j < n0 → fnum (zs.getD j 0) = want X2 K cl N j) ∧ OU n0 s0 wC w') := zz_u n0 n1 n2 s0 b1 lo hi' n cols X0 X2 K p0 p1 p2 wC hN hcl HC'.out.2.1 HC'.out.2.2.1 L1.out (fun h => by have := HC'.out.2.2.2.2.1 h; omega) HC'.out.2.2.2.1 L2.out (fun h => by have := HC'.out.2.2.2.2.1 h; omega) HC'.out.2.2.2.2.2.2.2.2 HG.out
    refine Z1.out.mono ?_
    rintro e wE ⟨rfl, z0, hz0u, hz0w, hz0o⟩
    have HE : Hid (St w wE n0 p0 s0 z0 p1 b1 K p2 lo hi' X2) := HC'.out.first hz0o hz0u
    have HW0 : Hid (∀ j, j < n0 → fnum (z0.getD j 0) = want X2 K cl N j) := hz0w
    clear Z1 HC' hz0u hz0w hz0o
    go_wp2_with (at_make; refine wpList_make_full _ rfl _ _ 26 rfl wE.heap.size 22 i0 (.float .f64 0) 1 Try.underlying26 hi hz0 hz1 .i64 .i64 _ _ n0 rfl rfl rfl rfl (by rw [hz2]; omega) (by unfold maxLen; omega) (Nat.le_refl _) ?_; intro wF hownF hgrowF; have hbF : Below wE.heap.size wE wF := (Below.refl _ _).grown hgrowF (Nat.le_refl _) (by simp); have HUF : Hid (U n0 wF (some ⟨wE.heap.size, 0, none⟩) wE.heap.size (List.replicate n0 0)) := u_made hownF; have HF : Hid (St w wF n0 p0 s0 z0 p1 b1 K p2 lo hi' X2) := HE.out.below hbF; clear hownF hgrowF hbF)
    obtain ⟨s1, hs1⟩ : ∃ s1, wE.heap.size = s1 := ⟨_, rfl⟩
    have HS1 : Hid (hi' ≤ s1) := (by rw [← hs1]; exact HE.out.2.2.2.2.2.2.2.1 : hi' ≤ s1)
    rw [hs1] at HUF
    rw [hs1]
    clear HE hs1
    have Z2 : Hid (Calls Try.prog 11 #[.slice (some ⟨s1, 0, none⟩) n0 n0, .slice p1 n1 n1, .int .i64 n, .pointer (some ⟨wF.heap.size, 0, none⟩)] (wF.alloc (.cells #[.int .i64 n, .int .i64 cols, .slice p2 n2 n2, .slice none 0 0, .slice none 0 0, .string ⟨#[]⟩, .slice none 0 0] 35)) fun e w' => e = .returned (.tuple #[]) ∧ ∃ zs, U n0 w' (some ⟨s1, 0, none⟩) s1 zs ∧ (∀ j, j < n0 → fnum (zs.getD j 0) = want X2 K cl N j) ∧ OU n0 s1 wF w') := zz_u n0 n1 n2 s1 b1 lo hi' n cols _ X2 K (some ⟨s1, 0, none⟩) p1 p2 wF hN hcl HUF.out HF.out.2.2.1 L1.out (fun h => by have := HF.out.2.2.2.2.1 h; have := HF.out.2.2.2.2.2.2.1; have := HS1.out; omega) HF.out.2.2.2.1 L2.out (fun h => .inr HS1.out) HF.out.2.2.2.2.2.2.2.2 HG.out
    refine Z2.out.mono ?_
    rintro e wG ⟨rfl, z1, hz1u, hz1w, hz1o⟩
    have HGG : Hid (St w wG n0 p0 s0 z0 p1 b1 K p2 lo hi' X2) := HF.out.ou hz1o HS1.out
    have HU1 : Hid (U n0 wG (some ⟨s1, 0, none⟩) s1 z1) := hz1u
    have HW1 : Hid (∀ j, j < n0 → fnum (z1.getD j 0) = want X2 K cl N j) := hz1w
    clear Z2 HF HUF hz1u hz1w hz1o
    by_cases hn : 0 < n
    · try (exfalso; omega)
      all_goals (
        obtain ⟨q1, q2, q3, q4⟩ := HG.out
        obtain ⟨q5, q6⟩ := q4 hn
        have hc' : cols = (cl : Int) := by omega
        have hn' : n = (N : Int) := by omega
        have q7 : N * cl ≤ n2 := by rw [hc', hn', ← Int.natCast_mul] at q6; omega
        have q8 : N * n0 ≤ N * cl := Nat.mul_le_mul_left _ (by omega)
        obtain ⟨M, hM⟩ : ∃ M, N * n0 = M := ⟨_, rfl⟩
        have HM : Hid (N * n0 = M) := hM
        have eM : n * (n0 : Int) = (M : Int) := by rw [hn', ← Int.natCast_mul, hM]
        have hM' : M ≤ 131072 := by omega
        have hnc : n0 ≤ cl := by omega
        have Q7 : Hid (N * cl ≤ n2) := q7
        have HCN : Hid (cols = (cl : Int)) := hc'
        clear q1 q2 q3 q4 q5 q6 q7 q8 hM hc' hn'
        go_wp2_with (at_make; refine wpList_make_full _ rfl _ _ 26 rfl wG.heap.size 22 i0 (.float .f64 0) 1 Try.underlying26 hi hz0 hz1 .i64 .i64 _ _ M rfl rfl rfl rfl (by rw [hz2]; omega) (by unfold maxLen; omega) (Nat.le_refl _) ?_; intro wH hownH hgrowH; have hbH : Below wG.heap.size wG wH := (Below.refl _ _).grown hgrowH (Nat.le_refl _) (by simp); have HFH : Hid (FB wH wG.heap.size (List.replicate M 0)) := made_fb hownH; have HH : Hid (St w wH n0 p0 s0 z0 p1 b1 K p2 lo hi' X2 ∧ U n0 wH (some ⟨s1, 0, none⟩) s1 z1 ∧ hi' ≤ wG.heap.size ∧ (0 < n0 → s1 ≠ wG.heap.size)) := ⟨HGG.out.below hbH, HU1.out.below hbH, HGG.out.2.2.2.2.2.2.2.1, fun h => by have := (HU1.out.2 h).2.lt; omega⟩; clear hownH hgrowH hbH)
        obtain ⟨s2, hs2⟩ : ∃ s2, wG.heap.size = s2 := ⟨_, rfl⟩
        rw [hs2] at HFH HH
        rw [hs2]
        clear HGG HU1 hs2
        have HGG : Hid (St w wH n0 p0 s0 z0 p1 b1 K p2 lo hi' X2) := HH.out.1
        have HU1 : Hid (U n0 wH (some ⟨s1, 0, none⟩) s1 z1) := HH.out.2.1
        have HS2 : Hid (hi' ≤ s2 ∧ (0 < n0 → s1 ≠ s2) ∧ True) := ⟨HH.out.2.2.1, HH.out.2.2.2, trivial⟩
        clear HH
        go_loopw [15] (fun i wr => ∃ k : Nat, k ≤ N ∧ i = .int .i64 k ∧ ∃ Z, FB wr s2 Z ∧ Cop N n0 cl k 0 X2 Z ∧ Oth s2 wH wr) (fun i _ => N - (intOf i).toNat)
        case atStart => exact ⟨0, Nat.zero_le _, rfl, _, HFH.out, by rw [← HM.out]; exact Cop.start, Oth.refl _ _⟩
        case round =>
          clear HFH
          obtain ⟨k, hk, rfl, Z, hF, hZ, hO⟩ := hrel
          have HFB : Hid (FB wr s2 Z) := hF
          have HZ0 : Hid (Cop N n0 cl k 0 X2 Z) := hZ
          have HO : Hid (Oth s2 wH wr) := hO
          clear hF hZ hO
          by_cases hlt : k < N
          · have hkn : (k : Int) < n := by omega
            go_wp2
            go_loopw [16] (fun j wx => ∃ l : Nat, l ≤ n0 ∧ j = .int .i64 l ∧ ∃ Z, FB wx s2 Z ∧ Cop N n0 cl k l X2 Z ∧ Oth s2 wH wx) (fun j _ => n0 - (intOf j).toNat)
            case atStart => exact ⟨0, Nat.zero_le _, rfl, Z, HFB.out, HZ0.out, HO.out⟩
            case round =>
              clear HFB HZ0 HO
              obtain ⟨l, hl, rfl, Z, hF, hZ, hO⟩ := hrel
              have HFB : Hid (FB wr s2 Z) := hF
              have HZ : Hid (Cop N n0 cl k l X2 Z) := hZ
              have HO : Hid (Oth s2 wH wr) := hO
              by_cases hll : l < n0
              · try (exfalso; omega)
                all_goals (
                  have q8 : (k + 1) * cl ≤ N * cl := Nat.mul_le_mul_right _ hlt
                  have q9 : (k + 1) * cl = k * cl + cl := by rw [Nat.add_mul, Nat.one_mul]
                  have r8 : (k + 1) * n0 ≤ N * n0 := Nat.mul_le_mul_right _ hlt
                  have r9 : (k + 1) * n0 = k * n0 + n0 := by rw [Nat.add_mul, Nat.one_mul]
                  have hz1' := hZ.1
                  obtain ⟨cb, hcb, hcb2, hp2, hFc⟩ := (HGG.out.ou (oth_one hO) HS2.out.1).2.2.2.1 (by have := L2.out; have := Q7.out; omega)
                  have hv := hFc.cell (k * cl + l) (by have := L2.out; have := Q7.out; omega)
                  have hw1 := hF.cell (k * n0 + l) (by omega)
                  have hw2 := hF.frozen (k * n0 + l)
                  obtain ⟨la, hla⟩ : ∃ la, k * cl = la := ⟨_, rfl⟩
                  obtain ⟨lb, hlb⟩ : ∃ lb, k * n0 = lb := ⟨_, rfl⟩
                  have e1 : (k : Int) * cols = (la : Int) := by rw [HCN.out, ← Int.natCast_mul, hla]
                  have e2 : (k : Int) * (n0 : Int) = (lb : Int) := by rw [← Int.natCast_mul, hlb]
                  have hlk : la + l < n2 := by have := Q7.out; omega
                  have hlk2 : lb + l < M := by have := HM.out; omega
                  have hn2 : n2 ≤ 131072 := by have := HG.out.1; omega
                  rw [hla] at hv
                  rw [hlb] at hw1 hw2
                  obtain ⟨v, hvv⟩ : ∃ v, X2.getD (la + l) 0 = v := ⟨_, rfl⟩
                  rw [hvv] at hv
                  generalize Z.getD (lb + l) 0 = y0 at hw1
                  have HV : Hid (X2.getD (k * cl + l) 0 = v) := (by rw [hla]; exact hvv : X2.getD (k * cl + l) 0 = v)
                  have HLB : Hid (k * n0 = lb) := hlb
                  subst hp2
                  clear q8 q9 r8 r9 hz1' hFc hla hlb hvv hcb hcb2 hF hZ hO
                  go_wp2
                  go_roundw
                  case rel => exact ⟨l + 1, by omega, by go_num, _, HFB.out.set (lb + l) v, by rw [← HLB.out]; exact HZ.out.put hll hlt HV.out, HO.out.set _ _⟩
                  case measure => simp [intOf]; omega)
              · obtain rfl : l = n0 := by omega
                clear hF hZ hO
                go_wp2
                go_roundw
                case rel => exact ⟨k + 1, by omega, by go_num, Z, HFB.out, HZ.out.row, HO.out⟩
                case measure => simp [intOf]; omega
          · have hkn : ¬ ((k : Int) < n) := by omega
            have ekN : k = N := by omega
            have HZ : Hid (Cop N n0 cl N 0 X2 Z) := (by have := HZ0.out; rw [ekN] at this; exact this : Cop N n0 cl N 0 X2 Z)
            clear HZ0 ekN
            go_wp2_with (at_make; refine wpList_make_full _ rfl _ _ 26 rfl wr.heap.size 22 i0 (.float .f64 0) 1 Try.underlying26 hi hz0 hz1 .i64 .i64 _ _ n0 rfl rfl rfl rfl (by rw [hz2]; omega) (by unfold maxLen; omega) (Nat.le_refl _) ?_; intro wJ hownJ hgrowJ; have hbJ : Below wr.heap.size wr wJ := (Below.refl _ _).grown hgrowJ (Nat.le_refl _) (by simp); have HUJ : Hid (U n0 wJ (some ⟨wr.heap.size, 0, none⟩) wr.heap.size (List.replicate n0 0)) := u_made hownJ; have HJ : Hid (St w wJ n0 p0 s0 z0 p1 b1 K p2 lo hi' X2 ∧ U n0 wJ (some ⟨s1, 0, none⟩) s1 z1 ∧ (0 < n0 → s1 < wr.heap.size) ∧ hi' ≤ wr.heap.size ∧ FX wJ s2 (s2 + 1) (some ⟨s2, 0, none⟩) Z ∧ s2 < wr.heap.size) := ⟨(HGG.out.ou (oth_one HO.out) HS2.out.1).below hbJ, (HU1.out.ou (oth_one HO.out) HS2.out.2.1).below hbJ, fun h => ((HU1.out.ou (oth_one HO.out) HS2.out.2.1).2 h).2.lt, (HGG.out.ou (oth_one HO.out) HS2.out.1).2.2.2.2.2.2.2.1, fun _ => ⟨s2, Nat.le_refl _, Nat.lt_succ_self _, rfl, HFB.out.below hbJ⟩, HFB.out.lt⟩; clear hownJ hgrowJ hbJ)
            obtain ⟨s3, hs3⟩ : ∃ s3, wr.heap.size = s3 := ⟨_, rfl⟩
            rw [hs3] at HUJ HJ
            rw [hs3]
            clear hs3
            have Z3 : Hid (Calls Try.prog 11 #[.slice (some ⟨s3, 0, none⟩) n0 n0, .slice p1 n1 n1, .int .i64 n, .pointer (some ⟨wJ.heap.size, 0, none⟩)] (wJ.alloc (.cells #[.int .i64 n, .int .i64 (n0 : Int), .slice (some ⟨s2, 0, none⟩) M M, .slice none 0 0, .slice none 0 0, .string ⟨#[]⟩, .slice none 0 0] 35)) fun e w' => e = .returned (.tuple #[]) ∧ ∃ zs, U n0 w' (some ⟨s3, 0, none⟩) s3 zs ∧ (∀ j, j < n0 → fnum (zs.getD j 0) = want Z K n0 N j) ∧ OU n0 s3 wJ w') := zz_u n0 n1 M s3 b1 s2 (s2 + 1) n n0 _ Z K (some ⟨s3, 0, none⟩) p1 (some ⟨s2, 0, none⟩) wJ hN (by omega) HUJ.out HJ.out.1.2.2.1 L1.out (fun h => by have := HJ.out.1.2.2.2.2.1 h; have := HJ.out.1.2.2.2.2.2.2.1; have := HJ.out.2.2.2; omega) HJ.out.2.2.2.2.1 (by rw [HZ.out.1, HM.out]) (fun _ => by have := HJ.out.2.2.2.2.2; omega) (.inr ⟨_, rfl⟩) (by have := pass_narrow HG.out hN; rw [HM.out] at this; exact this)
            refine Z3.out.mono ?_
            rintro e wK ⟨rfl, z3, hz3u, hz3w, hz3o⟩
            have S1 : Hid (Calls Try.prog 12 #[.slice p0 n0 n0, .slice (some ⟨s1, 0, none⟩) n0 n0] wK fun e w' => e = .returned (.bool true) ∧ Below wK.heap.size wK w') := same_u n0 s0 s1 p0 (some ⟨s1, 0, none⟩) z0 z1 wK (HJ.out.1.2.1.ou hz3o (fun h => by have := HJ.out.1.2.2.2.2.1 h; have := HJ.out.1.2.2.2.2.2.2.1; have := HJ.out.2.2.2; omega)) (HJ.out.2.1.ou hz3o (fun h => by have := HJ.out.2.2.1 h; omega)) (by omega) (fun j hj => (HW0.out j hj).trans (HW1.out j hj).symm)
            have S2 : Hid (∀ wL, Below wK.heap.size wK wL → Calls Try.prog 12 #[.slice (some ⟨s1, 0, none⟩) n0 n0, .slice (some ⟨s3, 0, none⟩) n0 n0] wL fun e w' => e = .returned (.bool true) ∧ Below wL.heap.size wL w') := fun wL hbL => same_u n0 s1 s3 (some ⟨s1, 0, none⟩) (some ⟨s3, 0, none⟩) z1 z3 wL ((HJ.out.2.1.ou hz3o (fun h => by have := HJ.out.2.2.1 h; omega)).below hbL) (hz3u.below hbL) (by omega) (fun j hj => (HW1.out j hj).trans ((want_narrow HZ.out hj).symm.trans (hz3w j hj).symm))
            have HK : Hid (Below w.heap.size w wK) := OU.to HJ.out.1.1 hz3o (fun h => by have := HJ.out.1.2.2.2.2.2.1; have := HJ.out.1.2.2.2.2.2.2.1; have := HJ.out.2.2.2; omega)
            clear Z3 hz3u hz3w hz3o HUJ
            go_wp2_with (first
              | (go_at_call 12; refine (S2.out wL hbL).mono ?_; rintro e wM ⟨rfl, hbM⟩)
              | (go_at_call 12; refine S1.out.mono ?_; rintro e wL ⟨rfl, hbL⟩))
            go_ret
            exact ⟨rfl, bel_trans (bel_trans HK.out hbL) hbM⟩)
    · try (exfalso; omega)
      all_goals (
        have hN0 : Hid (N = 0) := (by omega : N = 0)
        go_wp2_with (at_make; refine wpList_make_full _ rfl _ _ 26 rfl wG.heap.size 22 i0 (.float .f64 0) 1 Try.underlying26 hi hz0 hz1 .i64 .i64 _ _ n0 rfl rfl rfl rfl (by rw [hz2]; omega) (by unfold maxLen; omega) (Nat.le_refl _) ?_; intro wJ hownJ hgrowJ; have hbJ : Below wG.heap.size wG wJ := (Below.refl _ _).grown hgrowJ (Nat.le_refl _) (by simp); have HUJ : Hid (U n0 wJ (some ⟨wG.heap.size, 0, none⟩) wG.heap.size (List.replicate n0 0)) := u_made hownJ; have HJ : Hid (St w wJ n0 p0 s0 z0 p1 b1 K p2 lo hi' X2 ∧ U n0 wJ (some ⟨s1, 0, none⟩) s1 z1 ∧ (0 < n0 → s1 < wG.heap.size) ∧ hi' ≤ wG.heap.size) := ⟨HGG.out.below hbJ, HU1.out.below hbJ, fun h => (HU1.out.2 h).2.lt, HGG.out.2.2.2.2.2.2.2.1⟩; clear hownJ hgrowJ hbJ)
        obtain ⟨s3, hs3⟩ : ∃ s3, wG.heap.size = s3 := ⟨_, rfl⟩
        rw [hs3] at HUJ HJ
        rw [hs3]
        clear hs3
        have Z3 : Hid (Calls Try.prog 11 #[.slice (some ⟨s3, 0, none⟩) n0 n0, .slice p1 n1 n1, .int .i64 n, .pointer (some ⟨wJ.heap.size, 0, none⟩)] (wJ.alloc (.cells #[.int .i64 n, .int .i64 (n0 : Int), .slice none 0 0, .slice none 0 0, .slice none 0 0, .string ⟨#[]⟩, .slice none 0 0] 35)) fun e w' => e = .returned (.tuple #[]) ∧ ∃ zs, U n0 w' (some ⟨s3, 0, none⟩) s3 zs ∧ (∀ j, j < n0 → fnum (zs.getD j 0) = want [] K n0 N j) ∧ OU n0 s3 wJ w') := zz_u n0 n1 0 s3 b1 0 0 n n0 _ [] K (some ⟨s3, 0, none⟩) p1 none wJ hN (by omega) HUJ.out HJ.out.1.2.2.1 L1.out (fun h => by have := HJ.out.1.2.2.2.2.1 h; have := HJ.out.1.2.2.2.2.2.2.1; have := HJ.out.2.2.2; omega) (fun h => by simp at h) rfl (fun _ => by omega) (.inl rfl) (by have := pass_narrow HG.out hN; rw [hN0.out, Nat.zero_mul] at this; exact this)
        refine Z3.out.mono ?_
        rintro e wK ⟨rfl, z3, hz3u, hz3w, hz3o⟩
        have S1 : Hid (Calls Try.prog 12 #[.slice p0 n0 n0, .slice (some ⟨s1, 0, none⟩) n0 n0] wK fun e w' => e = .returned (.bool true) ∧ Below wK.heap.size wK w') := same_u n0 s0 s1 p0 (some ⟨s1, 0, none⟩) z0 z1 wK (HJ.out.1.2.1.ou hz3o (fun h => by have := HJ.out.1.2.2.2.2.1 h; have := HJ.out.1.2.2.2.2.2.2.1; have := HJ.out.2.2.2; omega)) (HJ.out.2.1.ou hz3o (fun h => by have := HJ.out.2.2.1 h; omega)) (by omega) (fun j hj => (HW0.out j hj).trans (HW1.out j hj).symm)
        have S2 : Hid (∀ wL, Below wK.heap.size wK wL → Calls Try.prog 12 #[.slice (some ⟨s1, 0, none⟩) n0 n0, .slice (some ⟨s3, 0, none⟩) n0 n0] wL fun e w' => e = .returned (.bool true) ∧ Below wL.heap.size wL w') := fun wL hbL => same_u n0 s1 s3 (some ⟨s1, 0, none⟩) (some ⟨s3, 0, none⟩) z1 z3 wL ((HJ.out.2.1.ou hz3o (fun h => by have := HJ.out.2.2.1 h; omega)).below hbL) (hz3u.below hbL) (by omega) (fun j hj => (HW1.out j hj).trans ((by have := hN0.out; subst this; exact want_none : want X2 K cl N j = want [] K n0 N j).trans (hz3w j hj).symm))
        have HK : Hid (Below w.heap.size w wK) := OU.to HJ.out.1.1 hz3o (fun h => by have := HJ.out.1.2.2.2.2.2.1; have := HJ.out.1.2.2.2.2.2.2.1; have := HJ.out.2.2.2; omega)
        clear Z3 hz3u hz3w hz3o HUJ
        go_wp2_with (first
          | (go_at_call 12; refine (S2.out wL hbL).mono ?_; rintro e wM ⟨rfl, hbM⟩)
          | (go_at_call 12; refine S1.out.mono ?_; rintro e wL ⟨rfl, hbL⟩))
        go_ret
        exact ⟨rfl, bel_trans (bel_trans HK.out hbL) hbM⟩))
end Go.Proofs.Qxb6605746a.C2
