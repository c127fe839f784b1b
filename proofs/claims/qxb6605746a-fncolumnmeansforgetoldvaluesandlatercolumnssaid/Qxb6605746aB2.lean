import Derived.Test.Qxb6605746aB1
set_option linter.unusedVariables false
set_option linter.unusedSimpArgs false
namespace Go.Proofs.Qxb6605746a.B2
open Go.RowKit Go.Proofs.Qxb6605746a.A1 Go.Proofs.Qxb6605746a.A2 Go.Proofs.Qxb6605746a.A3 Go.Proofs.Qxb6605746a.A4 Go.Proofs.Qxb6605746a.A5 Go.Proofs.Qxb6605746a.A6 Go.Proofs.Qxb6605746a.A7 Go.Proofs.Qxb6605746a.A8 Go.Proofs.Qxb6605746a.A9 Go.Proofs.Qxb6605746a.B1

/-- What the law asks of column j. -/
def want (cs : List Nat) (ks : List Int) (cl N j : Nat) : Option Nat := fop .quo (colSum (fun i => fnum (cs.getD (i * cl + j) 0)) N) (fnum (floatOfInt .f64 (ks.getD j 0)))

theorem fb_of_own {w : World} {B : Nat} {p : Option Addr} {xs : List Nat} (h : Own w B 22 p (xs.map (Value.float .f64))) (hl : 0 < xs.length) : ∃ b, B ≤ b ∧ p = some ⟨b, 0, none⟩ ∧ FB w b xs := h (by simpa using hl)
theorem ib_of_own {w : World} {B : Nat} {p : Option Addr} {xs : List Int} (h : Own w B 3 p (xs.map (Value.int .i64))) (hl : 0 < xs.length) : ∃ b, B ≤ b ∧ p = some ⟨b, 0, none⟩ ∧ IB w b xs := h (by simpa using hl)

/-- zero floats, as make lays them -/
theorem made_fb {w : World} {B g n : Nat} (h : w.ownsRow B 22 1 (.slice (some ⟨g, 0, none⟩) n n) n (madeCells (Value.cells (.float .f64 0)) (n * 1)).toList) : FB w g (List.replicate n 0) := by
  have := own_block h
  unfold FB
  rw [this]
  congr 3
  have e : (madeCells (Value.cells (.float .f64 0)) (n * 1)).toList = List.replicate n (Value.float .f64 0) := by
    rw [← toList_madeCells_one]
    simp [Value.cells]
  rw [e]
  simp

theorem own_lt {w : World} {B : Nat} {p : Option Addr} {xs : List Nat} (h : Own w B 22 p (xs.map (Value.float .f64))) (hl : 0 < xs.length) (cb : Nat) (hp : p = some ⟨cb, 0, none⟩) : cb < w.heap.size := by
  obtain ⟨b, _, h', hf⟩ := fb_of_own h hl
  rw [hp] at h'
  cases h'
  exact hf.lt
theorem put_want {ys cs : List Nat} {ks : List Int} {cl N k n0 q : Nat} (h : ∀ j, j < k → fnum (ys.getD j 0) = want cs ks cl N j) (hl : ys.length = n0) (hk : k < n0) (hq : fnum q = want cs ks cl N k) : ∀ j, j < k + 1 → fnum ((ys.set k q).getD j 0) = want cs ks cl N j := by
  intro j hj
  rw [getD_set _ _ _ _ (by omega)]
  by_cases e : j = k
  · subst e; rw [if_pos rfl]; exact hq
  · rw [if_neg e]; exact h j (by omega)
theorem row_len {w : World} {a : Option Addr} {n c : Nat} {vs : List Value} (h : IsRow w a n c vs) : n ≤ vs.length := by
  rcases h with ⟨_, h, _, h'⟩ | ⟨_, _, h, _, h', _⟩
  · subst h; exact Nat.zero_le _
  · omega
theorem one_f (xs : List Nat) : Hid (∀ v ∈ xs.map (Value.float .f64), v.oneCell' = true) := by
  intro v hv
  obtain ⟨x, _, rfl⟩ := List.mem_map.1 hv
  rfl
theorem one_i (xs : List Int) : Hid (∀ v ∈ xs.map (Value.int .i64), v.oneCell' = true) := by
  intro v hv
  obtain ⟨x, _, rfl⟩ := List.mem_map.1 hv
  rfl

/-- What columnMeans leaves in the block of the means. -/
def ZZ (w' wr : World) (b0 n0 : Nat) (cs : List Nat) (ks : List Int) (cl N : Nat) : Prop := ∃ zs, FB w' b0 zs ∧ zs.length = n0 ∧ (∀ j, j < n0 → fnum (zs.getD j 0) = want cs ks cl N j) ∧ Oth b0 wr w'

theorem zz_pos (b0 b1 wb n0 n1 n2 B : Nat) (n cols : Int) {N cl : Nat} (X0 X2 ys : List Nat) (K : List Int) (p2 : Option Addr) (wD wr : World) (hN : N = n.toNat) (hcl : cl = cols.toNat) (h0 : 0 < n0) (l0 : X0.length = n0) (l1 : K.length = n1) (l2 : X2.length = n2)
    (y0 : FB wD b0 X0) (y1 : IB wD b1 K) (y2 : Own wD B 22 p2 (X2.map (Value.float .f64))) (d0 : b0 ≠ wb) (d1 : b1 ≠ wb) (d2 : b1 ≠ b0) (d3 : b0 < B) (d4 : 0 < X2.length → ∀ cb, p2 = some ⟨cb, 0, none⟩ → cb < wb) (hO : Oth wb wD wr) (hg : Passes n0 n1 n2 n cols) :
    Calls Try.prog 11 #[.slice (some ⟨b0, 0, none⟩) n0 n0, .slice (some ⟨b1, 0, none⟩) n1 n1, .int .i64 n, .pointer (some ⟨wr.heap.size, 0, none⟩)] (wr.alloc (.cells #[.int .i64 n, .int .i64 cols, .slice p2 n2 n2, .slice none 0 0, .slice none 0 0, .string ⟨#[]⟩, .slice none 0 0] 35)) fun e w' => e = .returned (.tuple #[]) ∧ ZZ w' wr b0 n0 X2 K cl N := by
  have hT : TB (wr.alloc (.cells #[.int .i64 n, .int .i64 cols, .slice p2 n2 n2, .slice none 0 0, .slice none 0 0, .string ⟨#[]⟩, .slice none 0 0] 35)) wr.heap.size n cols p2 n2 n2 := heap_alloc_new _ _
  have hb : Below wr.heap.size wr (wr.alloc (.cells #[.int .i64 n, .int .i64 cols, .slice p2 n2 n2, .slice none 0 0, .slice none 0 0, .string ⟨#[]⟩, .slice none 0 0] 35)) := B1.bel_alloc (Below.refl _ _)
  generalize wr.alloc (.cells #[.int .i64 n, .int .i64 cols, .slice p2 n2 n2, .slice none 0 0, .slice none 0 0, .string ⟨#[]⟩, .slice none 0 0] 35) = wE at *
  have f0 := y0.oth hO d0
  have f1 := y1.oth hO d1
  obtain ⟨g1, g2, g3, g4⟩ := hg
  refine zz11_raw (some ⟨b0, 0, none⟩) (some ⟨b1, 0, none⟩) n0 n1 n1 wr.heap.size n wE (fun w' => ZZ w' wr b0 n0 X2 K cl N) ?_
  have key : ∃ cb, (0 < N → TB wE wr.heap.size n (cl : Int) (some ⟨cb, 0, none⟩) n2 n2 ∧ wr.heap.size ≠ b0 ∧ FB wE cb X2 ∧ cb ≠ b0 ∧ X2.length = n2 ∧ N * cl ≤ n2 ∧ n0 ≤ cl) := by
    by_cases hNp : 0 < N
    · obtain ⟨g5, g6⟩ := g4 (by omega)
      have hc' : cols = (cl : Int) := by omega
      have hn' : n = (N : Int) := by omega
      have q7 : N * cl ≤ n2 := by rw [hc', hn', ← Int.natCast_mul] at g6; omega
      have q8 : 1 * cl ≤ N * cl := Nat.mul_le_mul_right _ hNp
      obtain ⟨cb, hcb, hp2, hFc⟩ := fb_of_own y2 (by omega)
      have hw := d4 (by omega) cb hp2
      refine ⟨cb, fun _ => ⟨by rw [← hc', ← hp2]; exact hT, ?_, (hFc.oth hO (by omega)).below hb, by omega, l2, q7, by omega⟩⟩
      have := f0.lt
      omega
    · exact ⟨0, fun h => absurd h hNp⟩
  obtain ⟨cb, hcb⟩ := key
  refine (colmeans15 b0 n0 cb wr.heap.size b1 n1 n2 cl N n X0 X2 K wE h0 (by omega) g3 (by omega) (by omega) hN (by omega) (f0.below hb) l0 (f1.below hb) l1 d2 hcb).mono ?_
  rintro e w' ⟨h1, zs, z1, z2, z3, z4⟩
  have hO' : Oth b0 wr w' := Oth.trans ⟨hb.os, hb.tape, hb.output, hb.size, fun k hk _ => hb.block k hk⟩ z4
  exact ⟨h1, zs, z1, z2, z3, hO'⟩

set_option maxHeartbeats 2000000 in
theorem walk_pos (a0 a1 a2 : Option Addr) (n0 c0 n1 c1 n2 c2 : Nat) (n cols : Int) (w : World) (xs0 xs2 : List Nat) (ks : List Int) (h0 : 0 < n0) (hn0 : n0 < 9223372036854775808) (h1 : n1 < 9223372036854775808) (h2 : n2 < 9223372036854775808)
    (r0 : Hid (IsRow w a0 n0 c0 (xs0.map (Value.float .f64)))) (r1 : Hid (IsRow w a1 n1 c1 (ks.map (Value.int .i64)))) (r2 : Hid (IsRow w a2 n2 c2 (xs2.map (Value.float .f64)))) :
    Calls Try.prog 4 #[.slice a0 n0 c0, .slice a1 n1 c1, .int .i64 n, .slice a2 n2 c2, .int .i64 cols] w fun e w' => e = .returned (.bool true) ∧ Below w.heap.size w w' := by
  obtain ⟨i0, hi, hz0, hz1, hz2⟩ := info_parts info22
  have hsf := store_float
  obtain ⟨X0, hX0⟩ : ∃ X, X = xs0.take n0 := ⟨_, rfl⟩
  obtain ⟨K, hK⟩ : ∃ X, X = ks.take n1 := ⟨_, rfl⟩
  obtain ⟨X2, hX2⟩ : ∃ X, X = xs2.take n2 := ⟨_, rfl⟩
  have L0 : Hid (X0.length = n0) := (by have := row_len r0.out; simp [hX0] at this ⊢; omega : X0.length = n0)
  have L1 : Hid (K.length = n1) := (by have := row_len r1.out; simp [hK] at this ⊢; omega : K.length = n1)
  have L2 : Hid (X2.length = n2) := (by have := row_len r2.out; simp [hX2] at this ⊢; omega : X2.length = n2)
  have E0 : Hid (X0.map (Value.float .f64) = (xs0.map (Value.float .f64)).take n0) := (by rw [hX0, List.map_take] : X0.map (Value.float .f64) = (xs0.map (Value.float .f64)).take n0)
  have E1 : Hid (K.map (Value.int .i64) = (ks.map (Value.int .i64)).take n1) := (by rw [hK, List.map_take] : K.map (Value.int .i64) = (ks.map (Value.int .i64)).take n1)
  have E2 : Hid (X2.map (Value.float .f64) = (xs2.map (Value.float .f64)).take n2) := (by rw [hX2, List.map_take] : X2.map (Value.float .f64) = (xs2.map (Value.float .f64)).take n2)
  clear hX0 hK hX2
  go_enter Try.func4, Try.ntmps4
  go_wp2_with (go_at_call 8; refine (bytes8 _ _ _ _ _ _ _ _ _ _ _ hn0 h1 h2 _).mono ?_; rintro e w1 ⟨b, rfl, hw⟩; obtain rfl : w = w1 := hw.symm; clear hw)
  all_goals try (go_ret; exact ⟨rfl, Below.refl _ _⟩)
  all_goals (
    have HG : Hid (Passes n0 n1 n2 n cols) := (by first
      | exact good_pos (by omega) (by omega) (by omega) (by omega) (by assumption) (And.right (by assumption))
      | exact good_zero (by omega) (by omega) (by omega) (by omega) (by omega)
      | exact good_neg (by omega) (by omega) (by omega) (by omega) : Passes n0 n1 n2 n cols)
    refine (clone9 a0 n0 c0 _ _ _ r0.out (by omega) E0 (one_f X0)).mono ?_
    rintro e wA ⟨p0, rfl, hown0, hh0, hbA⟩
    obtain ⟨b0, hb0, rfl, hF0⟩ := fb_of_own hown0 (by have := L0.out; omega)
    have R1 : Hid (IsRow wA a1 n1 c1 (ks.map (Value.int .i64))) := r1.out.below hbA
    have HBA : Hid (Below w.heap.size w wA) := hbA
    have HFA : Hid (FB wA b0 X0 ∧ w.heap.size ≤ b0) := ⟨hF0, hb0⟩
    clear hbA hown0 hh0 hF0 hb0
    go_wp2_with (first
      | (go_at_call 10; refine (clone10 a1 n1 c1 _ _ _ R1.out (by omega) E1 (one_i K)).mono ?_; rintro e wB ⟨p1, rfl, hown1, hh1, hbB⟩; obtain ⟨b1, hb1, rfl, hF1⟩ := ib_of_own hown1 (by have := L1.out; omega); have HBB : Hid (Below w.heap.size w wB) := bel_trans HBA.out hbB; have R2 : Hid (IsRow wB a2 n2 c2 (xs2.map (Value.float .f64))) := r2.out.below HBB.out; have HFB : Hid (FB wB b0 X0 ∧ IB wB b1 K ∧ b0 < b1) := ⟨HFA.out.1.below hbB, hF1, Nat.lt_of_lt_of_le HFA.out.1.lt hb1⟩; clear hown1 hh1 hbB hb1 hF1)
      | (go_at_call 9; refine (clone9 a2 n2 c2 _ _ _ R2.out (by omega) E2 (one_f X2)).mono ?_; rintro e wC ⟨p2, rfl, hown2, hh2, hbC⟩; have HBC : Hid (Below w.heap.size w wC) := bel_trans HBB.out hbC; have HFC : Hid (FB wC b0 X0 ∧ IB wC b1 K ∧ Own wC wB.heap.size 22 p2 (X2.map (Value.float .f64)) ∧ b1 < wB.heap.size) := ⟨HFB.out.1.below hbC, HFB.out.2.1.below hbC, hown2, HFB.out.2.1.lt⟩; have HSZ : Hid (wB.heap.size ≤ wC.heap.size) := hbC.size; clear hown2 hh2 hbC)
      | (at_make; refine wpList_make_full _ rfl _ _ 26 rfl wC.heap.size 22 i0 (.float .f64 0) 1 Try.underlying26 hi hz0 hz1 .i64 .i64 _ _ n0 rfl rfl rfl rfl (by rw [hz2]; omega) (by unfold maxLen; omega) (Nat.le_refl _) ?_; intro wD hownD hgrowD; have hbD : Below wC.heap.size wC wD := (Below.refl _ _).grown hgrowD (Nat.le_refl _) (by simp); have HW : Hid (FB wD wC.heap.size (List.replicate n0 0)) := made_fb hownD; clear hownD hgrowD))
    have hbD' := hbD
    obtain ⟨Y0, Y1, Y2, Y3⟩ := HFC.out
    have HY : Hid (FB wD b0 X0 ∧ IB wD b1 K ∧ Own wD wB.heap.size 22 p2 (X2.map (Value.float .f64)) ∧ b0 < b1 ∧ b1 < wB.heap.size ∧ wB.heap.size ≤ wC.heap.size ∧ w.heap.size ≤ b0 ∧ Below w.heap.size w wD ∧ (0 < X2.length → ∀ cb, p2 = some ⟨cb, 0, none⟩ → cb < wC.heap.size)) := ⟨Y0.below hbD, Y1.below hbD, Y2.below hbD, HFB.out.2.2, Y3, HSZ.out, HFA.out.2, bel_trans HBC.out hbD, own_lt Y2⟩
    obtain ⟨wb, hwb⟩ : ∃ wb, wC.heap.size = wb := ⟨_, rfl⟩
    rw [hwb] at HW HY
    clear Y0 Y1 Y2 Y3 hbD hbD' HFA HFB HFC HBA HBB HBC R1 R2
    rw [hwb]
    clear hwb HSZ
    obtain ⟨N, hN⟩ : ∃ N, N = n.toNat := ⟨_, rfl⟩
    obtain ⟨cl, hcl⟩ : ∃ cl, cl = cols.toNat := ⟨_, rfl⟩
    go_loopw [12] (fun i wr => ∃ k : Nat, k ≤ n0 ∧ i = .int .i64 k ∧ ∃ ys, FB wr wb ys ∧ ys.length = n0 ∧ (∀ j, j < k → fnum (ys.getD j 0) = want X2 K cl N j) ∧ Oth wb wD wr) (fun i _ => n0 - (intOf i).toNat)
    case atStart => exact ⟨0, Nat.zero_le _, rfl, _, HW.out, by simp, fun j hj => by omega, Oth.refl _ _⟩
    case round =>
      obtain ⟨k, hk, rfl, ys, hF, hyl, hw0, hO⟩ := hrel
      have HF : Hid (FB wr wb ys) := hF
      have HY2 : Hid (ys.length = n0) := hyl
      have HW0 : Hid (∀ j, j < k → fnum (ys.getD j 0) = want X2 K cl N j) := hw0
      have HO : Hid (Oth wb wD wr) := hO
      by_cases hlt : k < n0
      · have hkk := (HY.out.2.1.oth hO (by have := HY.out; omega)).cell k (by have := L1.out; have := HG.out.2.2.1; omega)
        obtain ⟨kk, hkk'⟩ : ∃ kk, K.getD k 0 = kk := ⟨_, rfl⟩
        rw [hkk'] at hkk
        have HKK : Hid (K.getD k 0 = kk) := hkk'
        have hk1 : k < n1 := by have := HG.out.2.2.1; omega
        have hcw := hF.cell k (by omega)
        have hfw := hF.frozen k
        generalize ys.getD k 0 = y0 at hcw
        clear hF hyl hw0 hO hkk'
        go_wp2
        go_loopw [13, 14] (fun v13 v14 wx => ∃ i s nn : Nat, i ≤ N ∧ v14 = .int .i64 i ∧ v13 = .float .f64 s ∧ wx = wr.drewN nn ∧ fnum s = colSum (fun i => fnum (X2.getD (i * cl + k) 0)) i) (fun _ v14 _ => N - (intOf v14).toNat)
        case atStart => exact ⟨0, 0, 0, Nat.zero_le _, rfl, rfl, rfl, fnum0⟩
        case round =>
          obtain ⟨i, sm, nn, hiN, rfl, rfl, rfl, hsm⟩ := hrel
          have HSM : Hid (fnum sm = colSum (fun i => fnum (X2.getD (i * cl + k) 0)) i) := hsm
          clear hsm
          by_cases hil : i < N
          · have hin : (i : Int) < n := by omega
            obtain ⟨q1, q2, q3, q4⟩ := HG.out
            obtain ⟨q5, q6⟩ := q4 (by omega)
            have hc' : cols = (cl : Int) := by omega
            have hn' : n = (N : Int) := by omega
            have q7 : N * cl ≤ n2 := by rw [hc', hn', ← Int.natCast_mul] at q6; omega
            have q8 : (i + 1) * cl ≤ N * cl := Nat.mul_le_mul_right _ hil
            have q9 : (i + 1) * cl = i * cl + cl := by rw [Nat.add_mul, Nat.one_mul]
            obtain ⟨cb, hcb, hp2, hFc⟩ := fb_of_own HY.out.2.2.1 (by have := L2.out; omega)
            have hcw2 : cb ≠ wb := by have := HY.out.2.2.2.2.2.2.2.2 (by have := L2.out; omega) cb hp2; omega
            have hv := (hFc.oth HO.out hcw2).cell (i * cl + k) (by have := L2.out; omega)
            obtain ⟨lo, hlo⟩ : ∃ lo, i * cl = lo := ⟨_, rfl⟩
            have e1 : (i : Int) * cols = (lo : Int) := by rw [hc', ← Int.natCast_mul, hlo]
            have hlk : lo + k < n2 := by omega
            rw [hlo] at hv
            obtain ⟨v, hvv⟩ : ∃ v, X2.getD (lo + k) 0 = v := ⟨_, rfl⟩
            rw [hvv] at hv
            have HV : Hid (X2.getD (i * cl + k) 0 = v) := (by rw [hlo]; exact hvv : X2.getD (i * cl + k) 0 = v)
            have hn2 : n2 ≤ 131072 := by omega
            subst hp2
            clear q1 q2 q3 q4 q5 q6 q7 q8 q9 hFc hlo hvv hc' hn' hcb hcw2
            cases hq : fnum v with
            | none =>
              have eo := ord_none v v hq
              go_wp2
              go_roundw
              case rel => exact ⟨i + 1, sm, nn, by omega, by go_num, rfl, rfl, by rw [HSM.out]; simp only [colSum]; rw [HV.out, hq]; rfl⟩
              case measure => simp [intOf]; omega
            | some v' =>
              have eo := ord_self v
              rw [hq] at eo
              simp only [Option.map_some] at eo
              have HQ : Hid (fnum v = some v') := hq
              clear hq
              rcases float_case .add (.inl rfl) sm v with ⟨q, hop, hfq⟩ | ⟨hop, hfq⟩
              · have HFQ : Hid _ := hfq
                clear hfq
                go_wp2
                go_roundw
                case rel => exact ⟨i + 1, q, nn, by omega, by go_num, rfl, rfl, by rw [HFQ.out, HSM.out]; simp only [colSum]; rw [HV.out, HQ.out]; rfl⟩
                case measure => simp [intOf]; omega
              · have HFQ : Hid _ := hfq
                clear hfq
                go_wp2
                go_roundw
                case rel => exact ⟨i + 1, _, nn + 1, by omega, by go_num, rfl, rfl, by rw [nanOf_nan, HFQ.out, HSM.out]; simp only [colSum]; rw [HV.out, HQ.out]; rfl⟩
                case measure => simp [intOf]; omega
          · have hin : ¬ ((i : Int) < n) := by omega
            have eiN : i = N := by omega
            subst eiN
            have hk0 : k < 1048576 := by have := HG.out.1; omega
            rcases float_case .quo (.inr (.inr (.inr rfl))) sm (floatOfInt .f64 kk) with ⟨q, hop, hfq⟩ | ⟨hop, hfq⟩
            · have HFQ : Hid _ := hfq
              clear hfq
              go_wp2
              go_roundw
              case rel => exact ⟨k + 1, by omega, by go_num, _, (show FB (wr.drewN nn) wb ys from HF.out).set k q, by simp [HY2.out], put_want HW0.out HY2.out hlt (by unfold want; rw [HFQ.out, HSM.out, HKK.out]), (show Oth wb wD (wr.drewN nn) from HO.out).set _ _⟩
              case measure => simp [intOf]; omega
            · have HFQ : Hid _ := hfq
              clear hfq
              go_wp2
              go_roundw
              case rel => exact ⟨k + 1, by omega, by go_num, _, (show FB (wr.drewN nn) wb ys from HF.out).set k _, by simp [HY2.out], put_want HW0.out HY2.out hlt (by unfold want; rw [nanOf_nan, HFQ.out, HSM.out, HKK.out]), (show Oth wb wD (wr.drewN nn) from HO.out).set _ _⟩
              case measure => simp [intOf]; omega
      · have ekn : k = n0 := by omega
        subst ekn
        have Z11 : Hid (Calls Try.prog 11 #[.slice (some ⟨b0, 0, none⟩) k k, .slice (some ⟨b1, 0, none⟩) n1 n1, .int .i64 n, .pointer (some ⟨wr.heap.size, 0, none⟩)] (wr.alloc (.cells #[.int .i64 n, .int .i64 cols, .slice p2 n2 n2, .slice none 0 0, .slice none 0 0, .string ⟨#[]⟩, .slice none 0 0] 35)) fun e w' => e = .returned (.tuple #[]) ∧ ZZ w' wr b0 k X2 K cl N) :=
          zz_pos b0 b1 wb k n1 n2 wB.heap.size n cols X0 X2 ys K p2 wD wr hN hcl h0 L0.out L1.out L2.out HY.out.1 HY.out.2.1 HY.out.2.2.1 (by have := HY.out; omega) (by have := HY.out; omega) (by have := HY.out; omega) (by have := HY.out; omega) HY.out.2.2.2.2.2.2.2.2 HO.out HG.out
        clear hF hyl hw0 hO
        go_wp2_with (first
          | (go_at_call 11; refine Z11.out.mono ?_; rintro e wE ⟨rfl, zs, z1, z2, z3, z4⟩)
          | (go_at_call 12; refine (same12 b0 wb k zs ys _ z1 (HF.out.oth z4 (by have := HY.out; omega)) z2 HY2.out (by have := HG.out.1; omega) (fun j hj => (z3 j hj).trans (HW0.out j hj).symm)).mono ?_; rintro e wF ⟨rfl, hbF⟩))
        go_ret
        exact ⟨rfl, bel_trans (Oth.to (Oth.to HY.out.2.2.2.2.2.2.2.1 HO.out (by have := HY.out; omega)) z4 HY.out.2.2.2.2.2.2.1) hbF⟩)
end Go.Proofs.Qxb6605746a.B2
