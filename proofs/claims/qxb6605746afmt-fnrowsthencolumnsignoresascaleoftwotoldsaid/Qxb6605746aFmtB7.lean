import Derived.Test.Qxb6605746aFmtB6
set_option linter.unusedVariables false
set_option linter.unusedSimpArgs false
namespace Go.Proofs.Qxb6605746aFmt.B7
open Go.RowKit Go.Extern.Stop Go.Stop Go.Extern Go.Proofs.Qxb6605746aFmt.P1 Go.Proofs.Qxb6605746aFmt.P3 Go.Proofs.Qxb6605746aFmt.P7 Go.Proofs.Qxb6605746aFmt.A1 Go.Proofs.Qxb6605746aFmt.A2 Go.Proofs.Qxb6605746aFmt.A3 Go.Proofs.Qxb6605746aFmt.A4 Go.Proofs.Qxb6605746aFmt.A5 Go.Proofs.Qxb6605746aFmt.A6 Go.Proofs.Qxb6605746aFmt.A7 Go.Proofs.Qxb6605746aFmt.A8 Go.Proofs.Qxb6605746aFmt.A9 Go.Proofs.Qxb6605746aFmt.B1 Go.Proofs.Qxb6605746aFmt.B3 Go.Proofs.Qxb6605746aFmt.B4 Go.Proofs.Qxb6605746aFmt.B6

theorem FB2 {s t : Nat} {w w' : World} {b : Nat} {zs : List Nat} (h : FB w b zs) (ho : Oth2 s t w w') (hs : b ≠ s) (ht : b ≠ t) : FB w' b zs := (ho.2.2.2.2 b h.lt hs ht).trans h
theorem IB2 {s t : Nat} {w w' : World} {b : Nat} {zs : List Int} (h : IB w b zs) (ho : Oth2 s t w w') (hs : b ≠ s) (ht : b ≠ t) : IB w' b zs := (ho.2.2.2.2 b h.lt hs ht).trans h

def Want (xs RM RD CM : List Nat) (CN : List Int) (C R j : Nat) : Option Nat := fsqrt (fop .quo (fsqs (fun i => Y xs RM RD C i j) (fun _ => fnum (CM.getD j 0)) R) (fcnt (CN.getD j 0)))

set_option maxRecDepth 100000 in
set_option maxHeartbeats 1000000 in
theorem sds52 (A T rn cn rm rs cm cs cu bf R C rf cf cb L : Nat) (p : Option Addr) (xs RM RD CM S0 B0 : List Nat) (CN : List Int) (w : World) (h0 : 0 < C) (hR : R ≤ 65536) (hC : C ≤ 65536) (hL : R * C ≤ L)
    (hX : Hid (Ctx w A T rn cn rm rs cm cs cu bf R C rf cf cb L p xs RM RD)) (hM : FB w cm CM) (hMl : CM.length = C) (hK : IB w cn CN) (hKl : CN.length = C) (hS : FB w cs S0) (hSl : S0.length = C) (hB : FB w bf B0) (hBl : B0.length = C) (hd : Hid (Apart A T rn cn rm rs cm cs cu bf cb)) :
    Calls Tryf.prog 52 #[.slice (some ⟨cs, 0, none⟩) C C, .slice (some ⟨cm, 0, none⟩) C C, .slice (some ⟨cn, 0, none⟩) C C, .int .i64 (R : Int), .func (.func 37) #[.pointer (some ⟨A, 0, none⟩)] #[]] w fun e w' =>
      e = .returned (.tuple #[]) ∧ ∃ zs, FB w' cs zs ∧ zs.length = C ∧ (∀ j, j < C → fnum (zs.getD j 0) = Want xs RM RD CM CN C R j) ∧ Oth2 cs bf w w' ∧ ∃ ys, FB w' bf ys ∧ ys.length = C := by
  have hclr := fun ty => Lib.run_clear_slice (P := Tryf.prog) w 22 23 ty (.float .f64 0) Tryf.underlying22 zero23 rfl rfl cs 0 C C h0 (fun j hj => by rw [Nat.zero_add, hS.cell j (by omega)]; rfl) (fun j hj => by rw [Nat.zero_add]; exact hS.frozen j)
  have hsf := store_float
  have HM : Hid (FB w cm CM) := hM
  have HK : Hid (IB w cn CN) := hK
  have HB : Hid (FB w bf B0) := hB
  obtain ⟨z1, hz1, hz2, hz3, _⟩ := set_zeros cs C 0 w S0 hS (by omega)
  have hS0 : SqAll C 0 (Y xs RM RD C) (fun j => fnum (CM.getD j 0)) z1 := ⟨by omega, fun j hj => by rw [hz3 j (by omega) (by omega), fnum0]; rfl⟩
  have hO0 : Oth cs w (w.setCells cs 0 (List.replicate C (.float .f64 0))) := oth_zeros cs _ C 0 w w (Oth.refl _ _)
  have HZ : Hid (FB (w.setCells cs 0 (List.replicate C (.float .f64 0))) cs z1 ∧ Oth cs w (w.setCells cs 0 (List.replicate C (.float .f64 0)))) := ⟨hz1, hO0⟩
  have HS0 : Hid (SqAll C 0 (Y xs RM RD C) (fun j => fnum (CM.getD j 0)) z1) := hS0
  clear hz1 hz2 hz3 hS0 hO0 hM hK hB hS
  go_enter Tryf.func52, Tryf.ntmps52
  go_wp2
  refine wp_gen (fun W => Oth cs w W ∧ FB W cs z1) ⟨HZ.out.2, HZ.out.1⟩ ?_
  intro W hW
  have HW : Hid (Oth cs w W ∧ FB W cs z1) := hW
  clear hW hclr HZ
  go_loopw [21] (fun v21 wx => ∃ i : Nat, i ≤ R ∧ v21 = .int .i64 i ∧ ∃ zs bs, FB wx cs zs ∧ SqAll C i (Y xs RM RD C) (fun j => fnum (CM.getD j 0)) zs ∧ FB wx bf bs ∧ bs.length = C ∧ Oth2 cs bf w wx) (fun v21 _ => R - (intOf v21).toNat)
  case atStart => exact ⟨0, Nat.zero_le _, rfl, z1, B0, HW.out.2, HS0.out, HB.out.oth HW.out.1 (apart_ne hd.out 9 7 (by decide)), hBl, oth_l HW.out.1⟩
  case round =>
    clear HW HS0
    obtain ⟨i, hi, rfl, zs, bs, hF, hS, hFb, hbl, hO⟩ := hrel
    have HF : Hid (FB wr cs zs) := hF
    have HS : Hid (SqAll C i (Y xs RM RD C) (fun j => fnum (CM.getD j 0)) zs) := hS
    have HO : Hid (Oth2 cs bf w wr) := hO
    by_cases hlt : i < R
    · have hiC : (i + 1) * C ≤ L := Nat.le_trans (Nat.mul_le_mul_right _ hlt) hL
      have hX1 : Ctx wr A T rn cn rm rs cm cs cu bf R C rf cf cb L p xs RM RD := hX.out.step (fun k hk hh => hO.2.2.2.2 k hk (by rcases hh with rfl | rfl | rfl | rfl | rfl; exact (apart_ne hd.out 0 7 (by decide)); exact (apart_ne hd.out 1 7 (by decide)); exact (apart_ne hd.out 10 7 (by decide)); exact (apart_ne hd.out 4 7 (by decide)); exact (apart_ne hd.out 5 7 (by decide))) (by rcases hh with rfl | rfl | rfl | rfl | rfl; exact (apart_ne hd.out 0 9 (by decide)); exact (apart_ne hd.out 1 9 (by decide)); exact (apart_ne hd.out 10 9 (by decide)); exact (apart_ne hd.out 4 9 (by decide)); exact (apart_ne hd.out 5 9 (by decide))))
      have R37 : Hid (Calls Tryf.prog 37 #[.pointer (some ⟨A, 0, none⟩), .int .i64 (i : Int)] wr fun e w' => ∃ q ys, e = .returned (.slice q C C) ∧ RS w' q C C bf 0 ys ∧ FB w' bf ys ∧ Scl C C (cellsOf xs (i * C)) (fnum (RM.getD i 0)) (fnum (RD.getD i 0)) ys ∧ Oth bf wr w') := srow37 A T rn cn rm rs cm cs cu bf R C rf cf i cb L R p xs RM RD bs wr hX1.1 hX1.2.1 hX1.2.2.1 hiC hlt (by omega) hX1.2.2.2.1.1 hX1.2.2.2.1.2 hX1.2.2.2.2.1 hX1.2.2.2.2.2 hFb hbl (apart_ne hd.out 0 9 (by decide)) (apart_ne hd.out 1 9 (by decide)) (apart_ne hd.out 10 9 (by decide))
      have HOld : Hid (zs.length = C) := hS.1
      clear hX1 hiC hF hS hFb hO hbl
      go_wp2_with (go_at_call 37; refine R37.out.mono ?_; rintro e w1 ⟨q, ys, rfl, hq, hFy, hSc, hO1⟩; obtain ⟨rfl, _, _⟩ := hq.2.2 h0; have HFy : Hid (FB w1 bf ys) := hFy; have HSc : Hid (Scl C C (cellsOf xs (i * C)) (fnum (RM.getD i 0)) (fnum (RD.getD i 0)) ys) := hSc; have HO1 : Hid (Oth bf wr w1) := hO1; clear hq hFy hSc hO1)
      have HF1 : Hid (FB w1 cs zs) := HF.out.oth HO1.out (apart_ne hd.out 7 9 (by decide))
      have HO2 : Hid (Oth2 cs bf w w1) := HO.out.trans (oth_r HO1.out)
      clear R37
      go_loopw [31] (fun v31 wx => ∃ k : Nat, k ≤ C ∧ v31 = .int .i64 k ∧ ∃ us, FB wx cs us ∧ Sq C k (Y xs RM RD C i) (fun j => fnum (CM.getD j 0)) zs us ∧ Oth cs w1 wx) (fun v31 _ => C - (intOf v31).toNat)
      case atStart => exact ⟨0, Nat.zero_le _, rfl, zs, HF1.out, ⟨HOld.out, fun j hj => by omega, fun _ _ => rfl⟩, Oth.refl _ _⟩
      case round =>
        obtain ⟨k, hk, rfl, us, hFu, hSu, hOu⟩ := hrel
        have HFu : Hid (FB wr cs us) := hFu
        have HSu : Hid (Sq C k (Y xs RM RD C i) (fun j => fnum (CM.getD j 0)) zs us) := hSu
        have HOu : Hid (Oth cs w1 wr) := hOu
        by_cases hkC : k < C
        · have hul := hSu.1
          have hyl := HSc.out.1
          have ky := (HFy.out.oth hOu (apart_ne hd.out 9 7 (by decide))).cell k (by omega)
          have km := ((FB2 HM.out HO2.out (apart_ne hd.out 6 7 (by decide)) (apart_ne hd.out 6 9 (by decide))).oth hOu (apart_ne hd.out 6 7 (by decide))).cell k (by omega)
          have ku := hFu.cell k (by omega)
          have kf := hFu.frozen k
          obtain ⟨y, hy⟩ : ∃ v, ys.getD k 0 = v := ⟨_, rfl⟩
          obtain ⟨mv, hm⟩ : ∃ v, CM.getD k 0 = v := ⟨_, rfl⟩
          obtain ⟨uv, hu⟩ : ∃ v, us.getD k 0 = v := ⟨_, rfl⟩
          rw [hy] at ky
          rw [hm] at km
          rw [hu] at ku
          have HY : Hid (Y xs RM RD C i k = fnum y) := (by have := HSc.out.2 k hkC; rw [hy] at this; rw [this]; rfl : Y xs RM RD C i k = fnum y)
          have HMV : Hid (CM.getD k 0 = mv) := hm
          have HUV : Hid (us.getD k 0 = uv) := hu
          clear hy hm hu hFu hSu hOu
          cases hx : fnum y with
          | none =>
            have eo := ord_none y y hx
            have HYN : Hid (Y xs RM RD C i k = none) := (by rw [HY.out]; exact hx : Y xs RM RD C i k = none)
            go_wp2
            go_roundw
            case rel => exact ⟨k + 1, by omega, by go_num, us, HFu.out, HSu.out.skip HYN.out, HOu.out⟩
            case measure => simp [intOf]; omega
          | some y' =>
            have eo := ord_self y
            rw [hx] at eo
            simp only [Option.map_some] at eo
            obtain ⟨d, w3, e3, f3, d3⟩ := fstep .sub (.inr (.inl rfl)) y mv wr
            obtain ⟨y2, w4, e4, f4, d4⟩ := fstep .mul (.inr (.inr (.inl rfl))) d d w3
            obtain ⟨z2, w5, e5, f5, d5⟩ := fstep .add (.inl rfl) uv y2 w4
            have HZ2 : Hid (fnum z2 = fsqo (fnum (us.getD k 0)) (Y xs RM RD C i k) (fnum (CM.getD k 0))) := (by rw [f5, f4, f3, HUV.out, HY.out, HMV.out, hx]; rfl : fnum z2 = fsqo (fnum (us.getD k 0)) (Y xs RM RD C i k) (fnum (CM.getD k 0)))
            have HD5 : Hid (Dr wr w5) := (d3.trans d4).trans d5
            have ku3 : w3.cell? ⟨cs, k, none⟩ = some (.float .f64 uv) := by obtain ⟨nn, hnn⟩ := d3; rw [hnn]; exact ku
            have ku5 : w5.cell? ⟨cs, k, none⟩ = some (.float .f64 uv) := by obtain ⟨nn, hnn⟩ := HD5.out; rw [hnn]; exact ku
            have kf5 : w5.frozen? ⟨cs, k, none⟩ = false := by obtain ⟨nn, hnn⟩ := HD5.out; rw [hnn]; exact kf
            clear hx f3 f4 f5 d3 d4 d5
            go_wp2
            go_roundw
            case rel => exact ⟨k + 1, by omega, by go_num, _, (fb_dr HFu.out HD5.out).set k z2, HSu.out.put hkC HZ2.out, (HOu.out.trans (dr_oth cs HD5.out)).set _ _⟩
            case measure => simp [intOf]; omega
        · have ek : k = C := by omega
          have HSu' : Hid (Sq C C (Y xs RM RD C i) (fun j => fnum (CM.getD j 0)) zs us) := (by have := HSu.out; rw [ek] at this; exact this : Sq C C (Y xs RM RD C i) (fun j => fnum (CM.getD j 0)) zs us)
          clear hFu hSu hOu ek
          go_wp2
          go_roundw
          case rel => exact ⟨i + 1, by omega, by go_num, us, ys, HFu.out, HS.out.step HSu'.out, HFy.out.oth HOu.out (apart_ne hd.out 9 7 (by decide)), HSc.out.1, HO2.out.trans (oth_l HOu.out)⟩
          case measure => simp [intOf]; omega
    · have eiR : i = R := by omega
      have HSR : Hid (SqAll C R (Y xs RM RD C) (fun j => fnum (CM.getD j 0)) zs) := (by rw [← eiR]; exact hS : SqAll C R (Y xs RM RD C) (fun j => fnum (CM.getD j 0)) zs)
      have HFb : Hid (FB wr bf bs ∧ bs.length = C) := ⟨hFb, hbl⟩
      have HOq : Hid (Oth2 cs bf w wr) := hO
      clear hF hS hFb hO hbl eiR
      go_wp2
      go_loopw [58] (fun v58 wx => ∃ k : Nat, k ≤ C ∧ v58 = .int .i64 k ∧ ∃ us, FB wx cs us ∧ Rt C k CN zs us ∧ Oth cs wr wx) (fun v58 _ => C - (intOf v58).toNat)
      case atStart => exact ⟨0, Nat.zero_le _, rfl, zs, HF.out, ⟨HSR.out.1, fun j hj => by omega, fun _ _ => rfl⟩, Oth.refl _ _⟩
      case round =>
        obtain ⟨k, hk, rfl, us, hFu, hSu, hOu⟩ := hrel
        have HFu : Hid (FB wr cs us) := hFu
        have HSu : Hid (Rt C k CN zs us) := hSu
        have HOu : Hid (Oth cs _ wr) := hOu
        by_cases hkC : k < C
        · have hul := hSu.1
          have kn := ((IB2 HK.out HOq.out (apart_ne hd.out 3 7 (by decide)) (apart_ne hd.out 3 9 (by decide))).oth hOu (apart_ne hd.out 3 7 (by decide))).cell k (by omega)
          have ku := hFu.cell k (by omega)
          have kf := hFu.frozen k
          obtain ⟨kv, hkv⟩ : ∃ v, CN.getD k 0 = v := ⟨_, rfl⟩
          obtain ⟨uv, hu⟩ : ∃ v, us.getD k 0 = v := ⟨_, rfl⟩
          rw [hkv] at kn
          rw [hu] at ku
          obtain ⟨nf, hnf⟩ : ∃ nf, floatOfInt .f64 kv = nf := ⟨_, rfl⟩
          have HN : Hid (fcnt (CN.getD k 0) = fnum nf) := (by rw [hkv]; unfold fcnt; rw [hnf] : fcnt (CN.getD k 0) = fnum nf)
          have HUV : Hid (us.getD k 0 = uv) := hu
          clear hkv hu hFu hSu hOu
          rcases float_case .quo (.inr (.inr (.inr rfl))) uv nf with ⟨q, hop, hfq⟩ | ⟨hop, hfq⟩
          · have HFQ : Hid (fnum q = fop .quo (fnum uv) (fnum nf)) := hfq
            clear hfq
            go_wp2
            go_region_with (go_at_call 25; refine (sqrt25 q _).mono ?_; rintro e w2 ⟨r, rfl, hr, hd2⟩; have HD2 : Hid (Dr wr w2) := Dr.trans ⟨_, rfl⟩ hd2; have ku2 : w2.cell? ⟨cs, k, none⟩ = some (.float .f64 uv) := (by obtain ⟨nn, hnn⟩ := HD2.out; rw [hnn]; exact ku); have kf2 : w2.frozen? ⟨cs, k, none⟩ = false := (by obtain ⟨nn, hnn⟩ := HD2.out; rw [hnn]; exact kf))
            all_goals (
              go_wp2
              go_roundw
              case rel => exact ⟨k + 1, by omega, by go_num, _, (fb_dr HFu.out HD2.out).set k r, HSu.out.put hkC (by rw [hr.1, HFQ.out, HUV.out, HN.out]), (HOu.out.trans (dr_oth cs HD2.out)).set _ _⟩
              case measure => simp [intOf]; omega)
          · have HFQ : Hid (none = fop .quo (fnum uv) (fnum nf)) := hfq
            clear hfq
            go_wp2
            go_region_with (go_at_call 25; refine (sqrt25 _ _).mono ?_; rintro e w2 ⟨r, rfl, hr, hd2⟩; have HD2 : Hid (Dr wr w2) := Dr.trans ⟨2, rfl⟩ hd2; have ku2 : w2.cell? ⟨cs, k, none⟩ = some (.float .f64 uv) := (by obtain ⟨nn, hnn⟩ := HD2.out; rw [hnn]; exact ku); have kf2 : w2.frozen? ⟨cs, k, none⟩ = false := (by obtain ⟨nn, hnn⟩ := HD2.out; rw [hnn]; exact kf))
            all_goals (
              go_wp2
              go_roundw
              case rel => exact ⟨k + 1, by omega, by go_num, _, (fb_dr HFu.out HD2.out).set k r, HSu.out.put hkC (by rw [hr.1, nanOf_nan, HUV.out, HN.out, ← HFQ.out]), (HOu.out.trans (dr_oth cs HD2.out)).set _ _⟩
              case measure => simp [intOf]; omega)
        · have ek : k = C := by omega
          have HSu' : Hid (Rt C C CN zs us) := (by have := HSu.out; rw [ek] at this; exact this : Rt C C CN zs us)
          clear hFu hSu hOu ek
          go_wp2
          go_end0
          refine ⟨rfl, us, HFu.out, HSu'.out.1, fun j hj => ?_, HOq.out.trans (oth_l HOu.out), bs, HFb.out.1.oth HOu.out (apart_ne hd.out 9 7 (by decide)), HFb.out.2⟩
          rw [HSu'.out.2.1 j hj, HSR.out.2 j hj]
          rfl
end Go.Proofs.Qxb6605746aFmt.B7
