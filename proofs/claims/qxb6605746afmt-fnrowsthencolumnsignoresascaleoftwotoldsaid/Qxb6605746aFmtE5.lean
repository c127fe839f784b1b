import Derived.Test.Qxb6605746aFmtE3
import Derived.Test.Qxb6605746aFmtE4
import Derived.Test.Qxb6605746aFmtE6
import Derived.Test.Qxb6605746aFmtA6
import Derived.Test.Qxb6605746aFmtE9
set_option linter.unusedVariables false
set_option linter.unusedSimpArgs false
namespace Go.Proofs.Qxb6605746aFmt.E5
open Go.RowKit Go.Extern.Stop Go.Stop Go.Extern Go.Proofs.Qxb6605746aFmt.P1 Go.Proofs.Qxb6605746aFmt.P3 Go.Proofs.Qxb6605746aFmt.P7 Go.Proofs.Qxb6605746aFmt.P8 Go.Proofs.Qxb6605746aFmt.A1 Go.Proofs.Qxb6605746aFmt.A2 Go.Proofs.Qxb6605746aFmt.A3 Go.Proofs.Qxb6605746aFmt.A4 Go.Proofs.Qxb6605746aFmt.A8 Go.Proofs.Qxb6605746aFmt.A9 Go.Proofs.Qxb6605746aFmt.B1 Go.Proofs.Qxb6605746aFmt.B3 Go.Proofs.Qxb6605746aFmt.B6 Go.Proofs.Qxb6605746aFmt.C2 Go.Proofs.Qxb6605746aFmt.C5 Go.Proofs.Qxb6605746aFmt.C6 Go.Proofs.Qxb6605746aFmt.E2 Go.Proofs.Qxb6605746aFmt.E3 Go.Proofs.Qxb6605746aFmt.E4

theorem row_cell {w : World} {a : Option Addr} {n c : Nat} {xs : List Nat} (h : IsRow w a n c (xs.map (Value.float .f64))) (k : Nat) (hk : k < n) : ∃ x, a = some x ∧ n ≤ c ∧ c ≤ maxLen ∧ k < xs.length ∧ w.cell? (x.add k) = some (.float .f64 (xs.getD k 0)) := by
  rcases h with ⟨_, h, _⟩ | ⟨x, h1, h2, h3, h4, h5⟩
  · omega
  · have hl : k < xs.length := by simp at h4; omega
    refine ⟨x, h1, h2, h3, hl, h5 k _ ?_⟩
    simp [List.getElem?_eq_getElem hl]

theorem cs_row {w : World} {p : Option Addr} {L cb : Nat} {xs : List Nat} (h : CS w p L cb xs) : IsRow w p L L (xs.map (Value.float .f64)) := by
  obtain ⟨h1, h2, h3⟩ := h
  rcases h3 with ⟨rfl, rfl⟩ | ⟨rfl, hF⟩
  · left
    have : xs = [] := List.eq_nil_of_length_eq_zero h1
    subst this
    exact ⟨rfl, rfl, rfl, rfl⟩
  · right
    refine ⟨_, rfl, Nat.le_refl _, by unfold maxLen; omega, by simp [h1], fun i v hi => ?_⟩
    have hl : i < xs.length := by
      rcases Nat.lt_or_ge i xs.length with h | h
      · exact h
      · rw [List.getElem?_eq_none (by simpa using h)] at hi; cases hi
    have e : (⟨cb, 0, none⟩ : Addr).add i = ⟨cb, i, none⟩ := by simp [Addr.add]; omega
    rw [e, hF.cell i hl]
    simp [List.getElem?_eq_getElem hl] at hi
    rw [← hi]
    simp [List.getElem?_eq_getElem hl]
theorem cs_of {w' : World} {p : Option Addr} {n b : Nat} {X : List Nat} (h : (p = none ∧ n = 0) ∨ (p = some ⟨b, 0, none⟩ ∧ w'.heap[b]? = some (.cells (X.map (Value.float .f64)).toArray 23 (0, 0)))) (hl : X.length = n) (hn : n ≤ 1048576) : CS w' p n b X := ⟨hl, hn, h⟩
theorem cs_below {w w' : World} {p : Option Addr} {n b : Nat} {X : List Nat} (h : CS w p n b X) (hb : Below w.heap.size w w') : CS w' p n b X := by
  obtain ⟨h1, h2, h3⟩ := h
  refine ⟨h1, h2, ?_⟩
  rcases h3 with h3 | ⟨h3, h4⟩
  · exact .inl h3
  · exact .inr ⟨h3, h4.below hb⟩
theorem cs_oth {s : Nat} {w w' : World} {p : Option Addr} {n b : Nat} {X : List Nat} (h : CS w p n b X) (ho : Oth s w w') (hs : b ≠ s) : CS w' p n b X := by
  obtain ⟨h1, h2, h3⟩ := h
  refine ⟨h1, h2, ?_⟩
  rcases h3 with h3 | ⟨h3, h4⟩
  · exact .inl h3
  · exact .inr ⟨h3, h4.oth ho hs⟩
theorem bel_trans {w wx wy : World} (h : Below w.heap.size w wx) (k : Below wx.heap.size wx wy) : Below w.heap.size w wy := h.trans (k.mono h.size)

set_option maxRecDepth 100000 in
set_option maxHeartbeats 4000000 in
theorem walk4 (F : Interp) (a0 : Option Addr) (n0 c0 : Nat) (r c : Int) (f : Nat) (xs : List Nat) (w : World) (hF : Hid (F.answers w.tape)) (r0 : Hid (IsRow w a0 n0 c0 (xs.map (Value.float .f64)))) (hx : Hid (∀ x ∈ xs, x < 2 ^ 64)) (hf : Hid (f < 2 ^ 64)) (hn0 : n0 < 9223372036854775808) :
    Calls Tryf.prog 4 #[.slice a0 n0 c0, .int .i64 r, .int .i64 c, .float .f64 f] w fun e w' => e = .returned (.bool true) ∧ Below w.heap.size w w' := by
  go_enter Tryf.func4, Tryf.ntmps4
  go_wp2_with (first
    | (go_at_call 17; refine (bytes17 _ _ _ _ _ _ hn0 _).mono ?_; rintro e w1 ⟨b, rfl, hw⟩; obtain rfl : w = w1 := hw.symm; clear hw))
  all_goals try (go_ret; exact ⟨rfl, Below.refl _ _⟩)
  refine (shape8 n0 r c (by omega) (by omega) (by omega) _).mono ?_
  rintro e w1 ⟨b, rfl, hb, hw⟩
  obtain rfl : w = w1 := hw.symm
  clear hw
  cases b with
  | false =>
    go_wp2_with (fail)
    go_ret
    exact ⟨rfl, Below.refl _ _⟩
  | true =>
    obtain ⟨hr0, hc0, hnrc⟩ := hb rfl
    obtain ⟨R, rfl⟩ : ∃ R : Nat, r = (R : Int) := ⟨r.toNat, by omega⟩
    obtain ⟨C, rfl⟩ : ∃ C : Nat, c = (C : Int) := ⟨c.toNat, by omega⟩
    have HL : Hid (R * C = n0 ∧ R ≤ 65536 ∧ C ≤ 65536 ∧ n0 ≤ 131072) := (by
      refine ⟨?_, by omega, by omega, by omega⟩
      rw [← Int.natCast_mul] at hnrc
      omega : R * C = n0 ∧ R ≤ 65536 ∧ C ≤ 65536 ∧ n0 ≤ 131072)
    have hn1 : n0 ≤ 131072 := HL.out.2.2.2
    clear hb hnrc
    go_wp2_with (fail)
    go_loopw [9] (fun v9 wx => ∃ k : Nat, k ≤ n0 ∧ v9 = .int .i64 k ∧ wx = w ∧ ∀ i, i < k → CellOk (xs.getD i 0)) (fun v9 _ => n0 - (intOf v9).toNat)
    case atStart => exact ⟨0, Nat.zero_le _, rfl, rfl, fun i hi => by omega⟩
    case round =>
      obtain ⟨k, hk, rfl, hwr, hall⟩ := hrel
      obtain rfl : w = wr := hwr.symm
      clear hwr
      have HALL : Hid (∀ i, i < k → CellOk (xs.getD i 0)) := hall
      clear hall
      by_cases hlt : k < n0
      · obtain ⟨x0, rfl, q1, q2, q3, q4⟩ := row_cell r0.out k hlt
        unfold maxLen at q2
        obtain ⟨x, hxx⟩ : ∃ x, xs.getD k 0 = x := ⟨_, rfl⟩
        rw [hxx] at q4
        have HX : Hid (xs.getD k 0 = x ∧ x < 2 ^ 64) := ⟨hxx, by rw [← hxx]; exact hx.out _ (by simp [List.getElem?_eq_getElem q3])⟩
        have STEP : Hid (CellOk x → ∀ i, i < k + 1 → CellOk (xs.getD i 0)) := (fun h i hi => by
          rcases Nat.lt_succ_iff_lt_or_eq.1 hi with h' | h'
          · exact HALL.out i h'
          · rw [h', HX.out.1]; exact h)
        clear hxx
        cases hq : fnum x with
        | none =>
          have eo := ord_none x x hq
          have HOK : Hid (CellOk x) := cell_nan hq
          go_wp2_with (fail)
          go_roundw
          case rel => exact ⟨k + 1, by omega, by go_num, by trivial, STEP.out HOK.out⟩
          case measure => simp [intOf]; omega
        | some x' =>
          have eo := ord_self x
          rw [hq] at eo
          simp only [Option.map_some] at eo
          obtain ⟨s, q, hxq, hqb⟩ := P6.word_of x HX.out.2 (by rw [hq]; simp)
          clear hq
          by_cases hq0 : q = 0
          · subst hq0
            have e0 := ord_zero s
            rw [← hxq] at e0
            have HOK : Hid (CellOk x) := (by rw [hxq]; exact cell_zero s : CellOk x)
            clear hxq
            go_wp2_with (fail)
            go_roundw
            case rel => exact ⟨k + 1, by omega, by go_num, by trivial, STEP.out HOK.out⟩
            case measure => simp [intOf]; omega
          · obtain ⟨u, hu⟩ : ∃ u, P2.W false q = u := ⟨_, rfl⟩
            have hfin : (∃ o1, FloatKind.f64.format.order u 3706462493325918208 = o1) ∧ (∃ o2, FloatKind.f64.format.order u 5507902344274116608 = o2) := ⟨⟨_, rfl⟩, ⟨_, rfl⟩⟩
            obtain ⟨⟨o1, ho1⟩, ⟨o2, ho2⟩⟩ := hfin
            have HOK : Hid (o1 ≠ some .lt → o2 ≠ some .gt → CellOk x) := (fun h1 h2 => by
              rw [hxq]
              refine cell_norm hqb hq0 ?_ ?_
              · rw [hu]; intro h; exact h1 (ho1.symm.trans h)
              · rw [hu]; intro h; exact h2 (ho2.symm.trans h))
            have key : (FloatKind.f64.format.order x 0 = some .gt ∧ x = u) ∨ (FloatKind.f64.format.order x 0 = some .lt ∧ Op.negFloat .f64 x = u) := by
              cases s with
              | false => exact .inl ⟨by rw [hxq]; exact ord_pos q hqb hq0, by rw [hxq, hu]⟩
              | true => exact .inr ⟨by rw [hxq]; exact ord_neg q hqb hq0, by rw [hxq, neg_W q hqb, hu]⟩
            clear hxq hu hqb hq0
            rcases key with ⟨e0, exu⟩ | ⟨e0, hneg⟩
            · subst exu
              rcases o1 with _ | (_ | _ | _)
              all_goals (rcases o2 with _ | (_ | _ | _))
              all_goals (go_wp2_with (fail))
              all_goals try (go_ret; exact ⟨rfl, Below.refl _ _⟩)
              all_goals (
                go_roundw
                case rel => exact ⟨k + 1, by omega, by go_num, by trivial, STEP.out (HOK.out (by simp) (by simp))⟩
                case measure => simp [intOf]; omega)
            · have hun : ∀ wx, (Op.unary .neg (.float .f64 x)).run Tryf.prog wx = .ok (.float .f64 u) wx := fun wx => by rw [← hneg]; rfl
              clear hneg
              rcases o1 with _ | (_ | _ | _)
              all_goals (rcases o2 with _ | (_ | _ | _))
              all_goals (go_wp2_with (fail))
              all_goals try (go_ret; exact ⟨rfl, Below.refl _ _⟩)
              all_goals (
                go_roundw
                case rel => exact ⟨k + 1, by omega, by go_num, by trivial, STEP.out (HOK.out (by simp) (by simp))⟩
                case measure => simp [intOf]; omega)
      · have ek : k = n0 := by omega
        have HOKS : Hid (∀ i, i < n0 → CellOk (xs.getD i 0)) := (fun i hi => HALL.out i (by omega))
        clear HALL
        obtain ⟨X, hX⟩ : ∃ X, X = xs.take n0 := ⟨_, rfl⟩
        have LX : Hid (X.length = n0 ∧ n0 ≤ xs.length) := (by
          have : n0 ≤ xs.length := by
            rcases r0.out with ⟨_, h, _⟩ | ⟨_, _, h1, _, h4, _⟩
            · omega
            · simp at h4; omega
          exact ⟨by rw [hX]; simp; omega, this⟩ : X.length = n0 ∧ n0 ≤ xs.length)
        have EX : Hid (X.map (Value.float .f64) = (xs.map (Value.float .f64)).take n0) := (by rw [hX, List.map_take] : X.map (Value.float .f64) = (xs.map (Value.float .f64)).take n0)
        have HXO : Hid (∀ i, i < n0 → CellOk (X.getD i 0)) := (fun i hi => by
          have : X.getD i 0 = xs.getD i 0 := by rw [hX]; simp [List.getD_eq_getElem?_getD, List.getElem?_take, hi]
          rw [this]; exact HOKS.out i hi)
        have one : Hid (∀ v ∈ X.map (Value.float .f64), v.oneCell' = true) := (fun v hv => by obtain ⟨x, _, rfl⟩ := List.mem_map.1 hv; rfl)
        clear HOKS hX ek
        go_wp2_with (fail)
        refine (clone9c a0 n0 c0 _ _ _ r0.out (by omega) EX one).mono ?_
        rintro e w1 ⟨p1, rfl, hp1, hb1⟩
        have HC1 : Hid (CS w1 p1 n0 w.heap.size X ∧ Below w.heap.size w w1) := ⟨cs_of hp1 LX.out.1 (by omega), hb1⟩
        obtain ⟨cb1, hcb1⟩ : ∃ cb1, w.heap.size = cb1 := ⟨_, rfl⟩
        rw [hcb1] at HC1
        have HCB1 : Hid (w.heap.size = cb1) := hcb1
        have C10 : Hid (Calls Tryf.prog 10 #[.slice p1 n0 n0, .int .i64 (R : Int), .int .i64 (C : Int)] w1 fun e w' => ∃ rn cn RN CN, e = .returned (.tuple #[.slice (some ⟨rn, 0, none⟩) R R, .slice (some ⟨cn, 0, none⟩) C C]) ∧ w1.heap.size ≤ rn ∧ rn < cn ∧ cn < w'.heap.size ∧ IB w' rn RN ∧ IB w' cn CN ∧ E1.RP R C (fun i j => fnum (X.getD (i * C + j) 0)) R 0 RN ∧ E1.CP C R 0 CN ∧ Below w1.heap.size w1 w') := E1.counts10 p1 n0 R C cb1 X w1 HC1.out.1 HL.out.2.1 HL.out.2.2.1 HL.out.1
        clear hp1 hb1 hcb1
        obtain ⟨i0, hi, hz0, hz1, hz2⟩ := info_parts info23
        go_wp2_with (first
          | (go_at_call 10; refine C10.out.mono ?_; rintro e w2 ⟨rn, cn, RN, CN, rfl, h1, h2, h3, h4, h5, h6, h7, h8⟩; have H2 : Hid (w1.heap.size ≤ rn ∧ rn < cn ∧ cn < w2.heap.size ∧ IB w2 rn RN ∧ IB w2 cn CN ∧ E1.RP R C (fun i j => fnum (X.getD (i * C + j) 0)) R 0 RN ∧ E1.CP C R 0 CN ∧ Below w1.heap.size w1 w2) := ⟨h1, h2, h3, h4, h5, h6, h7, h8⟩; clear h1 h2 h3 h4 h5 h6 h7 h8)
          | (go_at_call 9; refine (clone9c p1 n0 n0 _ _ _ (cs_row (cs_below HC1.out.1 H2.out.2.2.2.2.2.2.2)) (by omega) (show X.map (Value.float .f64) = (X.map (Value.float .f64)).take n0 by rw [List.take_of_length_le (by simp; have := LX.out.1; omega)]) one).mono ?_; rintro e w3 ⟨p2, rfl, hp2, hb3⟩; have H3 : Hid (CS w3 p2 n0 w2.heap.size X ∧ Below w2.heap.size w2 w3) := ⟨cs_of hp2 LX.out.1 (by omega), hb3⟩; clear hp2 hb3)
          | (at_make; refine wpList_make_full _ rfl _ _ 22 rfl w3.heap.size 23 i0 (.float .f64 0) 1 Tryf.underlying22 hi hz0 hz1 .i64 .i64 _ _ n0 rfl rfl rfl rfl (by rw [hz2]; omega) (by unfold maxLen; omega) (Nat.le_refl _) ?_; intro w4 hown4 hgrow4; have hb4 : Below w3.heap.size w3 w4 := (Below.refl _ _).grown hgrow4 (Nat.le_refl _) (by simp); have H4 : Hid (FB w4 w3.heap.size (List.replicate n0 0) ∧ Below w3.heap.size w3 w4) := ⟨E1.made_fb hown4, hb4⟩; clear hown4 hgrow4 hb4))
        obtain ⟨ob, hob⟩ : ∃ ob, w2.heap.size = ob := ⟨_, rfl⟩
        obtain ⟨tb, htb⟩ : ∃ tb, w3.heap.size = tb := ⟨_, rfl⟩
        have HS : Hid (CS w4 p1 n0 cb1 X ∧ CS w4 p2 n0 ob X ∧ IB w4 rn RN ∧ IB w4 cn CN ∧ FB w4 tb (List.replicate n0 0) ∧ Below w.heap.size w w4) := (by
          have b23 := bel_trans H3.out.2 H4.out.2
          have b14 := bel_trans H2.out.2.2.2.2.2.2.2 b23
          refine ⟨cs_below HC1.out.1 b14, ?_, H2.out.2.2.2.1.below b23, H2.out.2.2.2.2.1.below b23, ?_, bel_trans (show Below w.heap.size w w1 by rw [HCB1.out]; exact HC1.out.2) b14⟩
          · rw [← hob]; exact cs_below H3.out.1 H4.out.2
          · rw [← htb]; exact H4.out.1 : CS w4 p1 n0 cb1 X ∧ CS w4 p2 n0 ob X ∧ IB w4 rn RN ∧ IB w4 cn CN ∧ FB w4 tb (List.replicate n0 0) ∧ Below w.heap.size w w4)
        have HN : Hid (w.heap.size = cb1 ∧ cb1 ≤ rn ∧ (0 < n0 → cb1 < rn) ∧ rn < cn ∧ cn < ob ∧ ob ≤ tb ∧ (0 < n0 → ob < tb) ∧ tb < w4.heap.size ∧ (p2 ≠ none → ob < tb)) := (by
          have a1 := HC1.out.2.size
          have a2 := H3.out.2.size
          have a3 := H4.out.1.lt
          have a4 := H2.out
          have a5 : 0 < n0 → cb1 < w1.heap.size := fun h => by
            rcases HC1.out.1.2.2 with ⟨_, k⟩ | ⟨_, k⟩
            · omega
            · exact k.lt
          have a6 : p2 ≠ none → w2.heap.size < w3.heap.size := fun h => by
            rcases H3.out.1.2.2 with ⟨k, _⟩ | ⟨_, k⟩
            · exact absurd k h
            · exact k.lt
          have a7 : 0 < n0 → w2.heap.size < w3.heap.size := fun h => by
            rcases H3.out.1.2.2 with ⟨_, k⟩ | ⟨_, k⟩
            · omega
            · exact k.lt
          have a8 := HCB1.out
          refine ⟨a8, by omega, fun h => by have := a5 h; omega, a4.2.1, by omega, by omega, fun h => by have := a7 h; omega, by omega, fun h => by have := a6 h; omega⟩ : w.heap.size = cb1 ∧ cb1 ≤ rn ∧ (0 < n0 → cb1 < rn) ∧ rn < cn ∧ cn < ob ∧ ob ≤ tb ∧ (0 < n0 → ob < tb) ∧ tb < w4.heap.size ∧ (p2 ≠ none → ob < tb))
        have HRC : Hid (E1.RP R C (fun i j => fnum (X.getD (i * C + j) 0)) R 0 RN ∧ E1.CP C R 0 CN) := ⟨H2.out.2.2.2.2.2.1, H2.out.2.2.2.2.2.2.1⟩
        rw [htb]
        clear HC1 HCB1 C10 H2 H3 H4 hob htb
        have hsf := store_float
        go_loopw [15] (fun v15 wx => ∃ k : Nat, k ≤ n0 ∧ v15 = .int .i64 k ∧ ∃ ts, FB wx tb ts ∧ ts.length = n0 ∧ (∀ i, i < k → fnum (ts.getD i 0) = fop .mul (some P5.two) (fnum (X.getD i 0))) ∧ Oth tb w4 wx) (fun v15 _ => n0 - (intOf v15).toNat)
        case atStart => exact ⟨0, Nat.zero_le _, rfl, _, HS.out.2.2.2.2.1, by simp, fun i hi => by omega, Oth.refl _ _⟩
        case round =>
          obtain ⟨k2, hk2, rfl, ts, hF2, hl2, ht2, hO2⟩ := hrel
          have HT : Hid (FB wr tb ts ∧ ts.length = n0 ∧ (∀ i, i < k2 → fnum (ts.getD i 0) = fop .mul (some P5.two) (fnum (X.getD i 0))) ∧ Oth tb w4 wr) := ⟨hF2, hl2, ht2, hO2⟩
          by_cases hlt2 : k2 < n0
          · have hpF : p1 = some ⟨cb1, 0, none⟩ ∧ FB w4 cb1 X := by
              rcases HS.out.1.2.2 with ⟨_, k⟩ | k
              · omega
              · exact k
            obtain ⟨rfl, hFX⟩ := hpF
            have kx := (hFX.oth hO2 (by have := HN.out; omega)).cell k2 (by have := LX.out.1; omega)
            have kt := hF2.cell k2 (by omega)
            have kf := hF2.frozen k2
            obtain ⟨x, hxx⟩ : ∃ x, X.getD k2 0 = x := ⟨_, rfl⟩
            rw [hxx] at kx
            generalize ts.getD k2 0 = t0 at kt
            obtain ⟨z, w5, e5, f5, d5⟩ := fstep .mul (.inr (.inr (.inl rfl))) 4611686018427387904 x wr
            have HZ : Hid (fnum z = fop .mul (some P5.two) (fnum (X.getD k2 0)) ∧ Dr wr w5) := (⟨by rw [f5, hxx]; rfl, d5⟩ : fnum z = fop .mul (some P5.two) (fnum (X.getD k2 0)) ∧ Dr wr w5)
            have kt5 : w5.cell? ⟨tb, k2, none⟩ = some (.float .f64 t0) := by obtain ⟨nn, hnn⟩ := d5; rw [hnn]; exact kt
            have kf5 : w5.frozen? ⟨tb, k2, none⟩ = false := by obtain ⟨nn, hnn⟩ := d5; rw [hnn]; exact kf
            clear f5 d5 hxx hF2 hl2 ht2 hO2 hFX
            go_wp2_with (fail)
            go_roundw
            case rel => exact ⟨k2 + 1, by omega, by go_num, _, (fb_dr HT.out.1 HZ.out.2).set k2 z, by simp [HT.out.2.1], fun i hi => by rw [getD_set _ _ _ _ (by have := HT.out.2.1; omega)]; by_cases e : i = k2; rw [if_pos e, e]; exact HZ.out.1; rw [if_neg e]; exact HT.out.2.2.1 i (by omega), (HT.out.2.2.2.trans (dr_oth tb HZ.out.2)).set _ _⟩
            case measure => simp [intOf]; omega
          · have ek2 : k2 = n0 := by omega
            have HTT : Hid (∀ i, i < n0 → fnum (ts.getD i 0) = fop .mul (some P5.two) (fnum (X.getD i 0))) := (fun i hi => ht2 i (by omega))
            clear hF2 hl2 ht2 hO2 ek2
            go_wp2_with (fail)
            have hcb2 : ∃ cb2, CS wr p2 n0 cb2 X ∧ cb2 ≠ rn ∧ cb2 ≠ cn ∧ cb2 ≠ tb ∧ cb2 ≠ cb1 ∧ (cb2 < wr.heap.size ∨ wr.heap.size + 100 ≤ cb2) ∧ w.heap.size ≤ cb2 := by
              have hn := HN.out
              have hsz := HT.out.2.2.2.2.2.2.1
              rcases HS.out.2.1 with ⟨x1, x2, ⟨x3, x4⟩ | ⟨x3, x4⟩⟩
              · exact ⟨wr.heap.size + 100, ⟨x1, x2, .inl ⟨x3, x4⟩⟩, by omega, by omega, by omega, by omega, .inr (Nat.le_refl _), by omega⟩
              · have hlt3 := hn.2.2.2.2.2.2.2.2 (by rw [x3]; simp)
                exact ⟨ob, ⟨x1, x2, .inr ⟨x3, x4.oth HT.out.2.2.2 (by omega)⟩⟩, by omega, by omega, by omega, by omega, .inl (by omega), by omega⟩
            obtain ⟨cb2, hc1, hc2, hc3, hc4, hc5, hc6, hc7⟩ := hcb2
            have HCB : Hid (CS wr p2 n0 cb2 X ∧ cb2 ≠ rn ∧ cb2 ≠ cn ∧ cb2 ≠ tb ∧ cb2 ≠ cb1 ∧ w.heap.size ≤ cb2) := ⟨hc1, hc2, hc3, hc4, hc5, hc7⟩
            have hRN : ∀ i, i < R → 0 ≤ RN.getD i 0 ∧ RN.getD i 0 ≤ 65536 := fun i hi => by have := HRC.out.1.2.1 i hi; have := HL.out; omega
            have hCN : ∀ j, j < C → 0 ≤ CN.getD j 0 ∧ CN.getD j 0 ≤ 65536 := fun j hj => by have := HRC.out.2.2 j; have := this.2.2 (Nat.zero_le _); have := HL.out; omega
            have ntr : rn ≠ tb ∧ cn ≠ tb ∧ rn ≠ cn := by have := HN.out; omega
            have P1 : Hid (Pre18 F p2 n0 R C rn cn cb2 X RN CN wr) := ⟨by rw [HT.out.2.2.2.2.1, HS.out.2.2.2.2.2.tape]; exact hF.out, hc1, ⟨HS.out.2.2.1.oth HT.out.2.2.2 ntr.1, HRC.out.1.1⟩, ⟨HS.out.2.2.2.1.oth HT.out.2.2.2 ntr.2.1, HRC.out.2.1⟩, hRN, hCN, ntr.2.2, hc2, hc3, hc6⟩
            clear hc1 hc2 hc3 hc4 hc5 hc6 hc7
            refine (run18 F p2 n0 R C rn cn f cb2 X RN CN wr HL.out.2.1 HL.out.2.2.1 HL.out.1 P1).mono ?_
            rintro e w6 ⟨pp1, rfl, hP1⟩
            have HP1 : Hid (P18 wr w6 p2 n0 R C f cb2 X RN CN pp1) := hP1
            obtain ⟨f2, w7, e7, f7, d7⟩ := fstep' .mul (.inr (.inr (.inl rfl))) 4611686018427387904 f w6
            have HF7 : Hid (fnum f2 = fop .mul (some P5.two) (fnum f) ∧ Dr w6 w7) := (⟨by rw [f7.1]; rfl, d7⟩ : fnum f2 = fop .mul (some P5.two) (fnum f) ∧ Dr w6 w7)
            have O7 : Hid (Oth cb2 wr w7) := hP1.2.trans (dr_oth cb2 d7)
            have P2' : Hid (Pre18 F (some ⟨tb, 0, none⟩) n0 R C rn cn tb ts RN CN w7) := ⟨by rw [O7.out.2.1, HT.out.2.2.2.2.1, HS.out.2.2.2.2.2.tape]; exact hF.out, ⟨HT.out.2.1, by omega, .inr ⟨rfl, HT.out.1.oth O7.out (fun h => HCB.out.2.2.2.1 h.symm)⟩⟩, ⟨(HS.out.2.2.1.oth HT.out.2.2.2 ntr.1).oth O7.out (fun h => HCB.out.2.1 h.symm), HRC.out.1.1⟩, ⟨(HS.out.2.2.2.1.oth HT.out.2.2.2 ntr.2.1).oth O7.out (fun h => HCB.out.2.2.1 h.symm), HRC.out.2.1⟩, hRN, hCN, ntr.2.2, fun h => ntr.1 h.symm, fun h => ntr.2.1 h.symm, .inl (Nat.lt_of_lt_of_le HT.out.1.lt O7.out.2.2.2.1)⟩
            clear f7 d7 hP1
            go_wp2_with (fail)
            refine (run18 F (some ⟨tb, 0, none⟩) n0 R C rn cn f2 tb ts RN CN w7 HL.out.2.1 HL.out.2.2.1 HL.out.1 P2').mono ?_
            rintro e w8 ⟨pp2, rfl, hP2⟩
            have HP2 : Hid (P18 w7 w8 (some ⟨tb, 0, none⟩) n0 R C f2 tb ts RN CN pp2) := hP2
            clear hP2 ntr hRN hCN
            have REL : Hid (((rowsOk (XX ts C) (IN RN) R C (fnum f2) ∧ colsOk (XX ts C) (IN RN) (IN CN) R C) ↔ (rowsOk (XX X C) (IN RN) R C (fnum f) ∧ colsOk (XX X C) (IN RN) (IN CN) R C)) ∧
    (rowsOk (XX X C) (IN RN) R C (fnum f) → (∀ i, i < R → rsOf (XX ts C) (IN RN) C i = fop .mul (some P5.two) (rsOf (XX X C) (IN RN) C i)) ∧ (∀ j, j < C → csOf (XX ts C) (IN RN) (IN CN) R C j = csOf (XX X C) (IN RN) (IN CN) R C j) ∧
      ∀ i, i < R → ∀ j, j < C → outOf (XX ts C) (IN RN) (IN CN) R C i j = outOf (XX X C) (IN RN) (IN CN) R C i j)) := E6.rel_all HL.out.1 HL.out.2.2.1 HXO.out HTT.out HRC.out.1 hf.out HF7.out.1
            have HB8 : Hid (Below w.heap.size w w8) := Oth.to (Oth.to (Oth.to HS.out.2.2.2.2.2 HT.out.2.2.2 (by have := HN.out; omega)) O7.out HCB.out.2.2.2.2.2) HP2.out.2 (by have := HN.out; omega)
            rcases HP1.out.1 with ⟨hp1, g1, g2, zs1, RD1, CD1, y1, y2, y3, y4⟩ | ⟨⟨q1, hp1⟩, nb1, y1⟩
            · rcases HP2.out.1 with ⟨hp2, g1', g2', zs2, RD2, CD2, y1', y2', y3', y4'⟩ | ⟨_, nb2, _⟩
              · subst hp1
                subst hp2
                have C9 : Hid (FB w8 wr.heap.size RD1 ∧ RD1.length = R ∧ FB w8 w7.heap.size RD2 ∧ RD2.length = R) := ⟨(fb_dr y3.1 HF7.out.2).oth HP2.out.2 (by have := HN.out; have := HT.out.2.2.2.2.2.2.1; omega), y3.2.1, y3'.1, y3'.2.1⟩
                have HSD : Hid (∀ i, i < R → fnum (RD2.getD i 0) = fop .mul (some P5.two) (fnum (RD1.getD i 0))) := (fun i hi => by rw [y3'.2.2 i hi, (REL.out.2 g1).1 i hi, y3.2.2 i hi])
                have D9 : Hid (FB w8 (wr.heap.size + 1) CD1 ∧ CD1.length = C ∧ FB w8 (w7.heap.size + 1) CD2 ∧ CD2.length = C ∧ ∀ j, j < C → fnum (CD1.getD j 0) = fnum (CD2.getD j 0)) := ⟨(fb_dr y4.1 HF7.out.2).oth HP2.out.2 (by have := HN.out; have := HT.out.2.2.2.2.2.2.1; omega), y4.2.1, y4'.1, y4'.2.1, fun j hj => by rw [y4'.2.2 j hj, (REL.out.2 g1).2.1 j hj, y4.2.2 j hj]⟩
                have O9 : Hid (CS w8 p2 n0 cb2 zs1 ∧ FB w8 tb zs2 ∧ zs2.length = n0 ∧ ∀ k, k < n0 → fnum (zs1.getD k 0) = fnum (zs2.getD k 0)) := (by
                  refine ⟨cs_oth (cs_oth y1 (dr_oth tb HF7.out.2) HCB.out.2.2.2.1) HP2.out.2 HCB.out.2.2.2.1, ?_, y1'.1, E9.out_eq HL.out.1 y2 y2' (REL.out.2 g1).2.2⟩
                  rcases y1'.2.2 with ⟨k, _⟩ | ⟨_, k⟩
                  · cases k
                  · exact k : CS w8 p2 n0 cb2 zs1 ∧ FB w8 tb zs2 ∧ zs2.length = n0 ∧ ∀ k, k < n0 → fnum (zs1.getD k 0) = fnum (zs2.getD k 0))
                clear g1 g2 g1' g2' y1 y2 y3 y4 y1' y2' y3' y4' REL HP1 HP2 e7
                go_wp2_with (fail)
                refine E8.loop4 _ wr.heap.size w7.heap.size R RD1 RD2 _ _ _ _ _ _ _ _ _ _ _ _ _ _ _ _ _ _ _ _ _ _ _ _ _ _ _ _ _ _ _ _ _ _ _ _ _ _ _ _ _ _ _ _ _ _ _ _ _ _ _ _ _ _ _ _ _ _ _ _ _ _ _ _ _ _ _ _ _ _ _ _ _ _ _ _ _ _ _ _ _ _ _ _ _ _ _ _ _ _ _ _ _ _ _ _ _ _ _ _ _ _ _ _ _ _ _ _ _ _ _ _ _ _ _ _ _ _ _ _ _ _ _ _ _ _ _ _ _ _ _ _ _ _ _ _ _ _ _ _ _ _ _ _ _ _ _ _ _ _ _ _ _ _ _ _ _ _ _ _ _ _ _ _ _ _ _ _ _ _ _ _ _ _ _ _ _ _ _ _ _ _ _ _ _ _ _ _ _ _ _ _ _ _ _ _ _ _ w8 (by have := HL.out; omega) C9 HSD ?_
                intro v8 v178 v179 v180 v181 v182 v183 v184 v185 v186 v187 v188 v189 v190 v191 v192 v193 wx hdx
                have HDX : Hid (Dr w8 wx) := hdx
                clear hdx
                go_wp2_with (fail)
                refine (E9.same_cs (cs_below O9.out.1 HDX.out.below) (fb_dr O9.out.2.1 HDX.out) O9.out.2.2.1 O9.out.2.2.2).mono ?_
                rintro e w9 ⟨rfl, hb9⟩
                have HB9 : Hid (Below w8.heap.size w8 w9) := bel_trans HDX.out.below hb9
                clear hb9
                go_wp2_with (fail)
                refine (A6.same16 (wr.heap.size + 1) (w7.heap.size + 1) C CD1 CD2 w9 (D9.out.1.below HB9.out) (D9.out.2.2.1.below HB9.out) D9.out.2.1 D9.out.2.2.2.1 (by have := HL.out; omega) D9.out.2.2.2.2).mono ?_
                rintro e w10 ⟨rfl, hb10⟩
                have HB10 : Hid (Below w.heap.size w w10) := bel_trans (bel_trans HB8.out HB9.out) hb10
                clear hb10
                go_wp2_with (fail)
                go_ret
                exact ⟨rfl, HB10.out⟩
              · exact absurd (REL.out.1.2 ⟨g1, g2⟩) nb2
            · rcases HP2.out.1 with ⟨_, g1', g2', _⟩ | ⟨⟨q2, hp2⟩, nb2, y2⟩
              · exact absurd (REL.out.1.1 ⟨g1', g2'⟩) nb1
              · subst hp1
                subst hp2
                have C8 : Hid (CS w8 p2 n0 cb2 X ∧ CS w8 p1 n0 cb1 X ∧ FB w8 tb ts) := (by
                  refine ⟨cs_oth (cs_oth y1 (dr_oth tb HF7.out.2) HCB.out.2.2.2.1) HP2.out.2 HCB.out.2.2.2.1, cs_oth (cs_oth (cs_oth HS.out.1 HT.out.2.2.2 (by have := HN.out; omega)) O7.out (fun h => HCB.out.2.2.2.2.1 h.symm)) HP2.out.2 (by have := HN.out; omega), ?_⟩
                  rcases y2.2.2 with ⟨k, _⟩ | ⟨_, k⟩
                  · cases k
                  · exact k : CS w8 p2 n0 cb2 X ∧ CS w8 p1 n0 cb1 X ∧ FB w8 tb ts)
                have C9 : Hid (CS w8 p2 n0 cb2 X ∧ CS w8 p1 n0 cb1 X ∧ FB w8 tb ts ∧ ts.length = n0) := ⟨C8.out.1, C8.out.2.1, C8.out.2.2, HT.out.2.1⟩
                clear nb1 nb2 y1 y2 REL HP1 HP2 e7 C8
                go_wp2_with (fail)
                refine E8.loop3 _ p1 p2 cb1 cb2 tb n0 X ts _ _ _ _ _ _ _ _ _ _ _ _ _ _ _ _ _ _ _ _ _ _ _ _ _ _ _ _ _ _ _ _ _ _ _ _ _ _ _ _ _ _ _ _ _ _ _ _ _ _ _ _ _ _ _ _ _ _ _ _ _ _ _ _ _ _ _ _ _ _ _ _ _ _ _ _ _ _ _ _ _ _ _ _ _ _ _ _ _ _ _ _ _ _ _ _ _ _ _ _ _ _ _ _ _ _ _ _ _ _ _ _ _ _ _ _ _ _ _ _ _ _ _ _ _ _ _ _ _ _ _ _ _ _ _ _ _ _ _ _ _ _ _ _ _ _ _ _ _ _ _ _ _ _ _ _ _ _ _ _ _ _ _ _ _ _ _ _ _ _ _ _ _ _ _ _ _ _ _ _ _ _ _ _ _ _ _ _ _ _ _ _ _ _ _ _ _ _ w8 hn1 C9 HTT ?_
                intro v8 v149 v150 v151 v152 v153 v154 v155 v156 v157 v158 v159 v160 v161 v162 v163 v164 v165 v166 v167 v168 v169 v170 v171 v172 v173 v174 v175 v176 v177 wx hdx
                have HBX : Hid (Below w.heap.size w wx) := bel_trans HB8.out hdx.below
                clear hdx
                go_wp2_with (fail)
                go_ret
                exact ⟨rfl, HBX.out⟩
end Go.Proofs.Qxb6605746aFmt.E5
