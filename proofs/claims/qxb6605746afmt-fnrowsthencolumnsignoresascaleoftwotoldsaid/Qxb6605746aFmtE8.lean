import Derived.Test.Qxb6605746aFmtE7
import Derived.Test.Qxb6605746aFmtB3
set_option linter.unusedVariables false
set_option linter.unusedSimpArgs false
namespace Go.Proofs.Qxb6605746aFmt.E8
open Go.RowKit Go.Proofs.Qxb6605746aFmt.P1 Go.Proofs.Qxb6605746aFmt.P3 Go.Proofs.Qxb6605746aFmt.P7 Go.Proofs.Qxb6605746aFmt.A1 Go.Proofs.Qxb6605746aFmt.A2 Go.Proofs.Qxb6605746aFmt.A3 Go.Proofs.Qxb6605746aFmt.A4 Go.Proofs.Qxb6605746aFmt.A5 Go.Proofs.Qxb6605746aFmt.A6 Go.Proofs.Qxb6605746aFmt.A8 Go.Proofs.Qxb6605746aFmt.B3 Go.Proofs.Qxb6605746aFmt.E7

/-- The loop of a code that holds the region with this number. -/
def lop (n : Nat) : Code → Option Code
  | .loop c => if (reg n c).isSome then some (.loop c) else none
  | .seq a b => match lop n a with
    | some c => some c
    | none => lop n b
  | .block _ c => lop n c
  | .scope c => lop n c
  | .cond _ a b => match lop n a with
    | some c => some c
    | none => lop n b
  | _ => none
noncomputable def loop3c : Code := ((Tryf.f4.body.bind (lop 36)).getD .skip)
noncomputable def loop4c : Code := ((Tryf.f4.body.bind (lop 42)).getD .skip)


set_option maxRecDepth 100000 in
set_option maxHeartbeats 1000000 in
theorem loop3 (Q : Exit → Act → World → Prop) (p1 p2 : Option Addr) (cb1 cb2 tb n0 : Nat) (X ts : List Nat) (u1 u2 u3 u4 u5 u6 u7 u8 u9 u10 u11 u12 u15 u16 u17 u18 u19 u20 u21 u23 u24 u25 u26 u27 u28 u29 u30 u31 u32 u33 u34 u35 u36 u37 u38 u39 u40 u41 u42 u43 u44 u45 u46 u47 u48 u49 u50 u51 u52 u53 u54 u55 u56 u57 u58 u59 u60 u61 u62 u63 u64 u65 u66 u67 u68 u69 u70 u71 u72 u73 u74 u75 u76 u77 u78 u79 u80 u81 u82 u83 u84 u85 u86 u87 u88 u89 u90 u91 u92 u93 u94 u95 u96 u97 u98 u99 u100 u101 u102 u103 u104 u105 u106 u107 u108 u109 u110 u111 u112 u113 u114 u115 u116 u117 u118 u119 u120 u121 u122 u123 u124 u125 u126 u127 u128 u129 u130 u131 u132 u133 u134 u135 u136 u137 u138 u139 u140 u141 u142 u143 u144 u145 u146 u147 u148 u149 u150 u151 u152 u153 u154 u155 u156 u157 u158 u159 u160 u161 u162 u163 u164 u165 u166 u167 u168 u169 u170 u171 u172 u173 u174 u175 u176 u177 u178 u179 u180 u181 u182 u183 u184 u185 u186 u187 u188 u189 u190 u191 u192 u193 u194 u195 u196 u197 u198 u199 u200 u201 : Value) (w : World) (hn : n0 ≤ 131072)
    (C8 : Hid (CS w p2 n0 cb2 X ∧ CS w p1 n0 cb1 X ∧ FB w tb ts ∧ ts.length = n0))
    (HTT : Hid (∀ i, i < n0 → fnum (ts.getD i 0) = fop .mul (some P5.two) (fnum (X.getD i 0))))
    (hexit : ∀ (v8 v149 v150 v151 v152 v153 v154 v155 v156 v157 v158 v159 v160 v161 v162 v163 v164 v165 v166 v167 v168 v169 v170 v171 v172 v173 v174 v175 v176 v177 : Value) (wx : World), Dr w wx → Q (.exit 4) ⟨#[.slice p1 n0 n0, u1, u2, u3, u4, u5, u6, u7, v8, u9, u10, u11, u12, .slice p2 n0 n0, .slice (some ⟨tb, 0, none⟩) n0 n0, u15, u16, u17, u18, u19, u20, u21, .int .i64 (n0 : Int), u23, u24, u25, u26, u27, u28, u29, u30, u31, u32, u33, u34, u35, u36, u37, u38, u39, u40, u41, u42, u43, u44, u45, u46, u47, u48, u49, u50, u51, u52, u53, u54, u55, u56, u57, u58, u59, u60, u61, u62, u63, u64, u65, u66, u67, u68, u69, u70, u71, u72, u73, u74, u75, u76, u77, u78, u79, u80, u81, u82, u83, u84, u85, u86, u87, u88, u89, u90, u91, u92, u93, u94, u95, u96, u97, u98, u99, u100, u101, u102, u103, u104, u105, u106, u107, u108, u109, u110, u111, u112, u113, u114, u115, u116, u117, u118, u119, u120, u121, u122, u123, u124, u125, u126, u127, u128, u129, u130, u131, u132, u133, u134, u135, u136, u137, u138, u139, u140, u141, u142, u143, u144, u145, u146, u147, u148, v149, v150, v151, v152, v153, v154, v155, v156, v157, v158, v159, v160, v161, v162, v163, v164, v165, v166, v167, v168, v169, v170, v171, v172, v173, v174, v175, v176, v177, u178, u179, u180, u181, u182, u183, u184, u185, u186, u187, u188, u189, u190, u191, u192, u193, u194, u195, u196, u197, u198, u199, u200, u201], []⟩ wx)
    : Code.wp Tryf.prog loop3c Q ⟨#[.slice p1 n0 n0, u1, u2, u3, u4, u5, u6, u7, u8, u9, u10, u11, u12, .slice p2 n0 n0, .slice (some ⟨tb, 0, none⟩) n0 n0, u15, u16, u17, u18, u19, u20, u21, .int .i64 0, u23, u24, u25, u26, u27, u28, u29, u30, u31, u32, u33, u34, u35, u36, u37, u38, u39, u40, u41, u42, u43, u44, u45, u46, u47, u48, u49, u50, u51, u52, u53, u54, u55, u56, u57, u58, u59, u60, u61, u62, u63, u64, u65, u66, u67, u68, u69, u70, u71, u72, u73, u74, u75, u76, u77, u78, u79, u80, u81, u82, u83, u84, u85, u86, u87, u88, u89, u90, u91, u92, u93, u94, u95, u96, u97, u98, u99, u100, u101, u102, u103, u104, u105, u106, u107, u108, u109, u110, u111, u112, u113, u114, u115, u116, u117, u118, u119, u120, u121, u122, u123, u124, u125, u126, u127, u128, u129, u130, u131, u132, u133, u134, u135, u136, u137, u138, u139, u140, u141, u142, u143, u144, u145, u146, u147, u148, u149, u150, u151, u152, u153, u154, u155, u156, u157, u158, u159, u160, u161, u162, u163, u164, u165, u166, u167, u168, u169, u170, u171, u172, u173, u174, u175, u176, u177, u178, u179, u180, u181, u182, u183, u184, u185, u186, u187, u188, u189, u190, u191, u192, u193, u194, u195, u196, u197, u198, u199, u200, u201], []⟩ w := by
  have HEX : Hid (∀ (v8 v149 v150 v151 v152 v153 v154 v155 v156 v157 v158 v159 v160 v161 v162 v163 v164 v165 v166 v167 v168 v169 v170 v171 v172 v173 v174 v175 v176 v177 : Value) (wx : World), Dr w wx → Q (.exit 4) ⟨#[.slice p1 n0 n0, u1, u2, u3, u4, u5, u6, u7, v8, u9, u10, u11, u12, .slice p2 n0 n0, .slice (some ⟨tb, 0, none⟩) n0 n0, u15, u16, u17, u18, u19, u20, u21, .int .i64 (n0 : Int), u23, u24, u25, u26, u27, u28, u29, u30, u31, u32, u33, u34, u35, u36, u37, u38, u39, u40, u41, u42, u43, u44, u45, u46, u47, u48, u49, u50, u51, u52, u53, u54, u55, u56, u57, u58, u59, u60, u61, u62, u63, u64, u65, u66, u67, u68, u69, u70, u71, u72, u73, u74, u75, u76, u77, u78, u79, u80, u81, u82, u83, u84, u85, u86, u87, u88, u89, u90, u91, u92, u93, u94, u95, u96, u97, u98, u99, u100, u101, u102, u103, u104, u105, u106, u107, u108, u109, u110, u111, u112, u113, u114, u115, u116, u117, u118, u119, u120, u121, u122, u123, u124, u125, u126, u127, u128, u129, u130, u131, u132, u133, u134, u135, u136, u137, u138, u139, u140, u141, u142, u143, u144, u145, u146, u147, u148, v149, v150, v151, v152, v153, v154, v155, v156, v157, v158, v159, v160, v161, v162, v163, v164, v165, v166, v167, v168, v169, v170, v171, v172, v173, v174, v175, v176, v177, u178, u179, u180, u181, u182, u183, u184, u185, u186, u187, u188, u189, u190, u191, u192, u193, u194, u195, u196, u197, u198, u199, u200, u201], []⟩ wx) := hexit
  clear hexit
  conv => arg 2; whnf
  dsimp only
  go_loopw [22] (fun v22 wx => ∃ k : Nat, k ≤ n0 ∧ v22 = .int .i64 k ∧ Dr w wx) (fun v22 _ => n0 - (intOf v22).toNat)
  case atStart => exact ⟨0, Nat.zero_le _, rfl, Dr.refl _⟩
  case round =>
    obtain ⟨k3, hk3, rfl, hD3⟩ := hrel
    have HD3 : Hid (Dr w wr) := hD3
    by_cases hlt3 : k3 < n0
    · have hpp : p2 = some ⟨cb2, 0, none⟩ ∧ FB w cb2 X ∧ p1 = some ⟨cb1, 0, none⟩ ∧ FB w cb1 X ∧ X.length = n0 := by
        rcases C8.out.1.2.2 with ⟨_, h⟩ | h
        · omega
        · rcases C8.out.2.1.2.2 with ⟨_, h'⟩ | h'
          · omega
          · exact ⟨h.1, h.2, h'.1, h'.2, C8.out.1.1⟩
      obtain ⟨rfl, hFo, rfl, hFc, hlX⟩ := hpp
      have ko := (fb_dr hFo hD3).cell k3 (by omega)
      have kc := (fb_dr hFc hD3).cell k3 (by omega)
      have kt := (fb_dr C8.out.2.2.1 hD3).cell k3 (by have := C8.out.2.2.2; omega)
      have HTX := HTT.out k3 hlt3
      generalize X.getD k3 0 = x at ko kc HTX
      generalize ts.getD k3 0 = t at kt HTX
      have SA : Hid (∀ W, Calls Tryf.prog 15 #[.float .f64 x, .float .f64 x] W fun e w' => e = .returned (.bool true) ∧ w' = W) := fun W => same15 x x rfl W
      clear hFo hFc hD3 hlX
      rcases float_case .mul (.inr (.inr (.inl rfl))) 4611686018427387904 x with ⟨z, hop, hfz⟩ | ⟨hop, hfz⟩
      · have SB : Hid (∀ W, Calls Tryf.prog 15 #[.float .f64 t, .float .f64 z] W fun e w' => e = .returned (.bool true) ∧ w' = W) := fun W => same15 t z (by rw [HTX, hfz]; rfl) W
        clear hfz HTX
        go_wp2_with (fail)
        refine run36 _ cb1 cb2 tb n0 k3 x t z _ _ _ _ _ _ _ _ _ _ _ _ _ _ _ _ _ _ _ _ _ _ _ _ _ _ _ _ _ _ _ _ _ _ _ _ _ _ _ _ _ _ _ _ _ _ _ _ _ _ _ _ _ _ _ _ _ _ _ _ _ _ _ _ _ _ _ _ _ _ _ _ _ _ _ _ _ _ _ _ _ _ _ _ _ _ _ _ _ _ _ _ _ _ _ _ _ _ _ _ _ _ _ _ _ _ _ _ _ _ _ _ _ _ _ _ _ _ _ _ _ _ _ _ _ _ _ _ _ _ _ _ _ _ _ _ _ _ _ _ _ _ _ _ _ _ _ _ _ _ _ _ _ _ _ _ _ _ _ _ _ _ _ _ _ _ _ _ _ _ _ _ _ _ _ _ _ _ _ _ _ _ _ _ _ _ _ _ _ _ _ _ _ _ _ _ _ _ _ hlt3 hn ko kc kt hop SA SB ?_
        clear ko kc kt hop SA SB
        intro v155 v156 v157 v158 v159 v160 v161 v162 v163 v164 v165 v166 v167 v168 v169 v170 v171 v172 v173 v174 v175 v176 wx hdx
        have HDX : Hid (Dr w wx) := HD3.out.trans hdx
        clear hdx
        go_wp2_with (fail)
        go_roundw
        case rel => exact ⟨k3 + 1, by omega, by go_num, HDX.out⟩
        case measure => simp [intOf]; omega
      · have SB : Hid (∀ v W, Calls Tryf.prog 15 #[.float .f64 t, .float .f64 (nanOf 4611686018427387904 x v)] W fun e w' => e = .returned (.bool true) ∧ w' = W) := fun v W => same15 t _ (by rw [HTX, nanOf_nan, hfz]; rfl) W
        clear hfz HTX
        go_wp2_with (fail)
        refine run36n _ cb1 cb2 tb n0 k3 x t _ _ _ _ _ _ _ _ _ _ _ _ _ _ _ _ _ _ _ _ _ _ _ _ _ _ _ _ _ _ _ _ _ _ _ _ _ _ _ _ _ _ _ _ _ _ _ _ _ _ _ _ _ _ _ _ _ _ _ _ _ _ _ _ _ _ _ _ _ _ _ _ _ _ _ _ _ _ _ _ _ _ _ _ _ _ _ _ _ _ _ _ _ _ _ _ _ _ _ _ _ _ _ _ _ _ _ _ _ _ _ _ _ _ _ _ _ _ _ _ _ _ _ _ _ _ _ _ _ _ _ _ _ _ _ _ _ _ _ _ _ _ _ _ _ _ _ _ _ _ _ _ _ _ _ _ _ _ _ _ _ _ _ _ _ _ _ _ _ _ _ _ _ _ _ _ _ _ _ _ _ _ _ _ _ _ _ _ _ _ _ _ _ _ _ _ _ _ _ hlt3 hn ko kc kt hop SA SB ?_
        clear ko kc kt hop SA SB
        intro v155 v156 v157 v158 v159 v160 v161 v162 v163 v164 v165 v166 v167 v168 v169 v170 v171 v172 v173 v174 v175 v176 wx hdx
        have HDX : Hid (Dr w wx) := HD3.out.trans hdx
        clear hdx
        go_wp2_with (fail)
        go_roundw
        case rel => exact ⟨k3 + 1, by omega, by go_num, HDX.out⟩
        case measure => simp [intOf]; omega
    · obtain rfl : k3 = n0 := by omega
      clear hD3
      go_wp2_with (fail)
      exact HEX.out _ _ _ _ _ _ _ _ _ _ _ _ _ _ _ _ _ _ _ _ _ _ _ _ _ _ _ _ _ _ _ HD3.out


set_option maxRecDepth 100000 in
set_option maxHeartbeats 1000000 in
theorem loop4 (Q : Exit → Act → World → Prop) (b1 b2 R : Nat) (X ts : List Nat) (u0 u2 u3 u4 u5 u6 u7 u8 u9 u10 u11 u12 u13 u14 u15 u16 u18 u19 u21 u22 u24 u25 u26 u27 u28 u29 u30 u31 u32 u33 u34 u35 u36 u37 u38 u39 u40 u41 u42 u43 u44 u45 u46 u47 u48 u49 u50 u51 u52 u53 u54 u55 u56 u57 u58 u59 u60 u61 u62 u63 u64 u65 u66 u67 u68 u69 u70 u71 u72 u73 u74 u75 u76 u77 u78 u79 u80 u81 u82 u83 u84 u85 u86 u87 u88 u89 u90 u91 u92 u93 u94 u95 u96 u97 u98 u99 u100 u101 u102 u103 u104 u105 u106 u107 u108 u109 u110 u111 u112 u113 u114 u115 u116 u117 u118 u119 u120 u121 u122 u123 u124 u125 u126 u127 u128 u129 u130 u131 u132 u133 u134 u135 u136 u137 u138 u139 u140 u141 u142 u143 u144 u145 u146 u147 u148 u149 u150 u151 u152 u153 u154 u155 u156 u157 u158 u159 u160 u161 u162 u163 u164 u165 u166 u167 u168 u169 u170 u171 u172 u173 u174 u175 u176 u177 u178 u179 u180 u181 u182 u183 u184 u185 u186 u187 u188 u189 u190 u191 u192 u193 u194 u195 u196 u197 u198 u199 u200 u201 : Value) (w : World) (hn : R ≤ 131072)
    (C8 : Hid (FB w b1 X ∧ X.length = R ∧ FB w b2 ts ∧ ts.length = R))
    (HTT : Hid (∀ i, i < R → fnum (ts.getD i 0) = fop .mul (some P5.two) (fnum (X.getD i 0))))
    (hexit : ∀ (v8 v178 v179 v180 v181 v182 v183 v184 v185 v186 v187 v188 v189 v190 v191 v192 v193 : Value) (wx : World), Dr w wx → Q (.exit 6) ⟨#[u0, .int .i64 (R : Int), u2, u3, u4, u5, u6, u7, v8, u9, u10, u11, u12, u13, u14, u15, u16, .slice (some ⟨b1, 0, none⟩) R R, u18, u19, .slice (some ⟨b2, 0, none⟩) R R, u21, u22, .int .i64 (R : Int), u24, u25, u26, u27, u28, u29, u30, u31, u32, u33, u34, u35, u36, u37, u38, u39, u40, u41, u42, u43, u44, u45, u46, u47, u48, u49, u50, u51, u52, u53, u54, u55, u56, u57, u58, u59, u60, u61, u62, u63, u64, u65, u66, u67, u68, u69, u70, u71, u72, u73, u74, u75, u76, u77, u78, u79, u80, u81, u82, u83, u84, u85, u86, u87, u88, u89, u90, u91, u92, u93, u94, u95, u96, u97, u98, u99, u100, u101, u102, u103, u104, u105, u106, u107, u108, u109, u110, u111, u112, u113, u114, u115, u116, u117, u118, u119, u120, u121, u122, u123, u124, u125, u126, u127, u128, u129, u130, u131, u132, u133, u134, u135, u136, u137, u138, u139, u140, u141, u142, u143, u144, u145, u146, u147, u148, u149, u150, u151, u152, u153, u154, u155, u156, u157, u158, u159, u160, u161, u162, u163, u164, u165, u166, u167, u168, u169, u170, u171, u172, u173, u174, u175, u176, u177, v178, v179, v180, v181, v182, v183, v184, v185, v186, v187, v188, v189, v190, v191, v192, v193, u194, u195, u196, u197, u198, u199, u200, u201], []⟩ wx)
    : Code.wp Tryf.prog loop4c Q ⟨#[u0, .int .i64 (R : Int), u2, u3, u4, u5, u6, u7, u8, u9, u10, u11, u12, u13, u14, u15, u16, .slice (some ⟨b1, 0, none⟩) R R, u18, u19, .slice (some ⟨b2, 0, none⟩) R R, u21, u22, .int .i64 0, u24, u25, u26, u27, u28, u29, u30, u31, u32, u33, u34, u35, u36, u37, u38, u39, u40, u41, u42, u43, u44, u45, u46, u47, u48, u49, u50, u51, u52, u53, u54, u55, u56, u57, u58, u59, u60, u61, u62, u63, u64, u65, u66, u67, u68, u69, u70, u71, u72, u73, u74, u75, u76, u77, u78, u79, u80, u81, u82, u83, u84, u85, u86, u87, u88, u89, u90, u91, u92, u93, u94, u95, u96, u97, u98, u99, u100, u101, u102, u103, u104, u105, u106, u107, u108, u109, u110, u111, u112, u113, u114, u115, u116, u117, u118, u119, u120, u121, u122, u123, u124, u125, u126, u127, u128, u129, u130, u131, u132, u133, u134, u135, u136, u137, u138, u139, u140, u141, u142, u143, u144, u145, u146, u147, u148, u149, u150, u151, u152, u153, u154, u155, u156, u157, u158, u159, u160, u161, u162, u163, u164, u165, u166, u167, u168, u169, u170, u171, u172, u173, u174, u175, u176, u177, u178, u179, u180, u181, u182, u183, u184, u185, u186, u187, u188, u189, u190, u191, u192, u193, u194, u195, u196, u197, u198, u199, u200, u201], []⟩ w := by
  have HEX : Hid (∀ (v8 v178 v179 v180 v181 v182 v183 v184 v185 v186 v187 v188 v189 v190 v191 v192 v193 : Value) (wx : World), Dr w wx → Q (.exit 6) ⟨#[u0, .int .i64 (R : Int), u2, u3, u4, u5, u6, u7, v8, u9, u10, u11, u12, u13, u14, u15, u16, .slice (some ⟨b1, 0, none⟩) R R, u18, u19, .slice (some ⟨b2, 0, none⟩) R R, u21, u22, .int .i64 (R : Int), u24, u25, u26, u27, u28, u29, u30, u31, u32, u33, u34, u35, u36, u37, u38, u39, u40, u41, u42, u43, u44, u45, u46, u47, u48, u49, u50, u51, u52, u53, u54, u55, u56, u57, u58, u59, u60, u61, u62, u63, u64, u65, u66, u67, u68, u69, u70, u71, u72, u73, u74, u75, u76, u77, u78, u79, u80, u81, u82, u83, u84, u85, u86, u87, u88, u89, u90, u91, u92, u93, u94, u95, u96, u97, u98, u99, u100, u101, u102, u103, u104, u105, u106, u107, u108, u109, u110, u111, u112, u113, u114, u115, u116, u117, u118, u119, u120, u121, u122, u123, u124, u125, u126, u127, u128, u129, u130, u131, u132, u133, u134, u135, u136, u137, u138, u139, u140, u141, u142, u143, u144, u145, u146, u147, u148, u149, u150, u151, u152, u153, u154, u155, u156, u157, u158, u159, u160, u161, u162, u163, u164, u165, u166, u167, u168, u169, u170, u171, u172, u173, u174, u175, u176, u177, v178, v179, v180, v181, v182, v183, v184, v185, v186, v187, v188, v189, v190, v191, v192, v193, u194, u195, u196, u197, u198, u199, u200, u201], []⟩ wx) := hexit
  clear hexit
  conv => arg 2; whnf
  dsimp only
  go_loopw [23] (fun v23 wx => ∃ k : Nat, k ≤ R ∧ v23 = .int .i64 k ∧ Dr w wx) (fun v23 _ => R - (intOf v23).toNat)
  case atStart => exact ⟨0, Nat.zero_le _, rfl, Dr.refl _⟩
  case round =>
    obtain ⟨k3, hk3, rfl, hD3⟩ := hrel
    have HD3 : Hid (Dr w wr) := hD3
    by_cases hlt3 : k3 < R
    · have kx := (fb_dr C8.out.1 hD3).cell k3 (by have := C8.out.2.1; omega)
      have kt := (fb_dr C8.out.2.2.1 hD3).cell k3 (by have := C8.out.2.2.2; omega)
      have HTX := HTT.out k3 hlt3
      generalize X.getD k3 0 = x at kx HTX
      generalize ts.getD k3 0 = t at kt HTX
      clear hD3
      rcases float_case .mul (.inr (.inr (.inl rfl))) 4611686018427387904 x with ⟨z, hop, hfz⟩ | ⟨hop, hfz⟩
      · have SB : Hid (∀ W, Calls Tryf.prog 15 #[.float .f64 t, .float .f64 z] W fun e w' => e = .returned (.bool true) ∧ w' = W) := fun W => same15 t z (by rw [HTX, hfz]; rfl) W
        clear hfz HTX
        go_wp2_with (fail)
        refine run42 _ b1 b2 R k3 x t z _ _ _ _ _ _ _ _ _ _ _ _ _ _ _ _ _ _ _ _ _ _ _ _ _ _ _ _ _ _ _ _ _ _ _ _ _ _ _ _ _ _ _ _ _ _ _ _ _ _ _ _ _ _ _ _ _ _ _ _ _ _ _ _ _ _ _ _ _ _ _ _ _ _ _ _ _ _ _ _ _ _ _ _ _ _ _ _ _ _ _ _ _ _ _ _ _ _ _ _ _ _ _ _ _ _ _ _ _ _ _ _ _ _ _ _ _ _ _ _ _ _ _ _ _ _ _ _ _ _ _ _ _ _ _ _ _ _ _ _ _ _ _ _ _ _ _ _ _ _ _ _ _ _ _ _ _ _ _ _ _ _ _ _ _ _ _ _ _ _ _ _ _ _ _ _ _ _ _ _ _ _ _ _ _ _ _ _ _ _ _ _ _ _ _ _ _ _ _ _ hlt3 hn kx kt hop SB ?_
        clear kx kt hop SB
        intro v183 v184 v185 v186 v187 v188 v189 v190 v191 v192 wx hdx
        have HDX : Hid (Dr w wx) := HD3.out.trans hdx
        clear hdx
        go_wp2_with (fail)
        go_roundw
        case rel => exact ⟨k3 + 1, by omega, by go_num, HDX.out⟩
        case measure => simp [intOf]; omega
      · have SB : Hid (∀ v W, Calls Tryf.prog 15 #[.float .f64 t, .float .f64 (nanOf 4611686018427387904 x v)] W fun e w' => e = .returned (.bool true) ∧ w' = W) := fun v W => same15 t _ (by rw [HTX, nanOf_nan, hfz]; rfl) W
        clear hfz HTX
        go_wp2_with (fail)
        refine run42n _ b1 b2 R k3 x t _ _ _ _ _ _ _ _ _ _ _ _ _ _ _ _ _ _ _ _ _ _ _ _ _ _ _ _ _ _ _ _ _ _ _ _ _ _ _ _ _ _ _ _ _ _ _ _ _ _ _ _ _ _ _ _ _ _ _ _ _ _ _ _ _ _ _ _ _ _ _ _ _ _ _ _ _ _ _ _ _ _ _ _ _ _ _ _ _ _ _ _ _ _ _ _ _ _ _ _ _ _ _ _ _ _ _ _ _ _ _ _ _ _ _ _ _ _ _ _ _ _ _ _ _ _ _ _ _ _ _ _ _ _ _ _ _ _ _ _ _ _ _ _ _ _ _ _ _ _ _ _ _ _ _ _ _ _ _ _ _ _ _ _ _ _ _ _ _ _ _ _ _ _ _ _ _ _ _ _ _ _ _ _ _ _ _ _ _ _ _ _ _ _ _ _ _ _ _ _ hlt3 hn kx kt hop SB ?_
        clear kx kt hop SB
        intro v183 v184 v185 v186 v187 v188 v189 v190 v191 v192 wx hdx
        have HDX : Hid (Dr w wx) := HD3.out.trans hdx
        clear hdx
        go_wp2_with (fail)
        go_roundw
        case rel => exact ⟨k3 + 1, by omega, by go_num, HDX.out⟩
        case measure => simp [intOf]; omega
    · obtain rfl : k3 = R := by omega
      clear hD3
      go_wp2_with (fail)
      exact HEX.out _ _ _ _ _ _ _ _ _ _ _ _ _ _ _ _ _ _ HD3.out
end Go.Proofs.Qxb6605746aFmt.E8
