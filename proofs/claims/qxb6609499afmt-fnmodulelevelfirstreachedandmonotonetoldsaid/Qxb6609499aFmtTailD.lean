/-
  The law's regions 23 to 44 where a level came.
-/
import Derived.Test.Qxb6609499aFmtTailA
namespace Go.Proofs.Qxb6609499aFmt
open Go.RowKit Go.Extern.Stop Go.Stop Go.Extern
set_option linter.unusedVariables false in
set_option maxRecDepth 1000000 in
set_option maxHeartbeats 8000000 in
theorem t23_on (V g o i : Nat) (x1 : Int) (w : World)
    (V1 : w.cell? ⟨V, 1, none⟩ = some (.int .u8 x1)) (hx : (x1 == 0) = false)
    {s0 s1 s2 s3 s4 s5 s6 s7 s8 s9 s10 s13 s14 s15 s17 s19 s21 s22 s23 s24 s25 s26 s27 s28 s29 s30 s31 s32 s33 s34 s35 s36 s37 s38 s39 s40 s41 s42 s43 s44 s45 s46 s47 s48 s49 s50 s51 s52 s53 s54 s55 s56 s57 s58 s59 s60 s61 s62 s63 s64 s65 s66 s67 s68 s69 s70 s71 s72 s73 s74 s75 s76 s77 s78 s79 s80 s81 s82 s83 s84 s85 s86 s87 s88 s89 s90 s91 s92 s93 s94 s95 s96 s97 s98 s99 s100 s101 s102 s103 s104 s105 s106 s107 s108 s109 s110 s111 s112 s113 s114 s115 s116 s117 s118 s119 s120 s121 s122 s123 s124 s125 s126 s127 s128 s129 s130 s131 s132 s133 s134 s135 s136 s137 s138 s139 s140 s141 s142 s143 s144 s145 s146 s147 s148 s149 s150 s151 s152 s153 s154 s155 s156 s157 s158 s159 s160 s161 s162 s163 s164 s165 s166 s167 s168 s169 s170 s171 s172 s173 s174 s175 s176 s177 s178 s179 s180 s181 s182 s183 s184 s185 s186 s187 s188 s189 s190 s191 : Value} {Q : Exit → Act → World → Prop}
    (H : ∀ t99 t100 t101 t102 t103 t104 t105 t106 t107 t108 t109 t110 t111 t112 t113 t114 t115 t116 t117 t118 t119 t120 t121 t122 t123 t124 t125 t126 t127 t128 w', Below w.heap.size w w' → Code.wp Tryf.prog ((Tryf.f3.body.bind (codeFrom 29)).getD .skip) Q ⟨#[s0, s1, s2, s3, s4, s5, s6, s7, s8, s9, s10, .pointer (some ⟨g, o, none⟩), .nilIface, s13, s14, s15, .pointer (some ⟨V, 0, none⟩), s17, .int .i64 i, s19, .bool true, s21, s22, s23, s24, s25, s26, s27, s28, s29, s30, s31, s32, s33, s34, s35, s36, s37, s38, s39, s40, s41, s42, s43, s44, s45, s46, s47, s48, s49, s50, s51, s52, s53, s54, s55, s56, s57, s58, s59, s60, s61, s62, s63, s64, s65, s66, s67, s68, s69, s70, s71, s72, s73, s74, s75, s76, s77, s78, s79, s80, s81, s82, s83, s84, s85, s86, s87, s88, s89, s90, s91, s92, s93, s94, s95, s96, s97, s98, t99, t100, t101, t102, t103, t104, t105, t106, t107, t108, t109, t110, t111, t112, t113, t114, t115, t116, t117, t118, t119, t120, t121, t122, t123, t124, t125, t126, t127, t128, s129, s130, s131, s132, s133, s134, s135, s136, s137, s138, s139, s140, s141, s142, s143, s144, s145, s146, s147, s148, s149, s150, s151, s152, s153, s154, s155, s156, s157, s158, s159, s160, s161, s162, s163, s164, s165, s166, s167, s168, s169, s170, s171, s172, s173, s174, s175, s176, s177, s178, s179, s180, s181, s182, s183, s184, s185, s186, s187, s188, s189, s190, s191], []⟩ w') :
    Code.wp Tryf.prog ((Tryf.f3.body.bind (codeFrom 23)).getD .skip) Q ⟨#[s0, s1, s2, s3, s4, s5, s6, s7, s8, s9, s10, .pointer (some ⟨g, o, none⟩), .nilIface, s13, s14, s15, .pointer (some ⟨V, 0, none⟩), s17, .int .i64 i, s19, .bool true, s21, s22, s23, s24, s25, s26, s27, s28, s29, s30, s31, s32, s33, s34, s35, s36, s37, s38, s39, s40, s41, s42, s43, s44, s45, s46, s47, s48, s49, s50, s51, s52, s53, s54, s55, s56, s57, s58, s59, s60, s61, s62, s63, s64, s65, s66, s67, s68, s69, s70, s71, s72, s73, s74, s75, s76, s77, s78, s79, s80, s81, s82, s83, s84, s85, s86, s87, s88, s89, s90, s91, s92, s93, s94, s95, s96, s97, s98, s99, s100, s101, s102, s103, s104, s105, s106, s107, s108, s109, s110, s111, s112, s113, s114, s115, s116, s117, s118, s119, s120, s121, s122, s123, s124, s125, s126, s127, s128, s129, s130, s131, s132, s133, s134, s135, s136, s137, s138, s139, s140, s141, s142, s143, s144, s145, s146, s147, s148, s149, s150, s151, s152, s153, s154, s155, s156, s157, s158, s159, s160, s161, s162, s163, s164, s165, s166, s167, s168, s169, s170, s171, s172, s173, s174, s175, s176, s177, s178, s179, s180, s181, s182, s183, s184, s185, s186, s187, s188, s189, s190, s191], []⟩ w := by
  have j0 : ¬ ((i : Int) < 0) := by omega
  dsimp only
  conv => arg 2; whnf
  refine wp_seq_k fun K1 h1 => ?_
  have k1 := hid h1
  clear h1
  go_upto_region 23 with fail
  go_quiet (fail)
  go_wp2_with fail
  refine k1.out _ _ ?_
  refine wp_seq_k fun K2 h2 => ?_
  have k2 := hid h2
  clear h2
  go_wp2_with fail
  refine k2.out _ _ ?_
  refine wp_seq_k fun K3 h3 => ?_
  have k3 := hid h3
  clear h3
  go_wp2_with fail
  exact k3.out _ _ (H _ _ _ _ _ _ _ _ _ _ _ _ _ _ _ _ _ _ _ _ _ _ _ _ _ _ _ _ _ _ _ (below_drewN (Below.refl _ _) _))
set_option linter.unusedVariables false in
set_option maxRecDepth 1000000 in
set_option maxHeartbeats 8000000 in
theorem t29 (b off n c M g i j ln lc lc2 : Nat) (la : Option Addr) (w : World)
    (hin : i < n) (hn : n ≤ 9223372036854775806) (hj : j < ln) (hl : ln ≤ 9223372036854775806) (hL : w.cell? ⟨b, off + i * 66 + 65, none⟩ = some (.slice la ln lc)) (hM : w.cell? ⟨M, i * 66 + 65, none⟩ = some (.slice (some ⟨g, 0, none⟩) ln lc2))
    {s0 s1 s3 s4 s5 s6 s7 s8 s10 s12 s13 s14 s15 s16 s17 s19 s20 s21 s22 s23 s24 s25 s26 s27 s28 s29 s30 s31 s32 s33 s34 s35 s36 s37 s38 s39 s40 s41 s42 s43 s44 s45 s46 s47 s48 s49 s50 s51 s52 s53 s54 s55 s56 s57 s58 s59 s60 s61 s62 s63 s64 s65 s66 s67 s68 s69 s70 s71 s72 s73 s74 s75 s76 s77 s78 s79 s80 s81 s82 s83 s84 s85 s86 s87 s88 s89 s90 s91 s92 s93 s94 s95 s96 s97 s98 s99 s100 s101 s102 s103 s104 s105 s106 s107 s108 s109 s110 s111 s112 s113 s114 s115 s116 s117 s118 s119 s120 s121 s122 s123 s124 s125 s126 s127 s128 s129 s130 s131 s132 s133 s134 s135 s136 s137 s138 s139 s140 s141 s142 s143 s144 s145 s146 s147 s148 s149 s150 s151 s152 s153 s154 s155 s156 s157 s158 s159 s160 s161 s162 s163 s164 s165 s166 s167 s168 s169 s170 s171 s172 s173 s174 s175 s176 s177 s178 s179 s180 s181 s182 s183 s184 s185 s186 s187 s188 s189 s190 s191 : Value} {Q : Exit → Act → World → Prop}
    (H : ∀ t129 t130 t131 t132 t133 t134 t135 t136 t137 t138 t139 t140 t141 t142 w', w' = w → Code.wp Tryf.prog ((Tryf.f3.body.bind (codeFrom 33)).getD .skip) Q ⟨#[s0, s1, .slice (some ⟨b, off, none⟩) n c, s3, s4, s5, s6, s7, s8, .slice (some ⟨M, 0, none⟩) n n, s10, .pointer (some ⟨g, j * 3 + 1, none⟩), s12, s13, s14, s15, s16, s17, .int .i64 i, s19, s20, .int .i64 ln, .int .i64 j, s23, s24, s25, s26, s27, s28, s29, s30, s31, s32, s33, s34, s35, s36, s37, s38, s39, s40, s41, s42, s43, s44, s45, s46, s47, s48, s49, s50, s51, s52, s53, s54, s55, s56, s57, s58, s59, s60, s61, s62, s63, s64, s65, s66, s67, s68, s69, s70, s71, s72, s73, s74, s75, s76, s77, s78, s79, s80, s81, s82, s83, s84, s85, s86, s87, s88, s89, s90, s91, s92, s93, s94, s95, s96, s97, s98, s99, s100, s101, s102, s103, s104, s105, s106, s107, s108, s109, s110, s111, s112, s113, s114, s115, s116, s117, s118, s119, s120, s121, s122, s123, s124, s125, s126, s127, s128, t129, t130, t131, t132, t133, t134, t135, t136, t137, t138, t139, t140, t141, t142, s143, s144, s145, s146, s147, s148, s149, s150, s151, s152, s153, s154, s155, s156, s157, s158, s159, s160, s161, s162, s163, s164, s165, s166, s167, s168, s169, s170, s171, s172, s173, s174, s175, s176, s177, s178, s179, s180, s181, s182, s183, s184, s185, s186, s187, s188, s189, s190, s191], []⟩ w') :
    Code.wp Tryf.prog ((Tryf.f3.body.bind (codeFrom 29)).getD .skip) Q ⟨#[s0, s1, .slice (some ⟨b, off, none⟩) n c, s3, s4, s5, s6, s7, s8, .slice (some ⟨M, 0, none⟩) n n, s10, .pointer (some ⟨g, j * 3 + 1, none⟩), s12, s13, s14, s15, s16, s17, .int .i64 i, s19, s20, s21, s22, s23, s24, s25, s26, s27, s28, s29, s30, s31, s32, s33, s34, s35, s36, s37, s38, s39, s40, s41, s42, s43, s44, s45, s46, s47, s48, s49, s50, s51, s52, s53, s54, s55, s56, s57, s58, s59, s60, s61, s62, s63, s64, s65, s66, s67, s68, s69, s70, s71, s72, s73, s74, s75, s76, s77, s78, s79, s80, s81, s82, s83, s84, s85, s86, s87, s88, s89, s90, s91, s92, s93, s94, s95, s96, s97, s98, s99, s100, s101, s102, s103, s104, s105, s106, s107, s108, s109, s110, s111, s112, s113, s114, s115, s116, s117, s118, s119, s120, s121, s122, s123, s124, s125, s126, s127, s128, s129, s130, s131, s132, s133, s134, s135, s136, s137, s138, s139, s140, s141, s142, s143, s144, s145, s146, s147, s148, s149, s150, s151, s152, s153, s154, s155, s156, s157, s158, s159, s160, s161, s162, s163, s164, s165, s166, s167, s168, s169, s170, s171, s172, s173, s174, s175, s176, s177, s178, s179, s180, s181, s182, s183, s184, s185, s186, s187, s188, s189, s190, s191], []⟩ w := by
  have HM := hid hM
  clear hM
  have j0 : ¬ ((i : Int) < 0) := by omega
  have j1 : (i : Int) < (n : Int) := by omega
  have j2 : ¬ ((j : Int) < 0) := by omega
  dsimp only
  conv => arg 2; whnf
  refine wp_seq_k fun K1 h1 => ?_
  have k1 := hid h1
  clear h1
  go_wp2_with fail
  refine k1.out _ _ ?_
  refine wp_seq_k fun K2 h2 => ?_
  have k2 := hid h2
  clear h2
  go_wp2_with (go_at_call 14; refine (levelIndex_any M (i * 66) g ln lc2 j _ HM.out hj hl).mono ?_; rintro e w5 ⟨rfl, rfl⟩)
  refine k2.out _ _ ?_
  refine wp_seq_k fun K3 h3 => ?_
  have k3 := hid h3
  clear h3
  go_wp2_with fail
  exact k3.out _ _ (H _ _ _ _ _ _ _ _ _ _ _ _ _ _ _ rfl)
set_option linter.unusedVariables false in
set_option maxRecDepth 1000000 in
set_option maxHeartbeats 8000000 in
theorem t33 (b off n c V i j ln lc b2 off2 : Nat) (x0 z : Int) (w : World)
    (hin : i < n) (hn : n ≤ 9223372036854775806) (hj : j < ln) (hl : ln ≤ 9223372036854775806) (hL : w.cell? ⟨b, off + i * 66 + 65, none⟩ = some (.slice (some ⟨b2, off2, none⟩) ln lc)) (V0 : w.cell? ⟨V, 0, none⟩ = some (.int .u8 x0)) (x0b : 0 ≤ x0 ∧ x0 ≤ 255) (hz : w.cell? ⟨b2, off2 + j * 3, none⟩ = some (.int .u16 z)) (hzx : z ≤ x0)
    {s0 s1 s3 s4 s5 s6 s7 s8 s9 s10 s11 s12 s13 s14 s15 s17 s19 s20 s21 s23 s24 s25 s26 s27 s28 s29 s30 s31 s32 s33 s34 s35 s36 s37 s38 s39 s40 s41 s42 s43 s44 s45 s46 s47 s48 s49 s50 s51 s52 s53 s54 s55 s56 s57 s58 s59 s60 s61 s62 s63 s64 s65 s66 s67 s68 s69 s70 s71 s72 s73 s74 s75 s76 s77 s78 s79 s80 s81 s82 s83 s84 s85 s86 s87 s88 s89 s90 s91 s92 s93 s94 s95 s96 s97 s98 s99 s100 s101 s102 s103 s104 s105 s106 s107 s108 s109 s110 s111 s112 s113 s114 s115 s116 s117 s118 s119 s120 s121 s122 s123 s124 s125 s126 s127 s128 s129 s130 s131 s132 s133 s134 s135 s136 s137 s138 s139 s140 s141 s142 s143 s144 s145 s146 s147 s148 s149 s150 s151 s152 s153 s154 s155 s156 s157 s158 s159 s160 s161 s162 s163 s164 s165 s166 s167 s168 s169 s170 s171 s172 s173 s174 s175 s176 s177 s178 s179 s180 s181 s182 s183 s184 s185 s186 s187 s188 s189 s190 s191 : Value} {Q : Exit → Act → World → Prop}
    (H : ∀ t143 t144 t145 t146 t147 t148 t149 t150 t151 t152 t153 t154 t155 t156 w', w' = w → Code.wp Tryf.prog ((Tryf.f3.body.bind (codeFrom 36)).getD .skip) Q ⟨#[s0, s1, .slice (some ⟨b, off, none⟩) n c, s3, s4, s5, s6, s7, s8, s9, s10, s11, s12, s13, s14, s15, .pointer (some ⟨V, 0, none⟩), s17, .int .i64 i, s19, s20, s21, .int .i64 j, .int .u16 x0, s24, s25, s26, s27, s28, s29, s30, s31, s32, s33, s34, s35, s36, s37, s38, s39, s40, s41, s42, s43, s44, s45, s46, s47, s48, s49, s50, s51, s52, s53, s54, s55, s56, s57, s58, s59, s60, s61, s62, s63, s64, s65, s66, s67, s68, s69, s70, s71, s72, s73, s74, s75, s76, s77, s78, s79, s80, s81, s82, s83, s84, s85, s86, s87, s88, s89, s90, s91, s92, s93, s94, s95, s96, s97, s98, s99, s100, s101, s102, s103, s104, s105, s106, s107, s108, s109, s110, s111, s112, s113, s114, s115, s116, s117, s118, s119, s120, s121, s122, s123, s124, s125, s126, s127, s128, s129, s130, s131, s132, s133, s134, s135, s136, s137, s138, s139, s140, s141, s142, t143, t144, t145, t146, t147, t148, t149, t150, t151, t152, t153, t154, t155, t156, s157, s158, s159, s160, s161, s162, s163, s164, s165, s166, s167, s168, s169, s170, s171, s172, s173, s174, s175, s176, s177, s178, s179, s180, s181, s182, s183, s184, s185, s186, s187, s188, s189, s190, s191], []⟩ w') :
    Code.wp Tryf.prog ((Tryf.f3.body.bind (codeFrom 33)).getD .skip) Q ⟨#[s0, s1, .slice (some ⟨b, off, none⟩) n c, s3, s4, s5, s6, s7, s8, s9, s10, s11, s12, s13, s14, s15, .pointer (some ⟨V, 0, none⟩), s17, .int .i64 i, s19, s20, s21, .int .i64 j, s23, s24, s25, s26, s27, s28, s29, s30, s31, s32, s33, s34, s35, s36, s37, s38, s39, s40, s41, s42, s43, s44, s45, s46, s47, s48, s49, s50, s51, s52, s53, s54, s55, s56, s57, s58, s59, s60, s61, s62, s63, s64, s65, s66, s67, s68, s69, s70, s71, s72, s73, s74, s75, s76, s77, s78, s79, s80, s81, s82, s83, s84, s85, s86, s87, s88, s89, s90, s91, s92, s93, s94, s95, s96, s97, s98, s99, s100, s101, s102, s103, s104, s105, s106, s107, s108, s109, s110, s111, s112, s113, s114, s115, s116, s117, s118, s119, s120, s121, s122, s123, s124, s125, s126, s127, s128, s129, s130, s131, s132, s133, s134, s135, s136, s137, s138, s139, s140, s141, s142, s143, s144, s145, s146, s147, s148, s149, s150, s151, s152, s153, s154, s155, s156, s157, s158, s159, s160, s161, s162, s163, s164, s165, s166, s167, s168, s169, s170, s171, s172, s173, s174, s175, s176, s177, s178, s179, s180, s181, s182, s183, s184, s185, s186, s187, s188, s189, s190, s191], []⟩ w := by
  have j0 : ¬ ((i : Int) < 0) := by omega
  have j1 : (i : Int) < (n : Int) := by omega
  have j2 : ¬ ((j : Int) < 0) := by omega
  have j3 : (j : Int) < (ln : Int) := by omega
  have jz : ¬ (x0 < z) := by omega
  have hwr : IntKind.u16.wrap x0 = x0 := by
    simp [IntKind.wrap, IntKind.signed, IntKind.bits]; omega
  dsimp only
  conv => arg 2; whnf
  refine wp_seq_k fun K1 h1 => ?_
  have k1 := hid h1
  clear h1
  go_wp2_with fail
  refine k1.out _ _ ?_
  refine wp_seq_k fun K2 h2 => ?_
  have k2 := hid h2
  clear h2
  go_wp2_with fail
  exact k2.out _ _ (H _ _ _ _ _ _ _ _ _ _ _ _ _ _ _ rfl)
set_option linter.unusedVariables false in
set_option maxRecDepth 1000000 in
set_option maxHeartbeats 8000000 in
theorem t36 (b off n c i j ln lc b2 off2 : Nat) (x0 : Int) (sv : Nat → Int) (w : World)
    (hin : i < n) (hn : n ≤ 9223372036854775806) (hj : j < ln) (hl : ln ≤ 9223372036854775806) (hL : w.cell? ⟨b, off + i * 66 + 65, none⟩ = some (.slice (some ⟨b2, off2, none⟩) ln lc)) (hz : ∀ k, k < j → w.cell? ⟨b2, off2 + k * 3, none⟩ = some (.int .u16 (sv k))) (hzx : ∀ k, k < j → x0 < sv k)
    {s0 s1 s3 s4 s5 s6 s7 s8 s9 s10 s11 s12 s13 s14 s15 s16 s17 s19 s20 s21 s24 s25 s26 s27 s28 s29 s30 s31 s32 s33 s34 s35 s36 s37 s38 s39 s40 s41 s42 s43 s44 s45 s46 s47 s48 s49 s50 s51 s52 s53 s54 s55 s56 s57 s58 s59 s60 s61 s62 s63 s64 s65 s66 s67 s68 s69 s70 s71 s72 s73 s74 s75 s76 s77 s78 s79 s80 s81 s82 s83 s84 s85 s86 s87 s88 s89 s90 s91 s92 s93 s94 s95 s96 s97 s98 s99 s100 s101 s102 s103 s104 s105 s106 s107 s108 s109 s110 s111 s112 s113 s114 s115 s116 s117 s118 s119 s120 s121 s122 s123 s124 s125 s126 s127 s128 s129 s130 s131 s132 s133 s134 s135 s136 s137 s138 s139 s140 s141 s142 s143 s144 s145 s146 s147 s148 s149 s150 s151 s152 s153 s154 s155 s156 s157 s158 s159 s160 s161 s162 s163 s164 s165 s166 s167 s168 s169 s170 s171 s172 s173 s174 s175 s176 s177 s178 s179 s180 s181 s182 s183 s184 s185 s186 s187 s188 s189 s190 s191 : Value} {Q : Exit → Act → World → Prop}
    (H : ∀ t8 t24 t157 t158 t159 t160 t161 t162 t163 t164 t165 t166 t167 t168 t169 t170 t171 t172 w', w' = w → Code.wp Tryf.prog ((Tryf.f3.body.bind (codeFrom 41)).getD .skip) Q ⟨#[s0, s1, .slice (some ⟨b, off, none⟩) n c, s3, s4, s5, s6, s7, t8, s9, s10, s11, s12, s13, s14, s15, s16, s17, .int .i64 i, s19, s20, s21, .int .i64 j, .int .u16 x0, t24, s25, s26, s27, s28, s29, s30, s31, s32, s33, s34, s35, s36, s37, s38, s39, s40, s41, s42, s43, s44, s45, s46, s47, s48, s49, s50, s51, s52, s53, s54, s55, s56, s57, s58, s59, s60, s61, s62, s63, s64, s65, s66, s67, s68, s69, s70, s71, s72, s73, s74, s75, s76, s77, s78, s79, s80, s81, s82, s83, s84, s85, s86, s87, s88, s89, s90, s91, s92, s93, s94, s95, s96, s97, s98, s99, s100, s101, s102, s103, s104, s105, s106, s107, s108, s109, s110, s111, s112, s113, s114, s115, s116, s117, s118, s119, s120, s121, s122, s123, s124, s125, s126, s127, s128, s129, s130, s131, s132, s133, s134, s135, s136, s137, s138, s139, s140, s141, s142, s143, s144, s145, s146, s147, s148, s149, s150, s151, s152, s153, s154, s155, s156, t157, t158, t159, t160, t161, t162, t163, t164, t165, t166, t167, t168, t169, t170, t171, t172, s173, s174, s175, s176, s177, s178, s179, s180, s181, s182, s183, s184, s185, s186, s187, s188, s189, s190, s191], []⟩ w') :
    Code.wp Tryf.prog ((Tryf.f3.body.bind (codeFrom 36)).getD .skip) Q ⟨#[s0, s1, .slice (some ⟨b, off, none⟩) n c, s3, s4, s5, s6, s7, s8, s9, s10, s11, s12, s13, s14, s15, s16, s17, .int .i64 i, s19, s20, s21, .int .i64 j, .int .u16 x0, s24, s25, s26, s27, s28, s29, s30, s31, s32, s33, s34, s35, s36, s37, s38, s39, s40, s41, s42, s43, s44, s45, s46, s47, s48, s49, s50, s51, s52, s53, s54, s55, s56, s57, s58, s59, s60, s61, s62, s63, s64, s65, s66, s67, s68, s69, s70, s71, s72, s73, s74, s75, s76, s77, s78, s79, s80, s81, s82, s83, s84, s85, s86, s87, s88, s89, s90, s91, s92, s93, s94, s95, s96, s97, s98, s99, s100, s101, s102, s103, s104, s105, s106, s107, s108, s109, s110, s111, s112, s113, s114, s115, s116, s117, s118, s119, s120, s121, s122, s123, s124, s125, s126, s127, s128, s129, s130, s131, s132, s133, s134, s135, s136, s137, s138, s139, s140, s141, s142, s143, s144, s145, s146, s147, s148, s149, s150, s151, s152, s153, s154, s155, s156, s157, s158, s159, s160, s161, s162, s163, s164, s165, s166, s167, s168, s169, s170, s171, s172, s173, s174, s175, s176, s177, s178, s179, s180, s181, s182, s183, s184, s185, s186, s187, s188, s189, s190, s191], []⟩ w := by
  have HZ := hid hz
  have HX := hid hzx
  clear hz hzx
  have j0 : ¬ ((i : Int) < 0) := by omega
  have j1 : (i : Int) < (n : Int) := by omega
  dsimp only
  conv => arg 2; whnf
  refine wp_seq_k fun K1 h1 => ?_
  have k1 := hid h1
  clear h1
  go_wp2_with fail
  go_loopw [24] (fun v wr => ∃ k : Nat, k ≤ j ∧ v = .int .i64 k ∧ wr = w) (fun v _ => j - (intOf v).toNat)
  case atStart => exact ⟨0, Nat.zero_le _, rfl, rfl⟩
  case round =>
    obtain ⟨k, hk, rfl, rfl⟩ := hrel
    by_cases hk' : k < j
    · have q1 : (k : Int) < (j : Int) := by omega
      have q2 : ¬ ((k : Int) < 0) := by omega
      have q3 : (k : Int) < (ln : Int) := by omega
      have z1 := HZ.out k hk'
      have z2 : ¬ (sv k ≤ x0) := by have := HX.out k hk'; omega
      go_wp2_with fail
      go_roundw
      case rel => exact ⟨k + 1, by omega, by go_num, trivial⟩
      case measure => simp [intOf]; omega
    · have q1 : ¬ ((k : Int) < (j : Int)) := by omega
      go_wp2_with fail
      exact k1.out _ _ (H _ _ _ _ _ _ _ _ _ _ _ _ _ _ _ _ _ _ _ rfl)
set_option linter.unusedVariables false in
set_option maxRecDepth 1000000 in
set_option maxHeartbeats 8000000 in
theorem t41 (n M g i j j2 ln lc2 B : Nat) (w0 w : World)
    (hin : i < n) (hn : n ≤ 9223372036854775806) (hj : j2 < ln) (hjj : j2 ≤ j) (hl : ln ≤ 9223372036854775806) (hM : w.cell? ⟨M, i * 66 + 65, none⟩ = some (.slice (some ⟨g, 0, none⟩) ln lc2)) (hB : Below B w0 w)
    {s0 s1 s2 s3 s4 s5 s6 s7 s8 s10 s11 s12 s13 s16 s17 s19 s20 s23 s24 s25 s26 s27 s28 s29 s30 s31 s32 s33 s34 s35 s36 s37 s38 s39 s40 s41 s42 s43 s44 s45 s46 s47 s48 s49 s50 s51 s52 s53 s54 s55 s56 s57 s58 s59 s60 s61 s62 s63 s64 s65 s66 s67 s68 s69 s70 s71 s72 s73 s74 s75 s76 s77 s78 s79 s80 s81 s82 s83 s84 s85 s86 s87 s88 s89 s90 s91 s92 s93 s94 s95 s96 s97 s98 s99 s100 s101 s102 s103 s104 s105 s106 s107 s108 s109 s110 s111 s112 s113 s114 s115 s116 s117 s118 s119 s120 s121 s122 s123 s124 s125 s126 s127 s128 s129 s130 s131 s132 s133 s134 s135 s136 s137 s138 s139 s140 s141 s142 s143 s144 s145 s146 s147 s148 s149 s150 s151 s152 s153 s154 s155 s156 s157 s158 s159 s160 s161 s162 s163 s164 s165 s166 s167 s168 s169 s170 s171 s172 s173 s174 s175 s176 s177 s178 s179 s180 s181 s182 s183 s184 s185 s186 s187 s188 s189 s190 s191 : Value} :
    Code.wp Tryf.prog ((Tryf.f3.body.bind (codeFrom 41)).getD .skip) (bodyPost Tryf.prog Tryf.f3 fun e w' => e = .returned (.bool true) ∧ Below B w0 w') ⟨#[s0, s1, s2, s3, s4, s5, s6, s7, s8, .slice (some ⟨M, 0, none⟩) n n, s10, s11, s12, s13, .pointer (some ⟨g, j2 * 3 + 1, none⟩), .nilIface, s16, s17, .int .i64 i, s19, s20, .int .i64 ln, .int .i64 j, s23, s24, s25, s26, s27, s28, s29, s30, s31, s32, s33, s34, s35, s36, s37, s38, s39, s40, s41, s42, s43, s44, s45, s46, s47, s48, s49, s50, s51, s52, s53, s54, s55, s56, s57, s58, s59, s60, s61, s62, s63, s64, s65, s66, s67, s68, s69, s70, s71, s72, s73, s74, s75, s76, s77, s78, s79, s80, s81, s82, s83, s84, s85, s86, s87, s88, s89, s90, s91, s92, s93, s94, s95, s96, s97, s98, s99, s100, s101, s102, s103, s104, s105, s106, s107, s108, s109, s110, s111, s112, s113, s114, s115, s116, s117, s118, s119, s120, s121, s122, s123, s124, s125, s126, s127, s128, s129, s130, s131, s132, s133, s134, s135, s136, s137, s138, s139, s140, s141, s142, s143, s144, s145, s146, s147, s148, s149, s150, s151, s152, s153, s154, s155, s156, s157, s158, s159, s160, s161, s162, s163, s164, s165, s166, s167, s168, s169, s170, s171, s172, s173, s174, s175, s176, s177, s178, s179, s180, s181, s182, s183, s184, s185, s186, s187, s188, s189, s190, s191], []⟩ w := by
  have HM := hid hM
  clear hM
  have j0 : ¬ ((i : Int) < 0) := by omega
  have j1 : (i : Int) < (n : Int) := by omega
  have j4 : (0 : Int) ≤ (j2 : Int) := by omega
  have j5 : (j2 : Int) ≤ (j : Int) := by omega
  dsimp only
  conv => arg 2; whnf
  refine wp_seq_k fun K1 h1 => ?_
  have k1 := hid h1
  clear h1
  go_wp2_with fail
  refine k1.out _ _ ?_
  refine wp_seq_k fun K2 h2 => ?_
  have k2 := hid h2
  clear h2
  go_wp2_with (go_at_call 14; refine (levelIndex_any M (i * 66) g ln lc2 j2 _ HM.out hj hl).mono ?_; rintro e w5 ⟨rfl, rfl⟩)
  refine k2.out _ _ ?_
  go_wp2
  go_ret
  exact ⟨rfl, hB⟩
end Go.Proofs.Qxb6609499aFmt
