/-
  The law's regions 15 to 21, one declaration a case.
-/
import Derived.Test.Qxb6609499aFmtTailA
import Derived.Laws.CopyOwn
namespace Go.Proofs.Qxb6609499aFmt
open Go.RowKit Go.Extern.Stop Go.Stop Go.Extern
theorem find_at {ms : Nat → ModV} {n i : Nat} {r x1 : Int} {nm : ByteArray} (h : FirstIx (fun i => ((ms i).id.toList == nm.toList) = true) n r) (hnm : nm.data.toList = tdxName x1) (hi : i < n) (h1 : (ms i).id.data.toList = tdxName x1) (h2 : ∀ k, k < i → (ms k).id.data.toList ≠ tdxName x1) : r = i := by
  rcases h with ⟨j, rfl, hj, hp, hno⟩ | ⟨rfl, hno⟩
  · have hp' : (ms j).id.data.toList = tdxName x1 := ((beq_data _ _).1 hp).trans hnm
    rcases Nat.lt_trichotomy j i with hl | hl | hl
    · exact absurd hp' (h2 j hl)
    · rw [hl]
    · exact absurd ((beq_data _ _).2 (h1.trans hnm.symm)) (hno i hl)
  · exact absurd ((beq_data _ _).2 (h1.trans hnm.symm)) (hno i hi)
theorem find_no {ms : Nat → ModV} {n : Nat} {r x1 : Int} {nm : ByteArray} (h : FirstIx (fun i => ((ms i).id.toList == nm.toList) = true) n r) (hnm : nm.data.toList = tdxName x1) (h2 : ∀ k, k < n → (ms k).id.data.toList ≠ tdxName x1) : r = -1 := by
  rcases h with ⟨j, rfl, hj, hp, hno⟩ | ⟨rfl, hno⟩
  · exact absurd (((beq_data _ _).1 hp).trans hnm) (h2 j hj)
  · rfl
set_option linter.unusedVariables false in
set_option maxRecDepth 1000000 in
set_option maxHeartbeats 8000000 in
theorem t15_zero (a : Option Addr) (n c U V : Nat) (w : World)
    (V1 : w.cell? ⟨V, 1, none⟩ = some (.int .u8 0))
    {s0 s1 s3 s4 s5 s6 s7 s8 s9 s10 s11 s12 s13 s14 s15 s18 s19 s20 s21 s22 s23 s24 s25 s26 s27 s28 s29 s30 s31 s32 s33 s34 s35 s36 s37 s38 s39 s40 s41 s42 s43 s44 s45 s46 s47 s48 s49 s50 s51 s52 s53 s54 s55 s56 s57 s58 s59 s60 s61 s62 s63 s64 s65 s66 s67 s68 s69 s70 s71 s72 s73 s74 s75 s76 s77 s78 s79 s80 s81 s82 s83 s84 s85 s86 s87 s88 s89 s90 s91 s92 s93 s94 s95 s96 s97 s98 s99 s100 s101 s102 s103 s104 s105 s106 s107 s108 s109 s110 s111 s112 s113 s114 s115 s116 s117 s118 s119 s120 s121 s122 s123 s124 s125 s126 s127 s128 s129 s130 s131 s132 s133 s134 s135 s136 s137 s138 s139 s140 s141 s142 s143 s144 s145 s146 s147 s148 s149 s150 s151 s152 s153 s154 s155 s156 s157 s158 s159 s160 s161 s162 s163 s164 s165 s166 s167 s168 s169 s170 s171 s172 s173 s174 s175 s176 s177 s178 s179 s180 s181 s182 s183 s184 s185 s186 s187 s188 s189 s190 s191 : Value} {Q : Exit → Act → World → Prop}
    (H : ∀ t68 t69 t70 t71 t72 t73 t74 t75 t76 t77 t78 t79 t80 t81 w', w' = w → Code.wp Tryf.prog ((Tryf.f3.body.bind (codeFrom 22)).getD .skip) Q ⟨#[s0, s1, .slice a n c, s3, s4, s5, s6, s7, s8, s9, s10, s11, s12, s13, s14, s15, .pointer (some ⟨V, 0, none⟩), .pointer (some ⟨U, 0, none⟩), .int .i64 (-1), .bool true, s20, s21, s22, s23, s24, s25, s26, s27, s28, s29, s30, s31, s32, s33, s34, s35, s36, s37, s38, s39, s40, s41, s42, s43, s44, s45, s46, s47, s48, s49, s50, s51, s52, s53, s54, s55, s56, s57, s58, s59, s60, s61, s62, s63, s64, s65, s66, s67, t68, t69, t70, t71, t72, t73, t74, t75, t76, t77, t78, t79, t80, t81, s82, s83, s84, s85, s86, s87, s88, s89, s90, s91, s92, s93, s94, s95, s96, s97, s98, s99, s100, s101, s102, s103, s104, s105, s106, s107, s108, s109, s110, s111, s112, s113, s114, s115, s116, s117, s118, s119, s120, s121, s122, s123, s124, s125, s126, s127, s128, s129, s130, s131, s132, s133, s134, s135, s136, s137, s138, s139, s140, s141, s142, s143, s144, s145, s146, s147, s148, s149, s150, s151, s152, s153, s154, s155, s156, s157, s158, s159, s160, s161, s162, s163, s164, s165, s166, s167, s168, s169, s170, s171, s172, s173, s174, s175, s176, s177, s178, s179, s180, s181, s182, s183, s184, s185, s186, s187, s188, s189, s190, s191], []⟩ w') :
    Code.wp Tryf.prog ((Tryf.f3.body.bind (codeFrom 15)).getD .skip) Q ⟨#[s0, s1, .slice a n c, s3, s4, s5, s6, s7, s8, s9, s10, s11, s12, s13, s14, s15, .pointer (some ⟨V, 0, none⟩), .pointer (some ⟨U, 0, none⟩), s18, s19, s20, s21, s22, s23, s24, s25, s26, s27, s28, s29, s30, s31, s32, s33, s34, s35, s36, s37, s38, s39, s40, s41, s42, s43, s44, s45, s46, s47, s48, s49, s50, s51, s52, s53, s54, s55, s56, s57, s58, s59, s60, s61, s62, s63, s64, s65, s66, s67, s68, s69, s70, s71, s72, s73, s74, s75, s76, s77, s78, s79, s80, s81, s82, s83, s84, s85, s86, s87, s88, s89, s90, s91, s92, s93, s94, s95, s96, s97, s98, s99, s100, s101, s102, s103, s104, s105, s106, s107, s108, s109, s110, s111, s112, s113, s114, s115, s116, s117, s118, s119, s120, s121, s122, s123, s124, s125, s126, s127, s128, s129, s130, s131, s132, s133, s134, s135, s136, s137, s138, s139, s140, s141, s142, s143, s144, s145, s146, s147, s148, s149, s150, s151, s152, s153, s154, s155, s156, s157, s158, s159, s160, s161, s162, s163, s164, s165, s166, s167, s168, s169, s170, s171, s172, s173, s174, s175, s176, s177, s178, s179, s180, s181, s182, s183, s184, s185, s186, s187, s188, s189, s190, s191], []⟩ w := by
  dsimp only
  conv => arg 2; whnf
  refine wp_seq_k fun K1 h1 => ?_
  have k1 := hid h1
  clear h1
  go_wp2_with fail
  refine k1.out _ _ ?_
  refine wp_seq_k fun K2 h2 => ?_
  have k2 := hid h2
  clear h2
  go_wp2_with fail
  refine k2.out _ _ ?_
  refine wp_seq_k fun K3 h3 => ?_
  have k3 := hid h3
  clear h3
  go_wp2_with fail
  exact k3.out _ _ (H _ _ _ _ _ _ _ _ _ _ _ _ _ _ _ rfl)
set_option linter.unusedVariables false in
set_option maxRecDepth 1000000 in
set_option maxHeartbeats 8000000 in
theorem t15_none (a : Option Addr) (n c U V : Nat) (x1 : Int) (ms : Nat → ModV) (svns : Nat → Nat → Int) (w : World)
    (V1 : w.cell? ⟨V, 1, none⟩ = some (.int .u8 x1)) (hx : x1 ≠ 0) (x1b : 0 ≤ x1 ∧ x1 ≤ 255) (hi : IdsAt w a n ms svns) (hno : ∀ k, k < n → (ms k).id.data.toList ≠ tdxName x1)
    {s0 s1 s3 s4 s5 s6 s7 s8 s9 s10 s11 s12 s13 s14 s15 s18 s19 s20 s21 s22 s23 s24 s25 s26 s27 s28 s29 s30 s31 s32 s33 s34 s35 s36 s37 s38 s39 s40 s41 s42 s43 s44 s45 s46 s47 s48 s49 s50 s51 s52 s53 s54 s55 s56 s57 s58 s59 s60 s61 s62 s63 s64 s65 s66 s67 s68 s69 s70 s71 s72 s73 s74 s75 s76 s77 s78 s79 s80 s81 s82 s83 s84 s85 s86 s87 s88 s89 s90 s91 s92 s93 s94 s95 s96 s97 s98 s99 s100 s101 s102 s103 s104 s105 s106 s107 s108 s109 s110 s111 s112 s113 s114 s115 s116 s117 s118 s119 s120 s121 s122 s123 s124 s125 s126 s127 s128 s129 s130 s131 s132 s133 s134 s135 s136 s137 s138 s139 s140 s141 s142 s143 s144 s145 s146 s147 s148 s149 s150 s151 s152 s153 s154 s155 s156 s157 s158 s159 s160 s161 s162 s163 s164 s165 s166 s167 s168 s169 s170 s171 s172 s173 s174 s175 s176 s177 s178 s179 s180 s181 s182 s183 s184 s185 s186 s187 s188 s189 s190 s191 : Value} {Q : Exit → Act → World → Prop}
    (H : ∀ t68 t69 t70 t71 t72 t73 t74 t75 t76 t77 t78 t79 t80 t81 w', Below w.heap.size w w' → Code.wp Tryf.prog ((Tryf.f3.body.bind (codeFrom 22)).getD .skip) Q ⟨#[s0, s1, .slice a n c, s3, s4, s5, s6, s7, s8, s9, s10, s11, s12, s13, s14, s15, .pointer (some ⟨V, 0, none⟩), .pointer (some ⟨U, 0, none⟩), .int .i64 (-1), .bool false, s20, s21, s22, s23, s24, s25, s26, s27, s28, s29, s30, s31, s32, s33, s34, s35, s36, s37, s38, s39, s40, s41, s42, s43, s44, s45, s46, s47, s48, s49, s50, s51, s52, s53, s54, s55, s56, s57, s58, s59, s60, s61, s62, s63, s64, s65, s66, s67, t68, t69, t70, t71, t72, t73, t74, t75, t76, t77, t78, t79, t80, t81, s82, s83, s84, s85, s86, s87, s88, s89, s90, s91, s92, s93, s94, s95, s96, s97, s98, s99, s100, s101, s102, s103, s104, s105, s106, s107, s108, s109, s110, s111, s112, s113, s114, s115, s116, s117, s118, s119, s120, s121, s122, s123, s124, s125, s126, s127, s128, s129, s130, s131, s132, s133, s134, s135, s136, s137, s138, s139, s140, s141, s142, s143, s144, s145, s146, s147, s148, s149, s150, s151, s152, s153, s154, s155, s156, s157, s158, s159, s160, s161, s162, s163, s164, s165, s166, s167, s168, s169, s170, s171, s172, s173, s174, s175, s176, s177, s178, s179, s180, s181, s182, s183, s184, s185, s186, s187, s188, s189, s190, s191], []⟩ w') :
    Code.wp Tryf.prog ((Tryf.f3.body.bind (codeFrom 15)).getD .skip) Q ⟨#[s0, s1, .slice a n c, s3, s4, s5, s6, s7, s8, s9, s10, s11, s12, s13, s14, s15, .pointer (some ⟨V, 0, none⟩), .pointer (some ⟨U, 0, none⟩), s18, s19, s20, s21, s22, s23, s24, s25, s26, s27, s28, s29, s30, s31, s32, s33, s34, s35, s36, s37, s38, s39, s40, s41, s42, s43, s44, s45, s46, s47, s48, s49, s50, s51, s52, s53, s54, s55, s56, s57, s58, s59, s60, s61, s62, s63, s64, s65, s66, s67, s68, s69, s70, s71, s72, s73, s74, s75, s76, s77, s78, s79, s80, s81, s82, s83, s84, s85, s86, s87, s88, s89, s90, s91, s92, s93, s94, s95, s96, s97, s98, s99, s100, s101, s102, s103, s104, s105, s106, s107, s108, s109, s110, s111, s112, s113, s114, s115, s116, s117, s118, s119, s120, s121, s122, s123, s124, s125, s126, s127, s128, s129, s130, s131, s132, s133, s134, s135, s136, s137, s138, s139, s140, s141, s142, s143, s144, s145, s146, s147, s148, s149, s150, s151, s152, s153, s154, s155, s156, s157, s158, s159, s160, s161, s162, s163, s164, s165, s166, s167, s168, s169, s170, s171, s172, s173, s174, s175, s176, s177, s178, s179, s180, s181, s182, s183, s184, s185, s186, s187, s188, s189, s190, s191], []⟩ w := by
  have hx' : (x1 != 0) = true := by simp [hx]
  have hx'' : (x1 == 0) = false := by simp [hx]
  have HX := hid hx
  clear hx
  dsimp only
  conv => arg 2; whnf
  refine wp_seq_k fun K1 h1 => ?_
  have k1 := hid h1
  clear h1
  go_wp2_with fail
  refine k1.out _ _ ?_
  refine wp_seq_k fun K2 h2 => ?_
  have k2 := hid h2
  clear h2
  go_wp2_with fail
  refine k2.out _ _ ?_
  refine wp_seq_k fun K3 h3 => ?_
  have k3 := hid h3
  clear h3
  go_upto_region 19 with (first
    | (go_at_call 12; refine (name_any x1 x1b.1 x1b.2 _).mono ?_; rintro e w15 ⟨nm, hnm, rfl, b15⟩)
    | (go_at_call 11; refine (find_any _ n c ms svns nm _ (hi.below b15)).mono ?_; rintro e w16 ⟨r, rfl, hr, rfl⟩))
  have hri := find_no hr hnm hno
  subst hri
  clear hr hnm hno
  go_wp2_with fail
  exact k3.out _ _ (H _ _ _ _ _ _ _ _ _ _ _ _ _ _ _ b15)
set_option linter.unusedVariables false in
set_option maxRecDepth 1000000 in
set_option maxHeartbeats 8000000 in
theorem t15_at (a : Option Addr) (n c U V : Nat) (x1 : Int) (ms : Nat → ModV) (svns : Nat → Nat → Int) (w : World) (i : Nat) (cs : Array Value)
    (V1 : w.cell? ⟨V, 1, none⟩ = some (.int .u8 x1)) (hx : x1 ≠ 0) (x1b : 0 ≤ x1 ∧ x1 ≤ 255) (hi : IdsAt w a n ms svns) (hU : U < w.heap.size) (hhp : w.heap[U]? = some (.cells cs 31)) (hcs : cs.size = 66) (hin : i < n) (hid1 : (ms i).id.data.toList = tdxName x1) (hid2 : ∀ k, k < i → (ms k).id.data.toList ≠ tdxName x1)
    {s0 s1 s3 s4 s5 s6 s7 s8 s9 s10 s11 s12 s13 s14 s15 s18 s19 s20 s21 s22 s23 s24 s25 s26 s27 s28 s29 s30 s31 s32 s33 s34 s35 s36 s37 s38 s39 s40 s41 s42 s43 s44 s45 s46 s47 s48 s49 s50 s51 s52 s53 s54 s55 s56 s57 s58 s59 s60 s61 s62 s63 s64 s65 s66 s67 s68 s69 s70 s71 s72 s73 s74 s75 s76 s77 s78 s79 s80 s81 s82 s83 s84 s85 s86 s87 s88 s89 s90 s91 s92 s93 s94 s95 s96 s97 s98 s99 s100 s101 s102 s103 s104 s105 s106 s107 s108 s109 s110 s111 s112 s113 s114 s115 s116 s117 s118 s119 s120 s121 s122 s123 s124 s125 s126 s127 s128 s129 s130 s131 s132 s133 s134 s135 s136 s137 s138 s139 s140 s141 s142 s143 s144 s145 s146 s147 s148 s149 s150 s151 s152 s153 s154 s155 s156 s157 s158 s159 s160 s161 s162 s163 s164 s165 s166 s167 s168 s169 s170 s171 s172 s173 s174 s175 s176 s177 s178 s179 s180 s181 s182 s183 s184 s185 s186 s187 s188 s189 s190 s191 : Value} {Q : Exit → Act → World → Prop}
    (H : ∀ t68 t69 t70 t71 t72 t73 t74 t75 t76 t77 t78 t79 t80 t81 w', Below U w w' ∧ w'.rangeAt U 0 (ms i).cells ∧ U < w'.heap.size → Code.wp Tryf.prog ((Tryf.f3.body.bind (codeFrom 22)).getD .skip) Q ⟨#[s0, s1, .slice a n c, s3, s4, s5, s6, s7, s8, s9, s10, s11, s12, s13, s14, s15, .pointer (some ⟨V, 0, none⟩), .pointer (some ⟨U, 0, none⟩), .int .i64 i, .bool true, s20, s21, s22, s23, s24, s25, s26, s27, s28, s29, s30, s31, s32, s33, s34, s35, s36, s37, s38, s39, s40, s41, s42, s43, s44, s45, s46, s47, s48, s49, s50, s51, s52, s53, s54, s55, s56, s57, s58, s59, s60, s61, s62, s63, s64, s65, s66, s67, t68, t69, t70, t71, t72, t73, t74, t75, t76, t77, t78, t79, t80, t81, s82, s83, s84, s85, s86, s87, s88, s89, s90, s91, s92, s93, s94, s95, s96, s97, s98, s99, s100, s101, s102, s103, s104, s105, s106, s107, s108, s109, s110, s111, s112, s113, s114, s115, s116, s117, s118, s119, s120, s121, s122, s123, s124, s125, s126, s127, s128, s129, s130, s131, s132, s133, s134, s135, s136, s137, s138, s139, s140, s141, s142, s143, s144, s145, s146, s147, s148, s149, s150, s151, s152, s153, s154, s155, s156, s157, s158, s159, s160, s161, s162, s163, s164, s165, s166, s167, s168, s169, s170, s171, s172, s173, s174, s175, s176, s177, s178, s179, s180, s181, s182, s183, s184, s185, s186, s187, s188, s189, s190, s191], []⟩ w') :
    Code.wp Tryf.prog ((Tryf.f3.body.bind (codeFrom 15)).getD .skip) Q ⟨#[s0, s1, .slice a n c, s3, s4, s5, s6, s7, s8, s9, s10, s11, s12, s13, s14, s15, .pointer (some ⟨V, 0, none⟩), .pointer (some ⟨U, 0, none⟩), s18, s19, s20, s21, s22, s23, s24, s25, s26, s27, s28, s29, s30, s31, s32, s33, s34, s35, s36, s37, s38, s39, s40, s41, s42, s43, s44, s45, s46, s47, s48, s49, s50, s51, s52, s53, s54, s55, s56, s57, s58, s59, s60, s61, s62, s63, s64, s65, s66, s67, s68, s69, s70, s71, s72, s73, s74, s75, s76, s77, s78, s79, s80, s81, s82, s83, s84, s85, s86, s87, s88, s89, s90, s91, s92, s93, s94, s95, s96, s97, s98, s99, s100, s101, s102, s103, s104, s105, s106, s107, s108, s109, s110, s111, s112, s113, s114, s115, s116, s117, s118, s119, s120, s121, s122, s123, s124, s125, s126, s127, s128, s129, s130, s131, s132, s133, s134, s135, s136, s137, s138, s139, s140, s141, s142, s143, s144, s145, s146, s147, s148, s149, s150, s151, s152, s153, s154, s155, s156, s157, s158, s159, s160, s161, s162, s163, s164, s165, s166, s167, s168, s169, s170, s171, s172, s173, s174, s175, s176, s177, s178, s179, s180, s181, s182, s183, s184, s185, s186, s187, s188, s189, s190, s191], []⟩ w := by
  have hn := hi.1
  obtain ⟨b, off, rfl, hbl, hmo, hmr, hlv⟩ := hi.2 i hin
  have hx' : (x1 != 0) = true := by simp [hx]
  have hx'' : (x1 == 0) = false := by simp [hx]
  have HX := hid hx
  clear hx
  dsimp only
  conv => arg 2; whnf
  refine wp_seq_k fun K1 h1 => ?_
  have k1 := hid h1
  clear h1
  go_wp2_with fail
  refine k1.out _ _ ?_
  refine wp_seq_k fun K2 h2 => ?_
  have k2 := hid h2
  clear h2
  go_wp2_with fail
  refine k2.out _ _ ?_
  refine wp_seq_k fun K3 h3 => ?_
  have k3 := hid h3
  clear h3
  go_upto_region 19 with (first
    | (go_at_call 12; refine (name_any x1 x1b.1 x1b.2 _).mono ?_; rintro e w15 ⟨nm, hnm, rfl, b15⟩)
    | (go_at_call 11; refine (find_any _ n c ms svns nm _ (hi.below b15)).mono ?_; rintro e w16 ⟨r, rfl, hr, rfl⟩))
  have hri := find_at hr hnm hin hid1 hid2
  subst hri
  have j0 : ¬ ((i : Int) < 0) := by omega
  have j1 : (i : Int) < (n : Int) := by omega
  have M15 := hid (rangeAt_below hmr b15 hbl)
  have hp15 := hid ((b15.block U hU).trans hhp)
  have Zi := size31_of hmo
  have Zi' : (Tryf.prog.info? 31).map (·.size) = some (ms i).cells.toArray.size := by rw [List.size_toArray]; exact Zi
  have oi : Hid (∀ v ∈ (ms i).cells.toArray.toList, v.oneCell' = true) := by show ∀ v ∈ (ms i).cells.toArray.toList, v.oneCell' = true; simpa using ModV.one (ms i)
  have Lz : Hid (cs.size = (ms i).cells.toArray.size) := by show cs.size = (ms i).cells.toArray.size; exact hcs.trans (by rw [List.size_toArray, ModV.length hmo])
  clear hr hnm hid1 hid2 hhp
  go_wp2_with (first
    | (refine wpList_load_mid rfl 31 (.tmp 80) rfl b (off + i * 66) rfl (ms i).cells _ (by exact M15.out) Tryf.underlying31 rfl Zi ?_; simp only [Act.put, List.setIfInBounds_toArray, List.set_cons_zero, List.set_cons_succ])
    | (refine wpList_store_row rfl 31 (.tmp 17) (.tmp 81) rfl U (ms i).cells.toArray cs 31 rfl rfl hp15.out Lz.out Zi' oi.out ?_))
  have b16 : Below U w (w15.setRow U (ms i).cells.toArray) := below_setRow (b15.mono (Nat.le_of_lt hU)) (Nat.le_refl _) _
  have RW16 : (w15.setRow U (ms i).cells.toArray).rangeAt U 0 (ms i).cells := fun j v hv => by
    rw [cell_setRow_same _ _ _ _ _ _ _ hp15.out]; simpa using hv
  have s16 : U < (w15.setRow U (ms i).cells.toArray).heap.size := by rw [setRow_size]; exact Nat.lt_of_lt_of_le hU b15.size
  exact k3.out _ _ (H _ _ _ _ _ _ _ _ _ _ _ _ _ _ _ ⟨b16, RW16, s16⟩)
end Go.Proofs.Qxb6609499aFmt
