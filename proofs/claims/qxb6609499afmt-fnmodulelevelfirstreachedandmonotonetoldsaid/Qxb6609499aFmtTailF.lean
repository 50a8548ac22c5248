/-
  The law's regions 13 and 14.
-/
import Derived.Test.Qxb6609499aFmtTailA
namespace Go.Proofs.Qxb6609499aFmt
open Go.RowKit Go.Extern.Stop Go.Stop Go.Extern
theorem Tryf.zero31 : (Tryf.prog.info? 31).map (fun i => i.zero.map (fun z => z.cells.size)) = some (some 66) := by kernel_rfl
set_option linter.unusedVariables false in
set_option maxRecDepth 1000000 in
set_option maxHeartbeats 8000000 in
theorem t13 (R S : Nat) (svn : List Int) (base : ModV) (w : World)
    (hsv : Byt svn 16) (hb : base.ok) (hRV : w.rangeAt R 0 (B8 svn)) (hRB : w.rangeAt S 0 base.cells)
    {s0 s1 s2 s3 s6 s7 s8 s9 s10 s11 s12 s13 s14 s15 s16 s17 s18 s19 s20 s21 s22 s23 s24 s25 s26 s27 s28 s29 s30 s31 s32 s33 s34 s35 s36 s37 s38 s39 s40 s41 s42 s43 s44 s45 s46 s47 s48 s49 s50 s51 s52 s53 s54 s55 s56 s57 s58 s59 s60 s61 s62 s63 s64 s65 s66 s67 s68 s69 s70 s71 s72 s73 s74 s75 s76 s77 s78 s79 s80 s81 s82 s83 s84 s85 s86 s87 s88 s89 s90 s91 s92 s93 s94 s95 s96 s97 s98 s99 s100 s101 s102 s103 s104 s105 s106 s107 s108 s109 s110 s111 s112 s113 s114 s115 s116 s117 s118 s119 s120 s121 s122 s123 s124 s125 s126 s127 s128 s129 s130 s131 s132 s133 s134 s135 s136 s137 s138 s139 s140 s141 s142 s143 s144 s145 s146 s147 s148 s149 s150 s151 s152 s153 s154 s155 s156 s157 s158 s159 s160 s161 s162 s163 s164 s165 s166 s167 s168 s169 s170 s171 s172 s173 s174 s175 s176 s177 s178 s179 s180 s181 s182 s183 s184 s185 s186 s187 s188 s189 s190 s191 : Value} {Q : Exit → Act → World → Prop}
    (H : ∀ t65 t66 t67 V U w', V = w.heap.size → U = w.heap.size + 1 → w' = (w.alloc (.cells (B8 svn).toArray 22)).alloc (.cells base.cells.toArray 31) → Code.wp Tryf.prog ((Tryf.f3.body.bind (codeFrom 15)).getD .skip) Q ⟨#[s0, s1, s2, s3, .pointer (some ⟨R, 0, none⟩), .pointer (some ⟨S, 0, none⟩), s6, s7, s8, s9, s10, s11, s12, s13, s14, s15, .pointer (some ⟨V, 0, none⟩), .pointer (some ⟨U, 0, none⟩), s18, s19, s20, s21, s22, s23, s24, s25, s26, s27, s28, s29, s30, s31, s32, s33, s34, s35, s36, s37, s38, s39, s40, s41, s42, s43, s44, s45, s46, s47, s48, s49, s50, s51, s52, s53, s54, s55, s56, s57, s58, s59, s60, s61, s62, s63, s64, t65, t66, t67, s68, s69, s70, s71, s72, s73, s74, s75, s76, s77, s78, s79, s80, s81, s82, s83, s84, s85, s86, s87, s88, s89, s90, s91, s92, s93, s94, s95, s96, s97, s98, s99, s100, s101, s102, s103, s104, s105, s106, s107, s108, s109, s110, s111, s112, s113, s114, s115, s116, s117, s118, s119, s120, s121, s122, s123, s124, s125, s126, s127, s128, s129, s130, s131, s132, s133, s134, s135, s136, s137, s138, s139, s140, s141, s142, s143, s144, s145, s146, s147, s148, s149, s150, s151, s152, s153, s154, s155, s156, s157, s158, s159, s160, s161, s162, s163, s164, s165, s166, s167, s168, s169, s170, s171, s172, s173, s174, s175, s176, s177, s178, s179, s180, s181, s182, s183, s184, s185, s186, s187, s188, s189, s190, s191], []⟩ w') :
    Code.wp Tryf.prog ((Tryf.f3.body.bind (codeFrom 13)).getD .skip) Q ⟨#[s0, s1, s2, s3, .pointer (some ⟨R, 0, none⟩), .pointer (some ⟨S, 0, none⟩), s6, s7, s8, s9, s10, s11, s12, s13, s14, s15, s16, s17, s18, s19, s20, s21, s22, s23, s24, s25, s26, s27, s28, s29, s30, s31, s32, s33, s34, s35, s36, s37, s38, s39, s40, s41, s42, s43, s44, s45, s46, s47, s48, s49, s50, s51, s52, s53, s54, s55, s56, s57, s58, s59, s60, s61, s62, s63, s64, s65, s66, s67, s68, s69, s70, s71, s72, s73, s74, s75, s76, s77, s78, s79, s80, s81, s82, s83, s84, s85, s86, s87, s88, s89, s90, s91, s92, s93, s94, s95, s96, s97, s98, s99, s100, s101, s102, s103, s104, s105, s106, s107, s108, s109, s110, s111, s112, s113, s114, s115, s116, s117, s118, s119, s120, s121, s122, s123, s124, s125, s126, s127, s128, s129, s130, s131, s132, s133, s134, s135, s136, s137, s138, s139, s140, s141, s142, s143, s144, s145, s146, s147, s148, s149, s150, s151, s152, s153, s154, s155, s156, s157, s158, s159, s160, s161, s162, s163, s164, s165, s166, s167, s168, s169, s170, s171, s172, s173, s174, s175, s176, s177, s178, s179, s180, s181, s182, s183, s184, s185, s186, s187, s188, s189, s190, s191], []⟩ w := by
  have RV := hid hRV
  have RB := hid hRB
  have z22 : (Tryf.prog.info? 22).map (·.size) = some (B8 svn).toArray.size := by rw [List.size_toArray, B8_length, hsv.1]; exact Tryf.size22
  have z22' : (Tryf.prog.info? 22).map (·.size) = some (B8 svn).length := by rw [B8_length, hsv.1]; exact Tryf.size22
  have o22 : ∀ v ∈ (B8 svn).toArray.toList, v.oneCell' = true := by simpa using B8_one svn
  have L16 : Hid ((16 : Nat) = (B8 svn).toArray.size) := by rw [List.size_toArray, B8_length, hsv.1]; rfl
  have o31 : Hid (∀ v ∈ base.cells.toArray.toList, v.oneCell' = true) := by show ∀ v ∈ base.cells.toArray.toList, v.oneCell' = true; simpa using ModV.one base
  have L66 : Hid ((66 : Nat) = base.cells.toArray.size) := by rw [List.size_toArray, ModV.length hb]; rfl
  have Z31 := size31_of hb
  have z31 : (Tryf.prog.info? 31).map (·.size) = some base.cells.toArray.size := by rw [List.size_toArray]; exact Z31
  have b13 : Below w.heap.size w (w.alloc (.cells (B8 svn).toArray 22)) := (Below.refl _ _).alloc (Nat.le_refl _) _
  have RB13 := hid (rangeAt_below hRB b13 (World.block_lt_of_cell? _ _ (ModV.id_at hRB)))
  have s13 : (w.alloc (.cells (B8 svn).toArray 22)).heap.size = w.heap.size + 1 := by simp
  clear hRV hRB
  dsimp only
  conv => arg 2; whnf
  refine wp_seq_k fun K1 h1 => ?_
  have k1 := hid h1
  clear h1
  go_wp2_with (first
    | (refine wpList_load_mid rfl 22 (.tmp 65) rfl R 0 rfl (B8 svn) _ (by exact RV.out) Tryf.underlying22 rfl z22' ?_; simp only [Act.put, List.setIfInBounds_toArray, List.set_cons_zero, List.set_cons_succ])
    | (refine wpList_alloc_z rfl 22 rfl 16 Tryf.zero22 ?_; intro Z hZ)
    | (refine wpList_store_new rfl 22 (.tmp 16) (.tmp 66) rfl w (B8 svn).toArray Z 22 rfl rfl (by rw [hZ]; exact L16.out) z22 o22 ?_))
  try (simp only [Act.put, List.setIfInBounds_toArray, List.set_cons_zero, List.set_cons_succ])
  refine k1.out _ _ ?_
  obtain ⟨w13, hw13⟩ : ∃ w13, w13 = w.alloc (.cells (B8 svn).toArray 22) := ⟨_, rfl⟩
  rw [← hw13] at RB13 s13 ⊢
  clear b13
  refine wp_seq_k fun K2 h2 => ?_
  have k2 := hid h2
  clear h2
  go_wp2_with (first
    | (refine wpList_load_mid rfl 31 (.tmp 5) rfl S 0 rfl base.cells _ (by exact RB13.out) Tryf.underlying31 rfl Z31 ?_; simp only [Act.put, List.setIfInBounds_toArray, List.set_cons_zero, List.set_cons_succ])
    | (refine wpList_alloc_z rfl 31 rfl 66 Tryf.zero31 ?_; intro Z' hZ')
    | (refine wpList_store_new rfl 31 (.tmp 17) (.tmp 67) rfl w13 base.cells.toArray Z' 31 rfl rfl (by rw [hZ']; exact L66.out) z31 o31.out ?_))
  try (simp only [Act.put, List.setIfInBounds_toArray, List.set_cons_zero, List.set_cons_succ])
  exact k2.out _ _ (H _ _ _ _ _ _ rfl s13 (by rw [hw13]))
end Go.Proofs.Qxb6609499aFmt
