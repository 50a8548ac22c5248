/-
  The law's region 22, one declaration a case.
-/
import Derived.Test.Qxb6609499aFmtFind
import Derived.Test.Qxb6609499aFmtBytes
import Derived.Deep.DeepCutAuto
import Derived.Deep.Cut
import Derived.BigQuiet
namespace Go.Proofs.Qxb6609499aFmt
open Go.RowKit Go.Extern.Stop Go.Stop Go.Extern
def headRegion : Code → Option Nat
  | .region k _ _ => some k
  | .seq a _ => headRegion a
  | _ => none
def codeFrom (n : Nat) : Code → Option Code
  | .seq a b => if headRegion a = some n then some (.seq a b) else match codeFrom n a with
    | some c => some c
    | none => codeFrom n b
  | .block _ c => codeFrom n c
  | .scope c => codeFrom n c
  | _ => none
theorem wpList_load_mid_w {P : Program} {ops : Array Oper} {rest : List Oper} {op : Oper} {a : Act} {w : World} {Q : Exit → Act → World → Prop} (hw : Region.wanted op (yielded ops a.tmps) = true) (ty : TypeId) (x : Operand) (ho : op.op = .load ty x)
    (b o : Nat) (hx : a.eval x = .pointer (some ⟨b, o, none⟩)) (cs : List Value) (d : TypeDesc) (hc : w.rangeAt b o cs)
    (hu : P.underlying ty = some d) (hd : d.isRow = true) (hi : (P.info? ty).map (·.size) = some cs.length)
    (h : wpList P ops Q rest (a.put op.dst (.agg cs.toArray)) w) : wpList P ops Q (op :: rest) a w :=
  wpList_step fun K hK => by
    rw [if_pos hw]
    exact wp_load_mid ty x ho b o hx cs d hc hu hd hi (hK _ _ h)
set_option linter.unusedVariables false in
set_option maxRecDepth 1000000 in
set_option maxHeartbeats 8000000 in
theorem r22_no (R U : Nat) (w : World)
    
    {s0 s1 s2 s3 s5 s6 s7 s8 s9 s10 s11 s12 s13 s14 s15 s16 s18 s20 s21 s22 s23 s24 s25 s26 s27 s28 s29 s30 s31 s32 s33 s34 s35 s36 s37 s38 s39 s40 s41 s42 s43 s44 s45 s46 s47 s48 s49 s50 s51 s52 s53 s54 s55 s56 s57 s58 s59 s60 s61 s62 s63 s64 s65 s66 s67 s68 s69 s70 s71 s72 s73 s74 s75 s76 s77 s78 s79 s80 s81 s82 s83 s84 s85 s86 s87 s88 s89 s90 s91 s92 s93 s94 s95 s96 s97 s98 s99 s100 s101 s102 s103 s104 s105 s106 s107 s108 s109 s110 s111 s112 s113 s114 s115 s116 s117 s118 s119 s120 s121 s122 s123 s124 s125 s126 s127 s128 s129 s130 s131 s132 s133 s134 s135 s136 s137 s138 s139 s140 s141 s142 s143 s144 s145 s146 s147 s148 s149 s150 s151 s152 s153 s154 s155 s156 s157 s158 s159 s160 s161 s162 s163 s164 s165 s166 s167 s168 s169 s170 s171 s172 s173 s174 s175 s176 s177 s178 s179 s180 s181 s182 s183 s184 s185 s186 s187 s188 s189 s190 s191 : Value} {Q : Exit → Act → World → Prop}
    (H : ∀ t82 t83 t84 t85 t86 t87 t88 t89 t90 t91 t92 t93 t94 t95 t96 t97 t98 w', w' = w → Code.wp Tryf.prog ((Tryf.f3.body.bind (codeFrom 23)).getD .skip) Q ⟨#[s0, s1, s2, s3, .pointer (some ⟨R, 0, none⟩), s5, s6, s7, s8, s9, s10, s11, s12, s13, s14, s15, s16, .pointer (some ⟨U, 0, none⟩), s18, .bool false, .bool false, s21, s22, s23, s24, s25, s26, s27, s28, s29, s30, s31, s32, s33, s34, s35, s36, s37, s38, s39, s40, s41, s42, s43, s44, s45, s46, s47, s48, s49, s50, s51, s52, s53, s54, s55, s56, s57, s58, s59, s60, s61, s62, s63, s64, s65, s66, s67, s68, s69, s70, s71, s72, s73, s74, s75, s76, s77, s78, s79, s80, s81, t82, t83, t84, t85, t86, t87, t88, t89, t90, t91, t92, t93, t94, t95, t96, t97, t98, s99, s100, s101, s102, s103, s104, s105, s106, s107, s108, s109, s110, s111, s112, s113, s114, s115, s116, s117, s118, s119, s120, s121, s122, s123, s124, s125, s126, s127, s128, s129, s130, s131, s132, s133, s134, s135, s136, s137, s138, s139, s140, s141, s142, s143, s144, s145, s146, s147, s148, s149, s150, s151, s152, s153, s154, s155, s156, s157, s158, s159, s160, s161, s162, s163, s164, s165, s166, s167, s168, s169, s170, s171, s172, s173, s174, s175, s176, s177, s178, s179, s180, s181, s182, s183, s184, s185, s186, s187, s188, s189, s190, s191], []⟩ w') :
    Code.wp Tryf.prog ((Tryf.f3.body.bind (codeFrom 22)).getD .skip) Q ⟨#[s0, s1, s2, s3, .pointer (some ⟨R, 0, none⟩), s5, s6, s7, s8, s9, s10, s11, s12, s13, s14, s15, s16, .pointer (some ⟨U, 0, none⟩), s18, .bool false, s20, s21, s22, s23, s24, s25, s26, s27, s28, s29, s30, s31, s32, s33, s34, s35, s36, s37, s38, s39, s40, s41, s42, s43, s44, s45, s46, s47, s48, s49, s50, s51, s52, s53, s54, s55, s56, s57, s58, s59, s60, s61, s62, s63, s64, s65, s66, s67, s68, s69, s70, s71, s72, s73, s74, s75, s76, s77, s78, s79, s80, s81, s82, s83, s84, s85, s86, s87, s88, s89, s90, s91, s92, s93, s94, s95, s96, s97, s98, s99, s100, s101, s102, s103, s104, s105, s106, s107, s108, s109, s110, s111, s112, s113, s114, s115, s116, s117, s118, s119, s120, s121, s122, s123, s124, s125, s126, s127, s128, s129, s130, s131, s132, s133, s134, s135, s136, s137, s138, s139, s140, s141, s142, s143, s144, s145, s146, s147, s148, s149, s150, s151, s152, s153, s154, s155, s156, s157, s158, s159, s160, s161, s162, s163, s164, s165, s166, s167, s168, s169, s170, s171, s172, s173, s174, s175, s176, s177, s178, s179, s180, s181, s182, s183, s184, s185, s186, s187, s188, s189, s190, s191], []⟩ w := by
  dsimp only
  conv => arg 2; whnf
  refine wp_seq_k fun K hK0 => ?_
  have hK := hid hK0
  clear hK0
  go_wp2_with fail
  exact hK.out _ _ (H _ _ _ _ _ _ _ _ _ _ _ _ _ _ _ _ _ _ rfl)
set_option linter.unusedVariables false in
set_option maxRecDepth 1000000 in
set_option maxHeartbeats 8000000 in
theorem r22_ne (sig att : List Int) (m : ModV) (R U : Nat) (w : World) (hsg : Byt sig 48) (hat : Byt att 8) (hm : m.ok)
    (hr1 : w.rangeAt R 64 (B8 sig)) (hr2 : w.rangeAt R 112 (B8 att)) (hRW : w.rangeAt U 0 m.cells) (hs : sig ≠ m.sig)
    {s0 s1 s2 s3 s5 s6 s7 s8 s9 s10 s11 s12 s13 s14 s15 s16 s18 s20 s21 s22 s23 s24 s25 s26 s27 s28 s29 s30 s31 s32 s33 s34 s35 s36 s37 s38 s39 s40 s41 s42 s43 s44 s45 s46 s47 s48 s49 s50 s51 s52 s53 s54 s55 s56 s57 s58 s59 s60 s61 s62 s63 s64 s65 s66 s67 s68 s69 s70 s71 s72 s73 s74 s75 s76 s77 s78 s79 s80 s81 s82 s83 s84 s85 s86 s87 s88 s89 s90 s91 s92 s93 s94 s95 s96 s97 s98 s99 s100 s101 s102 s103 s104 s105 s106 s107 s108 s109 s110 s111 s112 s113 s114 s115 s116 s117 s118 s119 s120 s121 s122 s123 s124 s125 s126 s127 s128 s129 s130 s131 s132 s133 s134 s135 s136 s137 s138 s139 s140 s141 s142 s143 s144 s145 s146 s147 s148 s149 s150 s151 s152 s153 s154 s155 s156 s157 s158 s159 s160 s161 s162 s163 s164 s165 s166 s167 s168 s169 s170 s171 s172 s173 s174 s175 s176 s177 s178 s179 s180 s181 s182 s183 s184 s185 s186 s187 s188 s189 s190 s191 : Value} {Q : Exit → Act → World → Prop}
    (H : ∀ t82 t83 t84 t85 t86 t87 t88 t89 t90 t91 t92 t93 t94 t95 t96 t97 t98 w', w' = w → Code.wp Tryf.prog ((Tryf.f3.body.bind (codeFrom 23)).getD .skip) Q ⟨#[s0, s1, s2, s3, .pointer (some ⟨R, 0, none⟩), s5, s6, s7, s8, s9, s10, s11, s12, s13, s14, s15, s16, .pointer (some ⟨U, 0, none⟩), s18, .bool true, .bool false, s21, s22, s23, s24, s25, s26, s27, s28, s29, s30, s31, s32, s33, s34, s35, s36, s37, s38, s39, s40, s41, s42, s43, s44, s45, s46, s47, s48, s49, s50, s51, s52, s53, s54, s55, s56, s57, s58, s59, s60, s61, s62, s63, s64, s65, s66, s67, s68, s69, s70, s71, s72, s73, s74, s75, s76, s77, s78, s79, s80, s81, t82, t83, t84, t85, t86, t87, t88, t89, t90, t91, t92, t93, t94, t95, t96, t97, t98, s99, s100, s101, s102, s103, s104, s105, s106, s107, s108, s109, s110, s111, s112, s113, s114, s115, s116, s117, s118, s119, s120, s121, s122, s123, s124, s125, s126, s127, s128, s129, s130, s131, s132, s133, s134, s135, s136, s137, s138, s139, s140, s141, s142, s143, s144, s145, s146, s147, s148, s149, s150, s151, s152, s153, s154, s155, s156, s157, s158, s159, s160, s161, s162, s163, s164, s165, s166, s167, s168, s169, s170, s171, s172, s173, s174, s175, s176, s177, s178, s179, s180, s181, s182, s183, s184, s185, s186, s187, s188, s189, s190, s191], []⟩ w') :
    Code.wp Tryf.prog ((Tryf.f3.body.bind (codeFrom 22)).getD .skip) Q ⟨#[s0, s1, s2, s3, .pointer (some ⟨R, 0, none⟩), s5, s6, s7, s8, s9, s10, s11, s12, s13, s14, s15, s16, .pointer (some ⟨U, 0, none⟩), s18, .bool true, s20, s21, s22, s23, s24, s25, s26, s27, s28, s29, s30, s31, s32, s33, s34, s35, s36, s37, s38, s39, s40, s41, s42, s43, s44, s45, s46, s47, s48, s49, s50, s51, s52, s53, s54, s55, s56, s57, s58, s59, s60, s61, s62, s63, s64, s65, s66, s67, s68, s69, s70, s71, s72, s73, s74, s75, s76, s77, s78, s79, s80, s81, s82, s83, s84, s85, s86, s87, s88, s89, s90, s91, s92, s93, s94, s95, s96, s97, s98, s99, s100, s101, s102, s103, s104, s105, s106, s107, s108, s109, s110, s111, s112, s113, s114, s115, s116, s117, s118, s119, s120, s121, s122, s123, s124, s125, s126, s127, s128, s129, s130, s131, s132, s133, s134, s135, s136, s137, s138, s139, s140, s141, s142, s143, s144, s145, s146, s147, s148, s149, s150, s151, s152, s153, s154, s155, s156, s157, s158, s159, s160, s161, s162, s163, s164, s165, s166, s167, s168, s169, s170, s171, s172, s173, s174, s175, s176, s177, s178, s179, s180, s181, s182, s183, s184, s185, s186, s187, s188, s189, s190, s191], []⟩ w := by
  have hs' : (sig == m.sig) = false := by simp [hs]
  clear hs
  have r1 := hid hr1
  have r2 := hid hr2
  have r3 : Hid (w.rangeAt U 1 (B8 m.sig)) := by have t := ModV.sig_at hRW; rw [Nat.zero_add] at t; exact t
  have r4 : Hid (w.rangeAt U 49 (B8 m.att)) := by have t := ModV.att_at hm hRW; rw [Nat.zero_add] at t; exact t
  have r5 : Hid (w.rangeAt U 57 (B8 m.msk)) := by have t := ModV.msk_at hm hRW; rw [Nat.zero_add] at t; exact t
  have hi1 : (Tryf.prog.info? 23).map (·.size) = some (B8 sig).length := by rw [B8_length, hsg.1]; exact Tryf.size23
  have hi2 : (Tryf.prog.info? 24).map (·.size) = some (B8 att).length := by rw [B8_length, hat.1]; exact Tryf.size24
  have hi3 : (Tryf.prog.info? 23).map (·.size) = some (B8 m.sig).length := by rw [B8_length, hm.2.1.1]; exact Tryf.size23
  have hi4 : (Tryf.prog.info? 24).map (·.size) = some (B8 m.att).length := by rw [B8_length, hm.2.2.1.1]; exact Tryf.size24
  have hi5 : (Tryf.prog.info? 24).map (·.size) = some (B8 m.msk).length := by rw [B8_length, hm.2.2.2.1]; exact Tryf.size24
  have EQ1 : ∀ W, (binOp .eql 23 (.agg (B8 sig).toArray) (.agg (B8 m.sig).toArray)).run Tryf.prog W = .ok (.bool false) W := fun W => by rw [eql48 hsg hm.2.1 W, hs']
  have EQ2 : ∀ W, (Op.equalIn 10000 23 (.agg (B8 sig).toArray) (.agg (B8 m.sig).toArray)).run Tryf.prog W = .ok false W := fun W => by rw [equal48 hsg hm.2.1 W, hs']
  clear hs'
  have E2 := hid EQ2
  clear EQ1 EQ2
  clear hRW hr1 hr2
  dsimp only
  conv => arg 2; whnf
  refine wp_seq_k fun K hK0 => ?_
  have hK := hid hK0
  clear hK0
  go_wp2_with (first
    | (refine wpList_load_mid_w (by rfl) 23 (.tmp 84) rfl R 64 rfl (B8 sig) _ (by exact r1.out) Tryf.underlying23 rfl hi1 ?_; simp only [Act.put, List.setIfInBounds_toArray, List.set_cons_zero, List.set_cons_succ])
    | (refine wpList_load_mid_w (by rfl) 23 (.tmp 86) rfl U 1 rfl (B8 m.sig) _ (by exact r3.out) Tryf.underlying23 rfl hi3 ?_; simp only [Act.put, List.setIfInBounds_toArray, List.set_cons_zero, List.set_cons_succ]))
  rw [E2.out]
  simp only [Result.andThen_ok, Oper.upon, Act.put, List.setIfInBounds_toArray, List.set_cons_zero, List.set_cons_succ]
  go_wp2_with fail
  exact hK.out _ _ (H _ _ _ _ _ _ _ _ _ _ _ _ _ _ _ _ _ _ rfl)
set_option linter.unusedVariables false in
set_option maxRecDepth 1000000 in
set_option maxHeartbeats 8000000 in
theorem r22_eq (sig att : List Int) (m : ModV) (R U : Nat) (w : World) (hsg : Byt sig 48) (hat : Byt att 8) (hm : m.ok)
    (hr1 : w.rangeAt R 64 (B8 sig)) (hr2 : w.rangeAt R 112 (B8 att)) (hRW : w.rangeAt U 0 m.cells) (hs : sig = m.sig)
    {s0 s1 s2 s3 s5 s6 s7 s8 s9 s10 s11 s12 s13 s14 s15 s16 s18 s20 s21 s22 s23 s24 s25 s26 s27 s28 s29 s30 s31 s32 s33 s34 s35 s36 s37 s38 s39 s40 s41 s42 s43 s44 s45 s46 s47 s48 s49 s50 s51 s52 s53 s54 s55 s56 s57 s58 s59 s60 s61 s62 s63 s64 s65 s66 s67 s68 s69 s70 s71 s72 s73 s74 s75 s76 s77 s78 s79 s80 s81 s82 s83 s84 s85 s86 s87 s88 s89 s90 s91 s92 s93 s94 s95 s96 s97 s98 s99 s100 s101 s102 s103 s104 s105 s106 s107 s108 s109 s110 s111 s112 s113 s114 s115 s116 s117 s118 s119 s120 s121 s122 s123 s124 s125 s126 s127 s128 s129 s130 s131 s132 s133 s134 s135 s136 s137 s138 s139 s140 s141 s142 s143 s144 s145 s146 s147 s148 s149 s150 s151 s152 s153 s154 s155 s156 s157 s158 s159 s160 s161 s162 s163 s164 s165 s166 s167 s168 s169 s170 s171 s172 s173 s174 s175 s176 s177 s178 s179 s180 s181 s182 s183 s184 s185 s186 s187 s188 s189 s190 s191 : Value} {Q : Exit → Act → World → Prop}
    (H : ∀ t82 t83 t84 t85 t86 t87 t88 t89 t90 t91 t92 t93 t94 t95 t96 t97 t98 w', Below w.heap.size w w' → Code.wp Tryf.prog ((Tryf.f3.body.bind (codeFrom 23)).getD .skip) Q ⟨#[s0, s1, s2, s3, .pointer (some ⟨R, 0, none⟩), s5, s6, s7, s8, s9, s10, s11, s12, s13, s14, s15, s16, .pointer (some ⟨U, 0, none⟩), s18, .bool true, .bool (meq att m.att m.msk 8), s21, s22, s23, s24, s25, s26, s27, s28, s29, s30, s31, s32, s33, s34, s35, s36, s37, s38, s39, s40, s41, s42, s43, s44, s45, s46, s47, s48, s49, s50, s51, s52, s53, s54, s55, s56, s57, s58, s59, s60, s61, s62, s63, s64, s65, s66, s67, s68, s69, s70, s71, s72, s73, s74, s75, s76, s77, s78, s79, s80, s81, t82, t83, t84, t85, t86, t87, t88, t89, t90, t91, t92, t93, t94, t95, t96, t97, t98, s99, s100, s101, s102, s103, s104, s105, s106, s107, s108, s109, s110, s111, s112, s113, s114, s115, s116, s117, s118, s119, s120, s121, s122, s123, s124, s125, s126, s127, s128, s129, s130, s131, s132, s133, s134, s135, s136, s137, s138, s139, s140, s141, s142, s143, s144, s145, s146, s147, s148, s149, s150, s151, s152, s153, s154, s155, s156, s157, s158, s159, s160, s161, s162, s163, s164, s165, s166, s167, s168, s169, s170, s171, s172, s173, s174, s175, s176, s177, s178, s179, s180, s181, s182, s183, s184, s185, s186, s187, s188, s189, s190, s191], []⟩ w') :
    Code.wp Tryf.prog ((Tryf.f3.body.bind (codeFrom 22)).getD .skip) Q ⟨#[s0, s1, s2, s3, .pointer (some ⟨R, 0, none⟩), s5, s6, s7, s8, s9, s10, s11, s12, s13, s14, s15, s16, .pointer (some ⟨U, 0, none⟩), s18, .bool true, s20, s21, s22, s23, s24, s25, s26, s27, s28, s29, s30, s31, s32, s33, s34, s35, s36, s37, s38, s39, s40, s41, s42, s43, s44, s45, s46, s47, s48, s49, s50, s51, s52, s53, s54, s55, s56, s57, s58, s59, s60, s61, s62, s63, s64, s65, s66, s67, s68, s69, s70, s71, s72, s73, s74, s75, s76, s77, s78, s79, s80, s81, s82, s83, s84, s85, s86, s87, s88, s89, s90, s91, s92, s93, s94, s95, s96, s97, s98, s99, s100, s101, s102, s103, s104, s105, s106, s107, s108, s109, s110, s111, s112, s113, s114, s115, s116, s117, s118, s119, s120, s121, s122, s123, s124, s125, s126, s127, s128, s129, s130, s131, s132, s133, s134, s135, s136, s137, s138, s139, s140, s141, s142, s143, s144, s145, s146, s147, s148, s149, s150, s151, s152, s153, s154, s155, s156, s157, s158, s159, s160, s161, s162, s163, s164, s165, s166, s167, s168, s169, s170, s171, s172, s173, s174, s175, s176, s177, s178, s179, s180, s181, s182, s183, s184, s185, s186, s187, s188, s189, s190, s191], []⟩ w := by
  have hs' : (sig == m.sig) = true := by simp [hs]
  clear hs
  have r1 := hid hr1
  have r2 := hid hr2
  have r3 : Hid (w.rangeAt U 1 (B8 m.sig)) := by have t := ModV.sig_at hRW; rw [Nat.zero_add] at t; exact t
  have r4 : Hid (w.rangeAt U 49 (B8 m.att)) := by have t := ModV.att_at hm hRW; rw [Nat.zero_add] at t; exact t
  have r5 : Hid (w.rangeAt U 57 (B8 m.msk)) := by have t := ModV.msk_at hm hRW; rw [Nat.zero_add] at t; exact t
  have hi1 : (Tryf.prog.info? 23).map (·.size) = some (B8 sig).length := by rw [B8_length, hsg.1]; exact Tryf.size23
  have hi2 : (Tryf.prog.info? 24).map (·.size) = some (B8 att).length := by rw [B8_length, hat.1]; exact Tryf.size24
  have hi3 : (Tryf.prog.info? 23).map (·.size) = some (B8 m.sig).length := by rw [B8_length, hm.2.1.1]; exact Tryf.size23
  have hi4 : (Tryf.prog.info? 24).map (·.size) = some (B8 m.att).length := by rw [B8_length, hm.2.2.1.1]; exact Tryf.size24
  have hi5 : (Tryf.prog.info? 24).map (·.size) = some (B8 m.msk).length := by rw [B8_length, hm.2.2.2.1]; exact Tryf.size24
  have EQ1 : ∀ W, (binOp .eql 23 (.agg (B8 sig).toArray) (.agg (B8 m.sig).toArray)).run Tryf.prog W = .ok (.bool true) W := fun W => by rw [eql48 hsg hm.2.1 W, hs']
  have EQ2 : ∀ W, (Op.equalIn 10000 23 (.agg (B8 sig).toArray) (.agg (B8 m.sig).toArray)).run Tryf.prog W = .ok true W := fun W => by rw [equal48 hsg hm.2.1 W, hs']
  clear hs'
  clear hRW hr1 hr2
  dsimp only
  conv => arg 2; whnf
  refine wp_seq_k fun K hK0 => ?_
  have hK := hid hK0
  clear hK0
  go_wp2_with (first
    | (refine wpList_load_mid_w (by rfl) 23 (.tmp 84) rfl R 64 rfl (B8 sig) _ (by exact r1.out) Tryf.underlying23 rfl hi1 ?_; simp only [Act.put, List.setIfInBounds_toArray, List.set_cons_zero, List.set_cons_succ])
    | (refine wpList_load_mid_w (by rfl) 23 (.tmp 86) rfl U 1 rfl (B8 m.sig) _ (by exact r3.out) Tryf.underlying23 rfl hi3 ?_; simp only [Act.put, List.setIfInBounds_toArray, List.set_cons_zero, List.set_cons_succ])
    | (refine wpList_load_mid_w (by rfl) 24 (.tmp 91) rfl R 112 rfl (B8 att) _ (by exact r2.out) Tryf.underlying24 rfl hi2 ?_; simp only [Act.put, List.setIfInBounds_toArray, List.set_cons_zero, List.set_cons_succ])
    | (refine wpList_load_mid_w (by rfl) 24 (.tmp 93) rfl U 49 rfl (B8 m.att) _ (by exact r4.out) Tryf.underlying24 rfl hi4 ?_; simp only [Act.put, List.setIfInBounds_toArray, List.set_cons_zero, List.set_cons_succ])
    | (refine wpList_load_mid_w (by rfl) 24 (.tmp 95) rfl U 57 rfl (B8 m.msk) _ (by exact r5.out) Tryf.underlying24 rfl hi5 ?_; simp only [Act.put, List.setIfInBounds_toArray, List.set_cons_zero, List.set_cons_succ])
    | (go_at_call 13; refine (same_any att m.att m.msk _ hat hm.2.2.1 hm.2.2.2).mono ?_; rintro e w15 ⟨rfl, b15⟩))
  exact hK.out _ _ (H _ _ _ _ _ _ _ _ _ _ _ _ _ _ _ _ _ _ b15)
end Go.Proofs.Qxb6609499aFmt
