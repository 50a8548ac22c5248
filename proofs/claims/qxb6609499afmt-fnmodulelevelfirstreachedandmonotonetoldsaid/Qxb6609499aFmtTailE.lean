/-
  The law's tail, from region 15 on, whole.
-/
import Derived.Test.Qxb6609499aFmtTailB
import Derived.Test.Qxb6609499aFmtTailC
import Derived.Test.Qxb6609499aFmtTailD
namespace Go.Proofs.Qxb6609499aFmt
open Go.RowKit Go.Extern.Stop Go.Stop Go.Extern
theorem first_of {n : Nat} {p : Nat → Prop} (h : ∃ i, i < n ∧ p i) : ∃ i, i < n ∧ p i ∧ ∀ k, k < i → ¬ p k := by
  classical
  obtain ⟨i, hi, hp⟩ := h
  induction i using Nat.strongRecOn with
  | _ i ih =>
    by_cases g : ∃ k, k < i ∧ p k
    · obtain ⟨k, hk, hpk⟩ := g
      exact ih k hk (by omega) hpk
    · exact ⟨i, hi, hp, fun k hk hpk => g ⟨k, hk, hpk⟩⟩
set_option maxRecDepth 1000000 in
set_option maxHeartbeats 8000000 in
theorem tail_all (a : Option Addr) (n c R M U V B : Nat) (x0 x1 : Int) (sig att : List Int) (base : ModV) (ms ms' : Nat → ModV) (gs : Nat → Nat) (svns : Nat → Nat → Int) (p1 q1 p2 q2 : Value) (w0 w : World)
    (hsg : Byt sig 48) (hat : Byt att 8) (hb : base.ok) (x0b : 0 ≤ x0 ∧ x0 ≤ 255) (x1b : 0 ≤ x1 ∧ x1 ≤ 255) (hi : IdsAt w a n ms svns) (hms : ModsAt w M n ms' gs svns) (hln : ∀ i, i < n → (ms' i).ln = (ms i).ln)
    (V0 : w.cell? ⟨V, 0, none⟩ = some (.int .u8 x0)) (V1 : w.cell? ⟨V, 1, none⟩ = some (.int .u8 x1)) (hr1 : w.rangeAt R 64 (B8 sig)) (hr2 : w.rangeAt R 112 (B8 att)) (hhp : w.heap[U]? = some (.cells base.cells.toArray 31))
    (hRV : R < V) (hVU : V < U) (hMU : M < U) (haU : 0 < n → ∀ b off, a = some ⟨b, off, none⟩ → b < U) (hlU : ∀ i, i < n → ∀ b off, (ms i).la = some ⟨b, off, none⟩ → 0 < (ms i).ln → b < U) (hU : U < w.heap.size) (hB : Below B w0 w) (hBU : B ≤ U)
    (hout : (x1 = 0 ∧ p1 = .pointer none ∧ ((q1 = .nilIface ∧ sig = base.sig ∧ meq att base.att base.msk 8 = true) ∨ ((∃ t v, q1 = .iface t v) ∧ (sig ≠ base.sig ∨ meq att base.att base.msk 8 = false)))) ∨
      (x1 ≠ 0 ∧ p1 = .pointer none ∧ ∃ t v, q1 = .iface t v) ∨
      (x1 ≠ 0 ∧ ∃ i j j2 : Nat, i < n ∧ (ms i).id.data.toList = tdxName x1 ∧ (∀ k, k < i → (ms k).id.data.toList ≠ tdxName x1) ∧ sig = (ms i).sig ∧ meq att (ms i).att (ms i).msk 8 = true ∧ j < (ms i).ln ∧
        svns i j ≤ x0 ∧ (∀ k, k < j → x0 < svns i k) ∧ j2 ≤ j ∧ p1 = .pointer (some ⟨gs i, j * 3 + 1, none⟩) ∧ q1 = .nilIface ∧ p2 = .pointer (some ⟨gs i, j2 * 3 + 1, none⟩) ∧ q2 = .nilIface))
    {s0 s1 s3 s5 s6 s7 s8 s10 s13 s18 s19 s20 s21 s22 s23 s24 s25 s26 s27 s28 s29 s30 s31 s32 s33 s34 s35 s36 s37 s38 s39 s40 s41 s42 s43 s44 s45 s46 s47 s48 s49 s50 s51 s52 s53 s54 s55 s56 s57 s58 s59 s60 s61 s62 s63 s64 s65 s66 s67 s68 s69 s70 s71 s72 s73 s74 s75 s76 s77 s78 s79 s80 s81 s82 s83 s84 s85 s86 s87 s88 s89 s90 s91 s92 s93 s94 s95 s96 s97 s98 s99 s100 s101 s102 s103 s104 s105 s106 s107 s108 s109 s110 s111 s112 s113 s114 s115 s116 s117 s118 s119 s120 s121 s122 s123 s124 s125 s126 s127 s128 s129 s130 s131 s132 s133 s134 s135 s136 s137 s138 s139 s140 s141 s142 s143 s144 s145 s146 s147 s148 s149 s150 s151 s152 s153 s154 s155 s156 s157 s158 s159 s160 s161 s162 s163 s164 s165 s166 s167 s168 s169 s170 s171 s172 s173 s174 s175 s176 s177 s178 s179 s180 s181 s182 s183 s184 s185 s186 s187 s188 s189 s190 s191 : Value} :
    Code.wp Tryf.prog ((Tryf.f3.body.bind (codeFrom 15)).getD .skip) (bodyPost Tryf.prog Tryf.f3 fun e w' => e = .returned (.bool true) ∧ Below B w0 w') ⟨#[s0, s1, .slice a n c, s3, .pointer (some ⟨R, 0, none⟩), s5, s6, s7, s8, .slice (some ⟨M, 0, none⟩) n n, s10, p1, q1, s13, p2, q2, .pointer (some ⟨V, 0, none⟩), .pointer (some ⟨U, 0, none⟩), s18, s19, s20, s21, s22, s23, s24, s25, s26, s27, s28, s29, s30, s31, s32, s33, s34, s35, s36, s37, s38, s39, s40, s41, s42, s43, s44, s45, s46, s47, s48, s49, s50, s51, s52, s53, s54, s55, s56, s57, s58, s59, s60, s61, s62, s63, s64, s65, s66, s67, s68, s69, s70, s71, s72, s73, s74, s75, s76, s77, s78, s79, s80, s81, s82, s83, s84, s85, s86, s87, s88, s89, s90, s91, s92, s93, s94, s95, s96, s97, s98, s99, s100, s101, s102, s103, s104, s105, s106, s107, s108, s109, s110, s111, s112, s113, s114, s115, s116, s117, s118, s119, s120, s121, s122, s123, s124, s125, s126, s127, s128, s129, s130, s131, s132, s133, s134, s135, s136, s137, s138, s139, s140, s141, s142, s143, s144, s145, s146, s147, s148, s149, s150, s151, s152, s153, s154, s155, s156, s157, s158, s159, s160, s161, s162, s163, s164, s165, s166, s167, s168, s169, s170, s171, s172, s173, s174, s175, s176, s177, s178, s179, s180, s181, s182, s183, s184, s185, s186, s187, s188, s189, s190, s191], []⟩ w := by
  have hn : n ≤ 9223372036854775806 := by have := hi.1; omega
  have hRW : w.rangeAt U 0 base.cells := fun j v hv => by
    unfold World.cell?; rw [hhp]; simpa using hv
  rcases hout with ⟨rfl, rfl, hq⟩ | ⟨hx, rfl, t1, v1, rfl⟩ | ⟨hx, i, j, j2, hin, hid1, hid2, hsi, hmq, hj, hj1, hj2, hjj, rfl, rfl, rfl, rfl⟩
  · refine t15_zero a n c U V w V1 ?_
    intros; subst w
    rename_i w
    by_cases hs : sig = base.sig
    · refine r22_eq sig att base R U w hsg hat hb hr1 hr2 hRW hs ?_
      intros
      rename_i w2 b2
      have V1' := (b2.cell (p := ⟨V, 1, none⟩) (Nat.lt_trans hVU hU)).trans V1
      rcases hq with ⟨rfl, _, hm⟩ | ⟨⟨t1, v1, rfl⟩, hno⟩
      · rw [hm]; exact t23_nil V B _ w0 w2 V1' (hB.trans (b2.mono (Nat.le_trans hBU (Nat.le_of_lt hU))))
      · have hm : meq att base.att base.msk 8 = false := by
          rcases hno with h0 | h0
          · exact absurd hs h0
          · exact h0
        rw [hm]; exact t23_err0 V B _ w0 w2 t1 v1 V1' (hB.trans (b2.mono (Nat.le_trans hBU (Nat.le_of_lt hU))))
    · refine r22_ne sig att base R U w hsg hat hb hr1 hr2 hRW hs ?_
      intros; subst w
      rename_i w
      rcases hq with ⟨rfl, h0, _⟩ | ⟨⟨t1, v1, rfl⟩, _⟩
      · exact absurd h0 hs
      · exact t23_err0 V B _ w0 w t1 v1 V1 hB
  · have hx' : (x1 == 0) = false := by simp [hx]
    by_cases hf : ∃ i, i < n ∧ (ms i).id.data.toList = tdxName x1
    · obtain ⟨i, hin, hid1, hid2⟩ := first_of hf
      have hmo : (ms i).ok := by obtain ⟨_, _, _, _, h, _⟩ := hi.2 i hin; exact h
      refine t15_at a n c U V x1 ms svns w i base.cells.toArray V1 hx x1b hi hU hhp (by rw [List.size_toArray, ModV.length hb]) hin hid1 hid2 ?_
      intros
      rename_i w2 b2
      obtain ⟨b2, RW2, s2⟩ := b2
      have V1' := (b2.cell (p := ⟨V, 1, none⟩) hVU).trans V1
      have r1 := rangeAt_below hr1 b2 (Nat.lt_trans hRV hVU)
      have r2 := rangeAt_below hr2 b2 (Nat.lt_trans hRV hVU)
      have hB2 : Below B w0 w2 := hB.trans (b2.mono hBU)
      by_cases hs : sig = (ms i).sig
      · refine r22_eq sig att (ms i) R U w2 hsg hat hmo r1 r2 RW2 hs ?_
        intros
        rename_i w3 b3
        exact t23_err V B _ w0 w3 x1 _ t1 v1 ((b3.cell (p := ⟨V, 1, none⟩) (Nat.lt_trans hVU s2)).trans V1') hx' (hB2.trans (b3.mono (Nat.le_trans hBU (Nat.le_of_lt s2))))
      · refine r22_ne sig att (ms i) R U w2 hsg hat hmo r1 r2 RW2 hs ?_
        intros; subst w2
        rename_i w2
        exact t23_err V B _ w0 w2 x1 _ t1 v1 V1' hx' hB2
    · refine t15_none a n c U V x1 ms svns w V1 hx x1b hi (fun k hk h => hf ⟨k, hk, h⟩) ?_
      intros
      rename_i w2 b2
      refine r22_no R U w2 ?_
      intros; subst w2
      rename_i w2 
      exact t23_err V B _ w0 w2 x1 _ t1 v1 ((b2.cell (p := ⟨V, 1, none⟩) (Nat.lt_trans hVU hU)).trans V1) hx' (hB.trans (b2.mono (Nat.le_trans hBU (Nat.le_of_lt hU))))
  · have hx' : (x1 == 0) = false := by simp [hx]
    obtain ⟨b, off, ea, hbl, hmo, hmr, hlv⟩ := hi.2 i hin
    have hbU := haU (by omega) b off ea
    refine t15_at a n c U V x1 ms svns w i base.cells.toArray V1 hx x1b hi hU hhp (by rw [List.size_toArray, ModV.length hb]) hin hid1 hid2 ?_
    intros
    rename_i w2 b2
    obtain ⟨b2, RW2, s2⟩ := b2
    have r1 := rangeAt_below hr1 b2 (Nat.lt_trans hRV hVU)
    have r2 := rangeAt_below hr2 b2 (Nat.lt_trans hRV hVU)
    refine r22_eq sig att (ms i) R U w2 hsg hat hmo r1 r2 RW2 hsi ?_
    intros
    rename_i w3 b3
    have b23 : Below U w w3 := b2.trans (b3.mono (Nat.le_of_lt s2))
    have s3 : U < w3.heap.size := Nat.lt_of_lt_of_le s2 b3.size
    rw [hmq]
    refine t23_on V (gs i) _ i x1 w3 ((b23.cell (p := ⟨V, 1, none⟩) hVU).trans V1) hx' ?_
    intros
    rename_i w4 b4
    have b24 : Below U w w4 := b23.trans (b4.mono (Nat.le_of_lt s3))
    obtain ⟨hmo', hmr', hla', hln', _, _⟩ := hms i hin
    have hL : w4.cell? ⟨b, off + i * 66 + 65, none⟩ = some (ms i).lv := (b24.cell (p := ⟨b, off + i * 66 + 65, none⟩) hbU).trans (ModV.lv_at hmo hmr)
    have hMc : w4.cell? ⟨M, i * 66 + 65, none⟩ = some (ms' i).lv := (b24.cell (p := ⟨M, i * 66 + 65, none⟩) hMU).trans (ModV.lv_at hmo' hmr')
    rw [hln i hin] at hln'
    have hMc' : w4.cell? ⟨M, i * 66 + 65, none⟩ = some (.slice (some ⟨gs i, 0, none⟩) (ms i).ln (ms' i).lc) := by
      rw [hMc]; unfold ModV.lv; rw [hla', hln i hin]
    have hsv : ∀ k, k < (ms i).ln → ∃ b2 off2, (ms i).la = some ⟨b2, off2, none⟩ ∧ w4.cell? ⟨b2, off2 + k * 3, none⟩ = some (.int .u16 (svns i k)) := fun k hk => by
      obtain ⟨bb, oo, _, _, _, _, e1, _, e3, _⟩ := hlv.2 k hk
      exact ⟨bb, oo, e1, (b24.cell (p := ⟨bb, oo + k * 3, none⟩) (hlU i hin bb oo e1 (by omega))).trans e3⟩
    obtain ⟨bb, oo, ela, hz0⟩ := hsv j hj
    have hz : ∀ k, k < (ms i).ln → w4.cell? ⟨bb, oo + k * 3, none⟩ = some (.int .u16 (svns i k)) := fun k hk => by
      obtain ⟨b', o', e', hz'⟩ := hsv k hk
      rw [ela] at e'
      simp only [Option.some.injEq, Addr.mk.injEq, and_true] at e'
      obtain ⟨rfl, rfl⟩ := e'
      exact hz'
    have hL' : w4.cell? ⟨b, off + i * 66 + 65, none⟩ = some (.slice (some ⟨bb, oo, none⟩) (ms i).ln (ms i).lc) := by
      rw [hL]; unfold ModV.lv; rw [ela]
    subst ea
    refine t29 b off n c M (gs i) i j (ms i).ln (ms i).lc (ms' i).lc _ w4 hin hn hj hln' hL' hMc' ?_
    intros; subst w4
    rename_i w4
    refine t33 b off n c V i j (ms i).ln (ms i).lc bb oo x0 (svns i j) w4 hin hn hj hln' hL' ((b24.cell (p := ⟨V, 0, none⟩) hVU).trans V0) x0b (hz j hj) hj1 ?_
    intros; subst w4
    rename_i w4
    refine t36 b off n c i j (ms i).ln (ms i).lc bb oo x0 (svns i) w4 hin hn hj hln' hL' (fun k hk => hz k (by omega)) hj2 ?_
    intros; subst w4
    rename_i w4
    exact t41 n M (gs i) i j j2 (ms i).ln (ms' i).lc B w0 w4 hin hn (by omega) hjj hln' hMc' (hB.trans (b24.mono hBU))
end Go.Proofs.Qxb6609499aFmt
