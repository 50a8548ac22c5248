/-
  zzBuild: the loop over a database's policies.
-/
import Derived.Test.Qxb6609540aGreatDoorGrpFor
import Derived.Laws.Cover3
namespace Go.Proofs.Qxb6609540aGreatDoor
open Go.RowKit Go.ChangeMaps
set_option linter.unusedSimpArgs false
theorem Tryz.info56 : (Tryz.prog.info? 56).map (fun i => (i.zero, i.size, i.bytes)) = some (some (.pointer none), 1, 8) := by kernel_rfl
set_option linter.unusedVariables false in
set_option maxRecDepth 1000000 in
set_option maxHeartbeats 16000000 in
theorem polFor (B0 rm gd hp : Nat) (d : DbV) (pa : Option Addr) (pc : Nat) (pv : Value) (PE : List (Nat × Value)) (xs0 : List Value) (w0 W1 w : World)
    (hdc : W1.cell? ⟨gd, 3, none⟩ = some (.slice pa d.pols.length pc)) (hPo : PolsAt W1 pa d.pols) (hpl : PlanIs B0 rm w pv PE) (hB0 : B0 ≤ W1.heap.size) (hrm : rm < W1.heap.size) (hgd : gd < W1.heap.size) (hW1 : W1.heap.size ≤ hp) (hown : w.ownsRow W1.heap.size 60 1 (.slice (some ⟨hp, 0, none⟩) d.pols.length d.pols.length) d.pols.length xs0)
    (hck : Below W1.heap.size W1 w) (hbl : Below B0 w0 w)
    {s0 s1 s2 s3 s4 s5 s6 s7 s8 s9 s11 s12 s15 s16 s17 s18 s19 s20 s21 s22 s23 s24 s25 s26 s27 s28 s29 s30 s31 s32 s33 s34 s35 s36 s37 s38 s39 s40 s41 s42 s43 s44 s45 s46 s47 s48 s49 s50 s51 s52 s53 s54 s55 s56 s57 s58 s59 s60 s61 s62 s63 s64 s65 s66 s67 s68 s69 s70 s71 s72 s73 s74 s75 s76 s77 s78 s79 s80 s81 s82 s83 s84 s85 s86 s87 s88 s89 s90 s91 s92 s93 s94 s95 s96 s97 s98 s99 s100 s101 s102 s103 s104 s105 s106 s107 s108 s109 s110 s111 s112 s113 s114 s115 s116 s117 s118 s119 s120 s121 s122 s123 s124 s125 s126 s127 : Value} {Q : Exit → Act → World → Prop}
    (H : ∀ (t15 t16 t17 t18 t19 t20 t39 t40 t41 t42 t43 t44 t45 t46 t47 t48 t49 t50 t51 t52 t53 t54 t55 t56 t57 t58 t59 t60 t61 t62 t63 t64 t65 t66 t67 t68 t69 t70 t71 t72 t73 t74 t75 t76 t77 t78 t79 t80 t81 t82 t83 t84 t85 t86 t87 t88 t89 t90 t91 t92 t93 t94 t95 t96 t97 t98 t99 t100 t101 t102 t103 t104 pv' : Value) (PE' : List (Nat × Value)) (ys : List Value) (w' : World), PlanIs B0 rm w' pv' PE' → Grow w.heap.size PE PE' → w'.ownsRow W1.heap.size 60 1 (.slice (some ⟨hp, 0, none⟩) d.pols.length d.pols.length) d.pols.length ys →
      (∀ (k : Nat) G, d.pols[k]? = some G → ∃ g, ys[k]? = some (.pointer (some ⟨g, 0, none⟩)) ∧ PolP (hp + 1) w' PE' g G) → CK 0 W1 w' → (∀ (k : Nat), k < W1.heap.size → (∀ r, pv = .map (some r) → k ≠ r) → w'.heap[k]? = w.heap[k]?) → Below B0 w0 w' → (∀ r, pv = .map (some r) → pv' = pv) → (∀ r, pv' = .map (some r) → pv = .map (some r) ∨ W1.heap.size ≤ r) → Code.wp Tryz.prog (sndOf ((Tryz.f9.body.bind (codeFrom 10)).getD .skip)) Q ⟨#[s0, s1, s2, s3, s4, s5, s6, s7, s8, s9, pv', s11, s12, .pointer (some ⟨gd, 0, none⟩), .slice (some ⟨hp, 0, none⟩) d.pols.length d.pols.length, t15, t16, t17, t18, t19, t20, s21, s22, s23, s24, s25, s26, s27, s28, s29, s30, s31, s32, s33, s34, s35, s36, s37, s38, t39, t40, t41, t42, t43, t44, t45, t46, t47, t48, t49, t50, t51, t52, t53, t54, t55, t56, t57, t58, t59, t60, t61, t62, t63, t64, t65, t66, t67, t68, t69, t70, t71, t72, t73, t74, t75, t76, t77, t78, t79, t80, t81, t82, t83, t84, t85, t86, t87, t88, t89, t90, t91, t92, t93, t94, t95, t96, t97, t98, t99, t100, t101, t102, t103, t104, s105, s106, s107, s108, s109, s110, s111, s112, s113, s114, s115, s116, s117, s118, s119, s120, s121, s122, s123, s124, s125, s126, s127], []⟩ w') :
    Code.wp Tryz.prog ((Tryz.f9.body.bind (codeFrom 10)).getD .skip) Q ⟨#[s0, s1, s2, s3, s4, s5, s6, s7, s8, s9, pv, s11, s12, .pointer (some ⟨gd, 0, none⟩), .slice (some ⟨hp, 0, none⟩) d.pols.length d.pols.length, s15, s16, s17, s18, s19, s20, s21, s22, s23, s24, s25, s26, s27, s28, s29, s30, s31, s32, s33, s34, s35, s36, s37, s38, s39, s40, s41, s42, s43, s44, s45, s46, s47, s48, s49, s50, s51, s52, s53, s54, s55, s56, s57, s58, s59, s60, s61, s62, s63, s64, s65, s66, s67, s68, s69, s70, s71, s72, s73, s74, s75, s76, s77, s78, s79, s80, s81, s82, s83, s84, s85, s86, s87, s88, s89, s90, s91, s92, s93, s94, s95, s96, s97, s98, s99, s100, s101, s102, s103, s104, s105, s106, s107, s108, s109, s110, s111, s112, s113, s114, s115, s116, s117, s118, s119, s120, s121, s122, s123, s124, s125, s126, s127], []⟩ w := by
  have HPo := hid hPo
  have HP := hid hpl
  have HO := hid hown
  have HC := hid hck
  have HB := hid hbl
  have hl := hPo.1
  clear hPo hpl hown hck hbl
  obtain ⟨i0, hi0, hz0, hs0, hy0⟩ := info_parts Tryz.info56
  dsimp only
  conv => arg 2; whnf
  refine wp_seq_k fun K hK0 => ?_
  have hK := hid hK0
  clear hK0
  go_wp2_with fail
  go_loopw [10, 15] (fun v10 v15 wr => ∃ (j : Nat) (PE' : List (Nat × Value)) (ys : List Value), j ≤ d.pols.length ∧ v15 = .int .i64 j ∧ Hid (PlanIs B0 rm wr v10 PE') ∧ Hid (Grow w.heap.size PE PE') ∧ wr.ownsRow W1.heap.size 60 1 (.slice (some ⟨hp, 0, none⟩) d.pols.length d.pols.length) d.pols.length ys ∧
      Hid (∀ (k : Nat) G, k < j → d.pols[k]? = some G → ∃ g, ys[k]? = some (.pointer (some ⟨g, 0, none⟩)) ∧ PolP (hp + 1) wr PE' g G) ∧ Hid (∀ (k : Nat), k < W1.heap.size → (∀ r, pv = .map (some r) → k ≠ r) → wr.heap[k]? = w.heap[k]?) ∧ Hid (∀ r, pv = .map (some r) → v10 = pv) ∧ Hid (∀ r, v10 = .map (some r) → pv = .map (some r) ∨ W1.heap.size ≤ r) ∧ Hid (Below B0 w0 wr) ∧ w.heap.size ≤ wr.heap.size ∧ Hid (CK 0 W1 wr)) (fun _ v15 _ => d.pols.length - (intOf v15).toNat)
  case atStart => exact ⟨0, PE, xs0, Nat.zero_le _, rfl, HP.out, Grow.refl _ _, HO.out, fun k G h => absurd h (Nat.not_lt_zero _), fun _ _ _ => rfl, fun _ _ => rfl, fun _ h => .inl h, HB.out, Nat.le_refl _, CK.of_below HC.out⟩
  case round =>
    obtain ⟨j, PE', ys, hjl, rfl, HP', HGr, hownr, HX, HK2, HSame, HNew, HB', hsz, HCK⟩ := hrel
    have hdc' := HCK.out.2.1 ⟨gd, 3, none⟩ _ (Nat.zero_le _) hdc
    by_cases hlt : j < d.pols.length
    · obtain ⟨p, hpj⟩ := get_of hlt
      obtain ⟨b, off, ga, gc, rfl, hbw, m0, m1, m2, m3, m4, hG, hi⟩ := HPo.out.2 j p hpj
      replace m0 := HCK.out.2.1 _ _ (Nat.zero_le _) m0
      replace m1 := HCK.out.2.1 _ _ (Nat.zero_le _) m1
      replace m2 := HCK.out.2.1 _ _ (Nat.zero_le _) m2
      replace m3 := HCK.out.2.1 _ _ (Nat.zero_le _) m3
      replace m4 := HCK.out.2.1 _ _ (Nat.zero_le _) m4
      have HJ := hid hpj
      have HI := hid hi
      have HG := hid (hG.ck HCK.out)
      have hgl := hG.1
      have hgr : hp < wr.heap.size := (hownr.lt _ rfl).2
      have HO' := hid hownr
      clear hpj hi hG hownr
      have hb1 : i0.bytes * p.grps.length ≤ 281474976710656 := by rw [hy0]; omega
      have hm1 : p.grps.length ≤ maxLen := by unfold maxLen; omega
      go_upto_region 13 with fail
      rename_i K13 h13
      have k13 := hid h13
      clear h13
      go_wp2_with fail
      refine k13.out _ _ ?_
      obtain ⟨w1, hw1⟩ : ∃ w1, w1 = wr.alloc (.cells #[.string p.name, .int .i64 p.dur, .int .i64 p.sgd, .int .i64 p.rep, .slice ga p.grps.length gc] 42) := ⟨_, rfl⟩
      have HB1 : Below wr.heap.size wr w1 := by rw [hw1]; exact (Below.refl _ _).alloc (Nat.le_refl _) _
      have q0 : w1.cell? ⟨wr.heap.size, 0, none⟩ = some (.string p.name) := by rw [hw1, World.cell?_alloc_at _ _ _ _ rfl]; rfl
      have q1 : w1.cell? ⟨wr.heap.size, 1, none⟩ = some (.int .i64 p.dur) := by rw [hw1, World.cell?_alloc_at _ _ _ _ rfl]; rfl
      have q2 : w1.cell? ⟨wr.heap.size, 2, none⟩ = some (.int .i64 p.sgd) := by rw [hw1, World.cell?_alloc_at _ _ _ _ rfl]; rfl
      have q3 : w1.cell? ⟨wr.heap.size, 3, none⟩ = some (.int .i64 p.rep) := by rw [hw1, World.cell?_alloc_at _ _ _ _ rfl]; rfl
      have q4 : w1.cell? ⟨wr.heap.size, 4, none⟩ = some (.slice ga p.grps.length gc) := by rw [hw1, World.cell?_alloc_at _ _ _ _ rfl]; rfl
      have z1 : wr.heap.size < w1.heap.size := by rw [hw1]; simp
      rw [← hw1]
      clear hw1 m0 m1 m2 m3 m4
      have HG1 := hid (HG.out.kept (Kept.of HB1))
      refine wp_seq_k fun K14 h14 => ?_
      have k14 := hid h14
      clear h14
      go_wp2_with fail
      refine k14.out _ _ ?_
      refine wp_seq_k fun K15 h15 => ?_
      have k15 := hid h15
      clear h15
      have nq := fun (W : World) (a : Option Addr) (l c : Nat) => run_neq_slice_nil (P := Tryz.prog) W 40 44 a l c Tryz.underlying40
      by_cases hga : ga = none
      · have hgs : p.grps = [] := by
          cases hp : p.grps with
          | nil => rfl
          | cons x L => obtain ⟨_, _, _, _, _, _, h, _⟩ := HG.out.2 0 x (by rw [hp]; rfl); rw [hga] at h; cases h
        have hlen0 : p.grps.length = 0 := by rw [hgs]; rfl
        subst hga
        rw [hlen0] at q4
        go_wp2_with fail
        refine k15.out _ _ ?_
        refine wp_seq_k fun K17 h17 => ?_
        have k17 := hid h17
        clear h17
        go_wp2_with fail
        obtain ⟨wR, hR⟩ : ∃ wR, wR = wr := ⟨wr, rfl⟩
        subst hR
        obtain ⟨U10, hU⟩ : ∃ U, U = u10 := ⟨u10, rfl⟩
        subst hU
        go_loopw [10, 18] (fun vv v wq => U10 = vv ∧ v = .int .i64 0 ∧ w1 = wq) (fun _ _ _ => 0)
        case atStart => exact ⟨rfl, rfl, rfl⟩
        case round =>
          obtain ⟨rfl, rfl, rfl⟩ := hrel
          go_wp2_with fail
          refine k17.out _ _ ?_
          have P5 := hid (HP'.out.kept (CK.of_below HB1) (fun k es cl hk => HB1.block k (block_lt hk)))
          have G5 : Hid (Grow wR.heap.size PE' PE') := Grow.refl _ _
          have GP5 : Hid (GrpPs (hp + 1) w1 PE' none p.grps) := ⟨by omega, fun k G hk => by rw [hgs] at hk; simp at hk⟩
          have C5 : Hid (CK 0 w1 w1) := CK.refl _ _
          obtain ⟨wM, hwM⟩ : ∃ wM, wM = w1 := ⟨_, rfl⟩
          have bM : Below wR.heap.size wR wM := by rw [hwM]; exact HB1
          have S5 : Hid (∀ (k : Nat), k < w1.heap.size → (∀ r, U10 = .map (some r) → k ≠ r) → w1.heap[k]? = wM.heap[k]?) := fun _ _ _ => by rw [hwM]
          clear hwM
          have B5 : Hid (Below B0 w0 w1) := HB'.out.trans (HB1.mono (by omega))
          have SA5 : Hid (∀ r, U10 = .map (some r) → U10 = U10) := fun _ _ => rfl
          have NW5 : Hid (∀ r, U10 = .map (some r) → U10 = .map (some r) ∨ w1.heap.size ≤ r) := fun _ h => .inl h
          have cwr5 : CK 0 wR w1 := (CK.of_below HB1).trans C5.out
          have v0 := C5.out.2.1 _ _ (Nat.zero_le _) q0
          have v1 := C5.out.2.1 _ _ (Nat.zero_le _) q1
          have v2 := C5.out.2.1 _ _ (Nat.zero_le _) q2
          have v3 := C5.out.2.1 _ _ (Nat.zero_le _) q3
          have hne : ∀ r, U10 = .map (some r) → hp ≠ r := fun r hr e => by
            rcases HP'.out.1 with ⟨h0, _⟩ | ⟨r', h0, _, _, es, cl, h4, _⟩
            · rw [h0] at hr; cases hr
            · rw [h0] at hr; cases hr
              obtain ⟨cu, hcu, _⟩ := ownsRow_block HO'.out
              rw [e, h4] at hcu; cases hcu
          have hrow5 : w1.heap[hp]? = wR.heap[hp]? := (S5.out hp (by omega) hne).trans (bM.block hp hgr)
          have o5 : w1.ownsRow W1.heap.size 60 1 (.slice (some ⟨hp, 0, none⟩) d.pols.length d.pols.length) d.pols.length ys := by
            refine ⟨HO'.out.1, ?_⟩
            rcases HO'.out.2 with h0 | ⟨gg, cap, cur, e1, e2, e3, e4⟩
            · exact .inl h0
            · have : gg = hp := by simp only [Value.slice.injEq, Option.some.injEq, Addr.mk.injEq, and_true] at e1; exact e1.1.symm
              subst this
              exact .inr ⟨gg, cap, cur, e1, e2, hrow5.trans e3, e4⟩
          have hfz := o5.frozenAt j
          obtain ⟨u, hu⟩ : ∃ u, w1.cell? ⟨hp, j, none⟩ = some u := by
            have := o5.cellAt j (by omega)
            rw [this, List.getElem?_eq_getElem (by rw [o5.1]; omega)]
            exact ⟨_, rfl⟩
          have HO5 := hid o5
          have hgr5 : hp < w1.heap.size := Nat.lt_of_lt_of_le hgr cwr5.1
          clear o5 hrow5 hne
          go_wp2_with (go_at_call 21; refine (newPolicy_any _ _ _ _ _ _ _ _).mono ?_; rintro e w6 ⟨rfl, hw6⟩
                       have b56 : Below w1.heap.size w1 w6 := (by rw [hw6]; exact (Below.refl _ _).alloc (Nat.le_refl _) _)
                       have hu6 := (b56.cell (p := ⟨hp, j, none⟩) hgr5).trans hu
                       have hf6 := (b56.frozen (p := ⟨hp, j, none⟩) hgr5).trans hfz
                       have HW6 := hid hw6
                       clear hw6)
          go_roundw
          case rel =>
            have ckn : ∀ w, CK (hp + 1) w (w.setCell ⟨hp, j, none⟩ (.pointer (some ⟨w1.heap.size, 0, none⟩))) := fun w => CK.setCell (by simp) _
            have far : ∀ i, (w6.setCell ⟨hp, j, none⟩ (.pointer (some ⟨w1.heap.size, 0, none⟩))).cell? ⟨w1.heap.size, i, none⟩ = (#[Value.string p.name, .int .i64 p.dur, .int .i64 p.sgd, .int .i64 p.rep, .map none, .slice none p.grps.length 0] : Array Value)[i]? := fun i => by
              rw [World.cell?_setCell_far _ _ _ _ (by simp; omega), HW6.out, World.cell?_alloc_at _ _ _ _ rfl]; rw [hlen0]
            have hne6 : ∀ k, k ≠ hp → (w6.setCell ⟨hp, j, none⟩ (.pointer (some ⟨w1.heap.size, 0, none⟩))).heap[k]? = w6.heap[k]? := fun k hk => Below.heap_setCell _ _ _ _ hk
            obtain ⟨cu, hcu, _⟩ := ownsRow_block HO5.out
            refine ⟨j + 1, PE', ys.set j (.pointer (some ⟨w1.heap.size, 0, none⟩)), by omega, by go_num, P5.out.turn (fun k hk => plain_setCell ((CK.of_below (lo := 0) b56).2.2 k (Nat.zero_le _) hk) _ _) (fun k es cl hk => ?_), HGr.out.trans G5.out hsz, ((ownsRow_below HO5.out b56).stored j _).1, fun k G' hk hG' => ?_, fun k hk hr => ?_, fun r hr => ?_, fun r hr => ?_, ((B5.out.trans (b56.mono (by omega))).setCell (by simp; omega) _), ?_, ((HCK.out.trans cwr5).trans (CK.of_below b56)).setNew (by simp; omega) _⟩
            · rw [hne6 k (fun e => by rw [e, hcu] at hk; cases hk)]; exact b56.block k (block_lt hk)
            · by_cases hkj : k < j
              · obtain ⟨g, e1, e2⟩ := HX.out k G' hkj hG'
                exact ⟨g, by rw [List.getElem?_set_ne (by omega)]; exact e1, e2.ck (((cwr5.mono (Nat.zero_le _)).trans (CK.of_below b56)).trans (ckn _)) G5.out⟩
              · have : k = j := by omega
                subst this
                rw [HJ.out] at hG'
                cases hG'
                refine ⟨w1.heap.size, by rw [List.getElem?_set_self (by have := HO'.out.1; omega)], by omega, far 0, far 1, far 2, far 3, far 4, ⟨none, 0, far 5, (GP5.out.ck (CK.of_below b56) (Grow.refl _ _)).ck (ckn _) (Grow.refl _ _)⟩, HI.out⟩
            · rw [hne6 k (by omega), b56.block k (by omega), S5.out k (by omega) (fun r hr' => ?_), bM.block k (by omega)]
              · exact HK2.out k hk hr
              · rcases HNew.out r hr' with h0 | h0
                · exact hr r h0
                · omega
            · have h1 := HSame.out r hr
              first | exact h1 | (rw [← h1]; exact SA5.out r (h1.trans hr))
            · rcases NW5.out r hr with h0 | h0
              · exact HNew.out r h0
              · exact .inr (by omega)
            · have := b56.size; have := cwr5.1; simp; omega
          case measure => simp [intOf]; omega
      · have ha' : ga.isNone = false := by cases ga with
          | none => exact absurd rfl hga
          | some x => rfl
        clear hga
        go_wp2_with (at_make; refine wpList_make_full _ rfl (.tmp 56) (.tmp 56) 55 rfl w1.heap.size 56 i0 (.pointer none) 1 Tryz.underlying55 hi0 hz0 hs0 .i64 .i64 _ _ p.grps.length rfl rfl rfl rfl hb1 hm1 (Nat.le_refl _) ?_; intro wM hownM hgrowM)
        refine k15.out _ _ ?_
        have bM1 : Below w1.heap.size w1 wM := (Below.refl _ _).grown hgrowM (Nat.le_refl _) (fun k h => by cases h)
        have bM : Below wr.heap.size wr wM := HB1.trans (bM1.mono HB1.size)
        refine grpFor B0 rm wr.heap.size w1.heap.size p ga gc u10 PE' _ w0 w1 wM q4 HG1.out (HP'.out.kept (CK.of_below bM) (fun k es cl hk => bM.block k (block_lt hk))) (by omega) (by omega) (by omega) (Nat.le_refl _) hownM bM1 (HB'.out.trans (bM.mono (by omega))) ?_
        intros
        rename_i pv5 PE5 ys5 w5 hP5 hG5 hO5 hX5 hC5 hS5 hB5 hSA5 hNW5
        have P5 := hid hP5
        have G5 := hid (hG5.mono bM.size)
        have GP5 : Hid (GrpPs (hp + 1) w5 PE5 (some ⟨w1.heap.size, 0, none⟩) p.grps) := ⟨by omega, fun k G hk => by
          obtain ⟨g, e1, e2⟩ := hX5 k G hk
          have hkl := (List.getElem?_eq_some_iff.1 hk).1
          exact ⟨_, _, g, rfl, by omega, by rw [Nat.zero_add, hO5.cellAt k (by omega)]; exact e1, e2.mono (by omega)⟩⟩
        have C5 := hid hC5
        have S5 := hid hS5
        have B5 := hid hB5
        have SA5 := hid hSA5
        have NW5 := hid hNW5
        clear hP5 hG5 hO5 hX5 hC5 hS5 hB5 hSA5 hNW5 hownM hgrowM nq hb1 hm1
        obtain ⟨gv, hgv⟩ : ∃ gv : Option Addr, gv = some ⟨w1.heap.size, 0, none⟩ := ⟨_, rfl⟩
        obtain ⟨gn, hgn⟩ : ∃ gn, gn = p.grps.length := ⟨_, rfl⟩
        rw [← hgv] at GP5
        dsimp only
        conv => arg 2; whnf
        have cwr5 : CK 0 wr w5 := (CK.of_below HB1).trans C5.out
        have v0 := C5.out.2.1 _ _ (Nat.zero_le _) q0
        have v1 := C5.out.2.1 _ _ (Nat.zero_le _) q1
        have v2 := C5.out.2.1 _ _ (Nat.zero_le _) q2
        have v3 := C5.out.2.1 _ _ (Nat.zero_le _) q3
        have hne : ∀ r, u10 = .map (some r) → hp ≠ r := fun r hr e => by
          rcases HP'.out.1 with ⟨h0, _⟩ | ⟨r', h0, _, _, es, cl, h4, _⟩
          · rw [h0] at hr; cases hr
          · rw [h0] at hr; cases hr
            obtain ⟨cu, hcu, _⟩ := ownsRow_block HO'.out
            rw [e, h4] at hcu; cases hcu
        have hrow5 : w5.heap[hp]? = wr.heap[hp]? := (S5.out hp (by omega) hne).trans (bM.block hp hgr)
        have o5 : w5.ownsRow W1.heap.size 60 1 (.slice (some ⟨hp, 0, none⟩) d.pols.length d.pols.length) d.pols.length ys := by
          refine ⟨HO'.out.1, ?_⟩
          rcases HO'.out.2 with h0 | ⟨gg, cap, cur, e1, e2, e3, e4⟩
          · exact .inl h0
          · have : gg = hp := by simp only [Value.slice.injEq, Option.some.injEq, Addr.mk.injEq, and_true] at e1; exact e1.1.symm
            subst this
            exact .inr ⟨gg, cap, cur, e1, e2, hrow5.trans e3, e4⟩
        have hfz := o5.frozenAt j
        obtain ⟨u, hu⟩ : ∃ u, w5.cell? ⟨hp, j, none⟩ = some u := by
          have := o5.cellAt j (by omega)
          rw [this, List.getElem?_eq_getElem (by rw [o5.1]; omega)]
          exact ⟨_, rfl⟩
        have HO5 := hid o5
        have hgr5 : hp < w5.heap.size := Nat.lt_of_lt_of_le hgr cwr5.1
        clear o5 hrow5 hne
        go_wp2_with (go_at_call 21; refine (newPolicy_any _ _ _ _ _ _ _ _).mono ?_; rintro e w6 ⟨rfl, hw6⟩
                     have b56 : Below w5.heap.size w5 w6 := (by rw [hw6]; exact (Below.refl _ _).alloc (Nat.le_refl _) _)
                     have hu6 := (b56.cell (p := ⟨hp, j, none⟩) hgr5).trans hu
                     have hf6 := (b56.frozen (p := ⟨hp, j, none⟩) hgr5).trans hfz
                     have HW6 := hid hw6
                     clear hw6)
        go_roundw
        case rel =>
          have ckn : ∀ w, CK (hp + 1) w (w.setCell ⟨hp, j, none⟩ (.pointer (some ⟨w5.heap.size, 0, none⟩))) := fun w => CK.setCell (by simp) _
          have far : ∀ i, (w6.setCell ⟨hp, j, none⟩ (.pointer (some ⟨w5.heap.size, 0, none⟩))).cell? ⟨w5.heap.size, i, none⟩ = (#[Value.string p.name, .int .i64 p.dur, .int .i64 p.sgd, .int .i64 p.rep, .map none, .slice gv p.grps.length gn] : Array Value)[i]? := fun i => by
            rw [World.cell?_setCell_far _ _ _ _ (by simp; omega), HW6.out, World.cell?_alloc_at _ _ _ _ rfl]; rw [hgv, hgn]
          have hne6 : ∀ k, k ≠ hp → (w6.setCell ⟨hp, j, none⟩ (.pointer (some ⟨w5.heap.size, 0, none⟩))).heap[k]? = w6.heap[k]? := fun k hk => Below.heap_setCell _ _ _ _ hk
          obtain ⟨cu, hcu, _⟩ := ownsRow_block HO5.out
          refine ⟨j + 1, PE5, ys.set j (.pointer (some ⟨w5.heap.size, 0, none⟩)), by omega, by go_num, P5.out.turn (fun k hk => plain_setCell ((CK.of_below (lo := 0) b56).2.2 k (Nat.zero_le _) hk) _ _) (fun k es cl hk => ?_), HGr.out.trans G5.out hsz, ((ownsRow_below HO5.out b56).stored j _).1, fun k G' hk hG' => ?_, fun k hk hr => ?_, fun r hr => ?_, fun r hr => ?_, ((B5.out.trans (b56.mono (by omega))).setCell (by simp; omega) _), ?_, ((HCK.out.trans cwr5).trans (CK.of_below b56)).setNew (by simp; omega) _⟩
          · rw [hne6 k (fun e => by rw [e, hcu] at hk; cases hk)]; exact b56.block k (block_lt hk)
          · by_cases hkj : k < j
            · obtain ⟨g, e1, e2⟩ := HX.out k G' hkj hG'
              exact ⟨g, by rw [List.getElem?_set_ne (by omega)]; exact e1, e2.ck (((cwr5.mono (Nat.zero_le _)).trans (CK.of_below b56)).trans (ckn _)) G5.out⟩
            · have : k = j := by omega
              subst this
              rw [HJ.out] at hG'
              cases hG'
              refine ⟨w5.heap.size, by rw [List.getElem?_set_self (by have := HO'.out.1; omega)], by omega, far 0, far 1, far 2, far 3, far 4, ⟨gv, gn, far 5, (GP5.out.ck (CK.of_below b56) (Grow.refl _ _)).ck (ckn _) (Grow.refl _ _)⟩, HI.out⟩
          · rw [hne6 k (by omega), b56.block k (by omega), S5.out k (by omega) (fun r hr' => ?_), bM.block k (by omega)]
            · exact HK2.out k hk hr
            · rcases HNew.out r hr' with h0 | h0
              · exact hr r h0
              · omega
          · have h1 := HSame.out r hr
            first | exact h1 | (rw [← h1]; exact SA5.out r (h1.trans hr))
          · rcases NW5.out r hr with h0 | h0
            · exact HNew.out r h0
            · exact .inr (by omega)
          · have := b56.size; have := cwr5.1; simp; omega
        case measure => simp [intOf]; omega
    · have hle : j = d.pols.length := by omega
      subst hle
      have HO' := hid hownr
      clear hownr
      go_wp2_with fail
      exact hK.out _ _ (H _ _ _ _ _ _ _ _ _ _ _ _ _ _ _ _ _ _ _ _ _ _ _ _ _ _ _ _ _ _ _ _ _ _ _ _ _ _ _ _ _ _ _ _ _ _ _ _ _ _ _ _ _ _ _ _ _ _ _ _ _ _ _ _ _ _ _ _ _ _ _ _ _ PE' ys wr HP'.out HGr.out HO'.out (fun k G hk => HX.out k G (List.getElem?_eq_some_iff.1 hk).1 hk) HCK.out HK2.out HB'.out HSame.out HNew.out)
end Go.Proofs.Qxb6609540aGreatDoor
