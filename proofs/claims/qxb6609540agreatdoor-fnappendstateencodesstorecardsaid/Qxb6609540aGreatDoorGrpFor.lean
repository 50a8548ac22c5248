/-
  zzBuild: the loop over a policy's groups.
-/
import Derived.Test.Qxb6609540aGreatDoorBuilt
import Derived.Deep.DeepCutAuto
import Derived.Deep.Cut
import Derived.Deep.RegionHeld3
import Derived.Deep.DrawnRows
import Derived.BigQuiet
namespace Go.Proofs.Qxb6609540aGreatDoor
open Go.RowKit Go.ChangeMaps
set_option linter.unusedSimpArgs false
def headRegion : Code → Option Nat
  | .region k _ _ => some k
  | .seq a _ => headRegion a
  | _ => none
def codeFrom (n : Nat) : Code → Option Code
  | .seq a b => if headRegion a = some n then some (.seq a b) else match codeFrom n a with
    | some c => some c
    | none => codeFrom n b
  | .block _ c => codeFrom n c
  | .scope c => codeFrom n c
  | .loop c => codeFrom n c
  | .cond _ a b => match codeFrom n a with
    | some c => some c
    | none => codeFrom n b
  | _ => none
def sndOf : Code → Code
  | .seq _ b => b
  | c => c
section
variable {w w' : World} {a : Option Addr}
theorem StrsAt.ck {L : List ByteArray} (h : StrsAt w a L) (hb : CK 0 w w') : StrsAt w' a L :=
  ⟨h.1, fun k s hk => by
    obtain ⟨b, off, h1, h2, h3, h4⟩ := h.2 k s hk
    exact ⟨b, off, h1, Nat.lt_of_lt_of_le h2 hb.1, hb.2.1 _ _ (Nat.zero_le _) h3, h4⟩⟩
theorem SegsAt.ck {L : List SegV} (h : SegsAt w a L) (hb : CK 0 w w') : SegsAt w' a L :=
  ⟨h.1, fun k s hk => by
    obtain ⟨b, off, am, cm, h1, h2, h3, h4, h5, h6, h7, h8⟩ := h.2 k s hk
    exact ⟨b, off, am, cm, h1, Nat.lt_of_lt_of_le h2 hb.1, hb.2.1 _ _ (Nat.zero_le _) h3, hb.2.1 _ _ (Nat.zero_le _) h4, hb.2.1 _ _ (Nat.zero_le _) h5, h6.ck hb, h7, h8⟩⟩
theorem GrpsAt.ck {L : List GrpV} (h : GrpsAt w a L) (hb : CK 0 w w') : GrpsAt w' a L :=
  ⟨h.1, fun k s hk => by
    obtain ⟨b, off, sa, sc, pa, pc, h1, h2, h3, h4, h5, h6, h7, h8, h9, h10⟩ := h.2 k s hk
    exact ⟨b, off, sa, sc, pa, pc, h1, Nat.lt_of_lt_of_le h2 hb.1, hb.2.1 _ _ (Nat.zero_le _) h3, hb.2.1 _ _ (Nat.zero_le _) h4, hb.2.1 _ _ (Nat.zero_le _) h5, hb.2.1 _ _ (Nat.zero_le _) h6, hb.2.1 _ _ (Nat.zero_le _) h7, h8.ck hb, h9.ck hb, h10⟩⟩
theorem PolsAt.ck {L : List PolV} (h : PolsAt w a L) (hb : CK 0 w w') : PolsAt w' a L :=
  ⟨h.1, fun k s hk => by
    obtain ⟨b, off, ga, gc, h1, h2, h3, h4, h5, h6, h7, h8, h9⟩ := h.2 k s hk
    exact ⟨b, off, ga, gc, h1, Nat.lt_of_lt_of_le h2 hb.1, hb.2.1 _ _ (Nat.zero_le _) h3, hb.2.1 _ _ (Nat.zero_le _) h4, hb.2.1 _ _ (Nat.zero_le _) h5, hb.2.1 _ _ (Nat.zero_le _) h6, hb.2.1 _ _ (Nat.zero_le _) h7, h8.ck hb, h9⟩⟩
theorem DbsAt.ck {L : List DbV} (h : DbsAt w a L) (hb : CK 0 w w') : DbsAt w' a L :=
  ⟨h.1, fun k s hk => by
    obtain ⟨b, off, pa, pc, h1, h2, h3, h4, h5, h6, h7, h8⟩ := h.2 k s hk
    exact ⟨b, off, pa, pc, h1, Nat.lt_of_lt_of_le h2 hb.1, hb.2.1 _ _ (Nat.zero_le _) h3, hb.2.1 _ _ (Nat.zero_le _) h4, hb.2.1 _ _ (Nat.zero_le _) h5, hb.2.1 _ _ (Nat.zero_le _) h6, h7.ck hb, h8⟩⟩
end
theorem plain_setCell {w : World} {k : Nat} (h : Plain w k) (p : Addr) (u : Value) : Plain (w.setCell p u) k := by
  obtain ⟨cs, t, hk⟩ := h
  by_cases e : k = p.block
  · subst e
    unfold World.setCell
    cases hs : p.spot.isSome
    · refine ⟨cs.setIfInBounds p.off u, t, ?_⟩
      rw [Array.getElem?_modify]
      simp [hk, hs]
    · refine ⟨cs, t, ?_⟩
      rw [Array.getElem?_modify]
      simp [hk, hs]
  · exact ⟨cs, t, (Below.heap_setCell w p u k e).trans hk⟩
theorem PlanIs.turn {B rm : Nat} {w w' : World} {v : Value} {PE : List (Nat × Value)} (h : PlanIs B rm w v PE) (hp : ∀ k, Plain w k → Plain w' k) (hm : ∀ (k : Nat) es clock, w.heap[k]? = some (Obj.map es clock) → w'.heap[k]? = w.heap[k]?) : PlanIs B rm w' v PE := by
  refine ⟨?_, fun p hq => hp _ (h.2 p hq)⟩
  rcases h.1 with h0 | ⟨r, h1, h2, h3, es, clock, h4, h5⟩
  · exact .inl h0
  · exact .inr ⟨r, h1, h2, h3, es, clock, by rw [hm r es clock h4]; exact h4, h5⟩
theorem run_eql_map_nil31 (r : Option Nat) (w : World) : (binOp .eql 31 (.map r) (.map none)).run Tryz.prog w = .ok (.bool r.isNone) w := by
  have h : ∀ d : Nat, (Op.equalIn (d + 1) 31 (.map r) (.map none)).run Tryz.prog w = .ok r.isNone w := fun d => by
    cases r <;> (simp only [Op.equalIn, Sem.run_bind, run_underlying Tryz.underlying31, Result.andThen_ok]; rfl)
  simp only [binOp]
  simp [Op.equal, Op.maxDepth, h 9999]
theorem Tryz.size56 : (Tryz.prog.info? 56).map (·.size) = some 1 := by kernel_rfl
theorem below_drewN' {B : Nat} {a w : World} (h : Below B a w) (n : Nat) : Below B a (w.drewN n) := ⟨h.os, h.tape, h.output, h.size, h.block⟩
set_option linter.unusedVariables false in
set_option maxRecDepth 1000000 in
set_option maxHeartbeats 16000000 in
theorem grpFor (B0 rm gp hg : Nat) (p : PolV) (ga : Option Addr) (gc : Nat) (pv : Value) (PE : List (Nat × Value)) (xs0 : List Value) (w0 W3 w : World)
    (hgc : W3.cell? ⟨gp, 4, none⟩ = some (.slice ga p.grps.length gc)) (hG : GrpsAt W3 ga p.grps) (hpl : PlanIs B0 rm w pv PE) (hB0 : B0 ≤ W3.heap.size) (hrm : rm < W3.heap.size) (hgp : gp < W3.heap.size) (hW3 : W3.heap.size ≤ hg) (hown : w.ownsRow W3.heap.size 56 1 (.slice (some ⟨hg, 0, none⟩) p.grps.length p.grps.length) p.grps.length xs0)
    (hck : Below W3.heap.size W3 w) (hbl : Below B0 w0 w)
    {s0 s1 s2 s3 s4 s5 s6 s7 s8 s9 s11 s12 s13 s14 s15 s18 s19 s20 s21 s22 s23 s24 s25 s26 s27 s28 s29 s30 s31 s32 s33 s34 s35 s36 s37 s38 s39 s40 s41 s42 s43 s44 s45 s46 s47 s48 s49 s50 s51 s52 s53 s54 s55 s56 s57 s58 s59 s60 s61 s62 s63 s64 s65 s66 s67 s68 s69 s70 s71 s72 s73 s74 s75 s76 s77 s78 s79 s80 s81 s82 s83 s84 s85 s86 s87 s88 s89 s90 s91 s92 s93 s94 s95 s96 s97 s98 s99 s100 s101 s102 s103 s104 s105 s106 s107 s108 s109 s110 s111 s112 s113 s114 s115 s116 s117 s118 s119 s120 s121 s122 s123 s124 s125 s126 s127 : Value} {Q : Exit → Act → World → Prop}
    (H : ∀ (t18 t19 t20 t58 t59 t60 t61 t62 t63 t64 t65 t66 t67 t68 t69 t70 t71 t72 t73 t74 t75 t76 t77 t78 t79 t80 t81 t82 t83 t84 t85 t86 t87 t88 t89 t90 t91 pv' : Value) (PE' : List (Nat × Value)) (ys : List Value) (w' : World), PlanIs B0 rm w' pv' PE' → Grow w.heap.size PE PE' → w'.ownsRow W3.heap.size 56 1 (.slice (some ⟨hg, 0, none⟩) p.grps.length p.grps.length) p.grps.length ys →
      (∀ (k : Nat) G, p.grps[k]? = some G → ∃ g, ys[k]? = some (.pointer (some ⟨g, 0, none⟩)) ∧ GrpP (hg + 1) w' PE' g G) → CK 0 W3 w' → (∀ (k : Nat), k < W3.heap.size → (∀ r, pv = .map (some r) → k ≠ r) → w'.heap[k]? = w.heap[k]?) → Below B0 w0 w' → (∀ r, pv = .map (some r) → pv' = pv) → (∀ r, pv' = .map (some r) → pv = .map (some r) ∨ W3.heap.size ≤ r) → Code.wp Tryz.prog (sndOf ((Tryz.f9.body.bind (codeFrom 17)).getD .skip)) Q ⟨#[s0, s1, s2, s3, s4, s5, s6, s7, s8, s9, pv', s11, s12, s13, s14, s15, .pointer (some ⟨gp, 0, none⟩), .slice (some ⟨hg, 0, none⟩) p.grps.length p.grps.length, t18, t19, t20, s21, s22, s23, s24, s25, s26, s27, s28, s29, s30, s31, s32, s33, s34, s35, s36, s37, s38, s39, s40, s41, s42, s43, s44, s45, s46, s47, s48, s49, s50, s51, s52, s53, s54, s55, s56, s57, t58, t59, t60, t61, t62, t63, t64, t65, t66, t67, t68, t69, t70, t71, t72, t73, t74, t75, t76, t77, t78, t79, t80, t81, t82, t83, t84, t85, t86, t87, t88, t89, t90, t91, s92, s93, s94, s95, s96, s97, s98, s99, s100, s101, s102, s103, s104, s105, s106, s107, s108, s109, s110, s111, s112, s113, s114, s115, s116, s117, s118, s119, s120, s121, s122, s123, s124, s125, s126, s127], []⟩ w') :
    Code.wp Tryz.prog ((Tryz.f9.body.bind (codeFrom 17)).getD .skip) Q ⟨#[s0, s1, s2, s3, s4, s5, s6, s7, s8, s9, pv, s11, s12, s13, s14, s15, .pointer (some ⟨gp, 0, none⟩), .slice (some ⟨hg, 0, none⟩) p.grps.length p.grps.length, s18, s19, s20, s21, s22, s23, s24, s25, s26, s27, s28, s29, s30, s31, s32, s33, s34, s35, s36, s37, s38, s39, s40, s41, s42, s43, s44, s45, s46, s47, s48, s49, s50, s51, s52, s53, s54, s55, s56, s57, s58, s59, s60, s61, s62, s63, s64, s65, s66, s67, s68, s69, s70, s71, s72, s73, s74, s75, s76, s77, s78, s79, s80, s81, s82, s83, s84, s85, s86, s87, s88, s89, s90, s91, s92, s93, s94, s95, s96, s97, s98, s99, s100, s101, s102, s103, s104, s105, s106, s107, s108, s109, s110, s111, s112, s113, s114, s115, s116, s117, s118, s119, s120, s121, s122, s123, s124, s125, s126, s127], []⟩ w := by
  have HG := hid hG
  have HP := hid hpl
  have HO := hid hown
  have HC := hid hck
  have HB := hid hbl
  have hl := hG.1
  have hgs := (hown.lt _ rfl).2
  clear hG hpl hown hck hbl
  dsimp only
  conv => arg 2; whnf
  refine wp_seq_k fun K hK0 => ?_
  have hK := hid hK0
  clear hK0
  go_wp2_with fail
  go_loopw [10, 18] (fun v10 v18 wr => ∃ (l : Nat) (PE' : List (Nat × Value)) (ys : List Value), l ≤ p.grps.length ∧ v18 = .int .i64 l ∧ Hid (PlanIs B0 rm wr v10 PE') ∧ Hid (Grow w.heap.size PE PE') ∧ wr.ownsRow W3.heap.size 56 1 (.slice (some ⟨hg, 0, none⟩) p.grps.length p.grps.length) p.grps.length ys ∧
      Hid (∀ (k : Nat) G, k < l → p.grps[k]? = some G → ∃ g, ys[k]? = some (.pointer (some ⟨g, 0, none⟩)) ∧ GrpP (hg + 1) wr PE' g G) ∧ Hid (∀ (k : Nat), k < W3.heap.size → (∀ r, pv = .map (some r) → k ≠ r) → wr.heap[k]? = w.heap[k]?) ∧ Hid (∀ r, pv = .map (some r) → v10 = pv) ∧ Hid (∀ r, v10 = .map (some r) → pv = .map (some r) ∨ W3.heap.size ≤ r) ∧ Hid (Below B0 w0 wr) ∧ w.heap.size ≤ wr.heap.size ∧ Hid (CK 0 W3 wr)) (fun _ v18 _ => p.grps.length - (intOf v18).toNat)
  case atStart => exact ⟨0, PE, xs0, Nat.zero_le _, rfl, HP.out, Grow.refl _ _, HO.out, fun k G h => absurd h (Nat.not_lt_zero _), fun _ _ _ => rfl, fun _ _ => rfl, fun _ h => .inl h, HB.out, Nat.le_refl _, CK.of_below HC.out⟩
  case round =>
    obtain ⟨l, PE', ys, hll, rfl, HP', HGr, hownr, HX, HK2, HSame, HNew, HB', hsz, HCK⟩ := hrel
    have hgc' := HCK.out.2.1 ⟨gp, 4, none⟩ _ (Nat.zero_le _) hgc
    by_cases hlt : l < p.grps.length
    · obtain ⟨G, hGl⟩ := get_of hlt
      obtain ⟨b, off, sa, sc, pa, pc, rfl, hbw, m0, m1, m2, m3, m4, hS, hP, i1, i2⟩ := HG.out.2 l G hGl
      replace m0 := HCK.out.2.1 _ _ (Nat.zero_le _) m0
      replace m1 := HCK.out.2.1 _ _ (Nat.zero_le _) m1
      replace m2 := HCK.out.2.1 _ _ (Nat.zero_le _) m2
      replace m3 := HCK.out.2.1 _ _ (Nat.zero_le _) m3
      replace m4 := HCK.out.2.1 _ _ (Nat.zero_le _) m4
      replace hS := hS.ck HCK.out
      have HJ := hid hGl
      have HI := hid (And.intro i1 i2)
      have HS := hid hS
      have HQ := hid hP
      clear hGl i1 i2 hS hP
      have hfz := hownr.frozenAt l
      obtain ⟨u, hu⟩ : ∃ u, wr.cell? ⟨hg, l, none⟩ = some u := by
        have := hownr.cellAt l (by omega)
        rw [this, List.getElem?_eq_getElem (by rw [hownr.1]; omega)]
        exact ⟨_, rfl⟩
      have hgr : hg < wr.heap.size := (hownr.lt _ rfl).2
      have HO' := hid hownr
      clear hownr
      go_upto_region 21 with fail
      obtain ⟨w1, hw1⟩ : ∃ w1, w1 = wr.alloc (.cells #[.int .i64 G.st, .int .i64 G.en, .slice sa G.segs.length sc, .bool G.planned, .slice pa G.plan.length pc] 44) := ⟨_, rfl⟩
      have HB1 : Below wr.heap.size wr w1 := by rw [hw1]; exact (Below.refl _ _).alloc (Nat.le_refl _) _
      have q0 : w1.cell? ⟨wr.heap.size, 0, none⟩ = some (.int .i64 G.st) := by rw [hw1, World.cell?_alloc_at _ _ _ _ rfl]; rfl
      have q1 : w1.cell? ⟨wr.heap.size, 1, none⟩ = some (.int .i64 G.en) := by rw [hw1, World.cell?_alloc_at _ _ _ _ rfl]; rfl
      have q2 : w1.cell? ⟨wr.heap.size, 2, none⟩ = some (.slice sa G.segs.length sc) := by rw [hw1, World.cell?_alloc_at _ _ _ _ rfl]; rfl
      have q3 : w1.cell? ⟨wr.heap.size, 3, none⟩ = some (.bool G.planned) := by rw [hw1, World.cell?_alloc_at _ _ _ _ rfl]; rfl
      have q4 : w1.cell? ⟨wr.heap.size, 4, none⟩ = some (.slice pa G.plan.length pc) := by rw [hw1, World.cell?_alloc_at _ _ _ _ rfl]; rfl
      have z1 : w1.heap.size = wr.heap.size + 1 := by rw [hw1]; simp
      rw [← hw1]
      clear hw1 m0 m1 m2 m3 m4
      have HS1 := hid (HS.out.kept (Kept.of HB1))
      go_region_held3 (fun w' => w'.cell? ⟨wr.heap.size, 0, none⟩ = some (.int .i64 G.st) ∧ w'.cell? ⟨wr.heap.size, 1, none⟩ = some (.int .i64 G.en) ∧ w'.cell? ⟨wr.heap.size, 2, none⟩ = some (.slice sa G.segs.length sc))
        (first
          | go_keep
          | (go_split_ands; refine ⟨?_, ?_, ?_⟩ <;> (rw [hb2'.cell (by simp; omega)]; assumption))
          | (go_split_ands; refine ⟨?_, ?_, ?_⟩ <;> (rw [hb1'.cell (by simp; omega)]; assumption)))
        (first
          | (go_at_call 20; refine (segs_any sa sc G.segs _ (by exact HS1.out.kept (Kept.of ((Below.refl _ _).drew)))).mono ?_; rintro e w2 ⟨a', c', rfl, hst', hb1'⟩; have HST := hid hst'; clear hst'; have s2 : w1.heap.size ≤ w2.heap.size := by (have t := hb1'.size; simp at t; omega))
          | (go_at_call 19; refine (newGroup_any _ _ _ _ _ _).mono ?_; rintro e w3 ⟨rfl, gcs, hw3, g0, g1, g2⟩; have hb2' : Below w2.heap.size w2 w3 := (by rw [hw3]; exact (Below.refl _ _).alloc (Nat.le_refl _) _); have HW3 := hid hw3; have HGC := hid (And.intro g0 (And.intro g1 g2)); clear hw3 g0 g1 g2))
      have b13 : Below w1.heap.size w1 w3 := ((Below.refl _ _).drew.trans hb1').trans (hb2'.mono hb1'.size)
      have b3 : Below wr.heap.size wr w3 := HB1.trans (b13.mono HB1.size)
      have s3 : w2.heap.size < w3.heap.size := by rw [HW3.out]; simp
      have hu3 := (b3.cell (p := ⟨hg, l, none⟩) hgr).trans hu
      have hf3 := (b3.frozen (p := ⟨hg, l, none⟩) hgr).trans hfz
      have r3 := (b13.cell (p := ⟨wr.heap.size, 3, none⟩) (by simp; omega)).trans q3
      have r4 := (b13.cell (p := ⟨wr.heap.size, 4, none⟩) (by simp; omega)).trans q4
      clear q0 q1 q2 q3 q4
      go_upto_region 23 with fail
      obtain ⟨w4, hw4⟩ : ∃ w4, w4 = w3.setCell ⟨hg, l, none⟩ (.pointer (some ⟨w2.heap.size, 0, none⟩)) := ⟨_, rfl⟩
      have t3 : w4.cell? ⟨wr.heap.size, 3, none⟩ = some (.bool G.planned) := by rw [hw4, World.cell?_setCell_far _ _ _ _ (by simp; omega)]; exact r3
      have t4 : w4.cell? ⟨wr.heap.size, 4, none⟩ = some (.slice pa G.plan.length pc) := by rw [hw4, World.cell?_setCell_far _ _ _ _ (by simp; omega)]; exact r4
      have o4 := hid ((ownsRow_below HO'.out b3).stored l (.pointer (some ⟨w2.heap.size, 0, none⟩))).1
      rw [← hw4] at o4 ⊢
      have ck4 : CK (hg + 1) wr w4 := by rw [hw4]; exact (CK.of_below b3).trans (CK.setCell (by simp) _)
      have ckW : CK 0 W3 w4 := by rw [hw4]; exact (HCK.out.trans (CK.of_below b3)).setNew hW3 _
      have hne4 : ∀ k, k ≠ hg → w4.heap[k]? = w3.heap[k]? := fun k hk => by rw [hw4]; exact Below.heap_setCell _ _ _ _ hk
      obtain ⟨cu, hcu, _⟩ := ownsRow_block HO'.out
      have hmap4 : ∀ (k : Nat) es clock, wr.heap[k]? = some (Obj.map es clock) → w4.heap[k]? = wr.heap[k]? := fun k es clock hk => by
        have h1 : k ≠ hg := fun e => by rw [e, hcu] at hk; cases hk
        rw [hne4 k h1]; exact b3.block k (block_lt hk)
      have hpl4 : ∀ k, Plain wr k → Plain w4 k := fun k hk => by rw [hw4]; exact plain_setCell ((CK.of_below (lo := 0) b3).2.2 k (Nat.zero_le _) hk) _ _
      have P4 := hid (HP'.out.turn hpl4 hmap4)
      have HK4 : Hid (∀ (k : Nat), k < W3.heap.size → (∀ r, pv = .map (some r) → k ≠ r) → w4.heap[k]? = w.heap[k]?) := fun k hk hr => by
        rw [hne4 k (by omega), b3.block k (by omega)]; exact HK2.out k hk hr
      have B4 : Hid (Below B0 w0 w4) := by rw [hw4]; exact (HB'.out.trans (b3.mono (by omega))).setCell (by simp; omega) _
      have s4 : Hid (w4.heap.size = w3.heap.size) := by rw [hw4]; simp [Hid]
      have gS : Hid (SegPs (hg + 1) w4 a' G.segs) := by rw [hw4]; exact ((HST.out.mono (by simp; omega)).ck (CK.of_below hb2')).ck (CK.setCell (by simp) _)
      obtain ⟨c0, c1, c2⟩ := HGC.out
      have gfar : ∀ i, w4.cell? ⟨w2.heap.size, i, none⟩ = gcs[i]? := fun i => by
        rw [hw4, World.cell?_setCell_far _ _ _ _ (by simp; omega), HW3.out, World.cell?_alloc_at _ _ _ _ rfl]
      have d0 := hid ((gfar 0).trans c0)
      have d1 := hid ((gfar 1).trans c1)
      have d2 := hid ((gfar 2).trans c2)
      have gPl : Hid (Plain w4 w2.heap.size) := by rw [hw4]; refine plain_setCell ?_ _ _; rw [HW3.out]; exact plain_new _ _ _
      have gnone : Hid (planAt PE' w2.heap.size = none) := planAt_none_of fun q hq => by have := (HP'.out.2 q hq).lt; omega
      have gX : Hid (∀ (PE2 : List (Nat × Value)) (wz : World), CK (hg + 1) w4 wz → Grow wr.heap.size PE' PE2 → ∀ (k : Nat) G', k < l → p.grps[k]? = some G' → ∃ g, (ys.set l (.pointer (some ⟨w2.heap.size, 0, none⟩)))[k]? = some (.pointer (some ⟨g, 0, none⟩)) ∧ GrpP (hg + 1) wz PE2 g G') := fun PE2 wz hck hgr k G' hk hG' => by
        obtain ⟨g, e1, e2⟩ := HX.out k G' hk hG'
        exact ⟨g, by rw [List.getElem?_set_ne (by omega)]; exact e1, e2.ck (ck4.trans hck) hgr⟩
      have hlen : ys.length = p.grps.length := by have := HO'.out.1; omega
      have hl4 : wr.heap.size ≤ w4.heap.size := by rw [s4.out]; exact b3.size
      have hl5 : w2.heap.size < w4.heap.size := by rw [s4.out]; exact s3
      clear s4
      clear hne4 hcu hmap4 hpl4 gfar c0 c1 c2 hw4 hu3 hf3 r3 r4 hu hfz
      have HCK4 := hid ckW
      clear ckW
      cases hpd : G.planned
      · rw [hpd] at t3
        go_wp2_with fail
        go_roundw
        case rel =>
          refine ⟨l + 1, PE', _, by omega, by go_num, P4.out, HGr.out, o4.out, fun k G' hk hG' => ?_, HK4.out, HSame.out, HNew.out, B4.out, by omega, HCK4.out⟩
          by_cases hkl : k < l
          · exact gX.out PE' w4 (CK.refl _ _) (Grow.refl _ _) k G' hkl hG'
          · have : k = l := by omega
            subst this
            rw [HJ.out] at hG'
            cases hG'
            exact ⟨w2.heap.size, by rw [List.getElem?_set_self (by omega)], by omega, gPl.out, d0.out, d1.out, ⟨_, _, d2.out, gS.out⟩, HI.out.1, HI.out.2, (fun h => absurd (hpd.symm.trans h) (by decide)), fun _ => gnone.out⟩
        case measure => simp [intOf]; omega
      · rw [hpd] at t3
        have hmm := @run_makeMap Tryz.prog
        have e31 := fun (W : World) (r : Option Nat) => run_eql_map_nil31 r W
        rcases P4.out.1 with ⟨hv, hpe⟩ | ⟨r, hv, hBr, hrr, hPr⟩
        · subst hv
          go_upto_region 26 with fail
          obtain ⟨wx, hwx⟩ : ∃ wx, wx = w4.alloc (Obj.map #[] 0) := ⟨_, rfl⟩
          have bx : Below w4.heap.size w4 wx := by rw [hwx]; exact (Below.refl _ _).alloc (Nat.le_refl _) _
          have hPx : Hid (PlanAt wx w4.heap.size PE') := by rw [hwx, hpe]; exact ⟨#[], 0, heap_alloc_new _ _, rfl⟩
          rw [← hwx]
          clear hwx
          obtain ⟨r, hr⟩ : ∃ r, r = w4.heap.size := ⟨_, rfl⟩
          rw [← hr] at hPx ⊢
          have hrB : B0 ≤ r := by omega
          have hrn : r ≠ rm := by omega
          have HSx : Hid (∀ q, pv = .map (some q) → Value.map (some r) = pv) := fun q hq => by have := HSame.out q hq; rw [hq] at this; cases this
          have hrk : ∀ k, k < W3.heap.size → (∀ q, pv = .map (some q) → k ≠ q) → k ≠ r := fun k hk _ => by omega
          have HNx : Hid (∀ q, Value.map (some r) = .map (some q) → pv = .map (some q) ∨ W3.heap.size ≤ q) := fun q hq => .inr (by cases hq; omega)
          clear hr
          have ckx : CK (hg + 1) w4 wx := CK.of_below bx
          have HQx := hid (HQ.out.ck (HCK4.out.trans (CK.of_below bx)))
          have t4x := (bx.cell (p := ⟨wr.heap.size, 4, none⟩) (World.block_lt_of_cell? _ _ t4)).trans t4
          have PLx : Hid (∀ q ∈ PE', Plain wx q.1) := fun q hq => (CK.of_below (lo := 0) bx).2.2 _ (Nat.zero_le _) (P4.out.2 q hq)
          have gPx := hid ((CK.of_below (lo := 0) bx).2.2 _ (Nat.zero_le _) gPl.out)
          go_wp2_with (go_at_call 20; refine (segs_any _ _ _ _ (by exact HQx.out)).mono ?_; rintro e w6 ⟨a2, c2, rfl, hst2, b6⟩
                       obtain ⟨w7, hrun7, hP7, hT7⟩ := plan_store (w := w6) (r := r) (PE := PE') (by obtain ⟨es, clock, e1, e2⟩ := hPx.out; exact ⟨es, clock, (b6.block _ (block_lt e1)).trans e1, e2⟩) w2.heap.size ((CK.of_below (lo := 0) b6).2.2 _ (Nat.zero_le _) gPx.out) (fun q hq => (CK.of_below (lo := 0) b6).2.2 _ (Nat.zero_le _) (PLx.out q hq)) (.slice a2 G.plan.length c2) gnone.out
                       have hrun7' : (Instr.mapUpdate 31 (.map (some r)) (.pointer (some ⟨w2.heap.size, 0, none⟩)) (.slice a2 G.plan.length c2)).run Tryz.prog w6 = .ok () w7 := hrun7
                       have HP7 := hid hP7
                       have HT7 := hid hT7
                       have HST2 := hid hst2
                       clear hrun7 hP7 hT7 hst2)
          have b46 : Below w4.heap.size w4 w6 := bx.trans (b6.mono bx.size)
          have ck67 : ∀ lo, CK lo w6 w7 := fun lo => CK.turned HT7.out
          have s67 : w6.heap.size ≤ w7.heap.size := (ck67 0).1
          have hturn : ∀ k, k ≠ r → w7.heap[k]? = w6.heap[k]? := fun k hk => by
            obtain ⟨es, cl, es', cl', hb, rfl⟩ := HT7.out
            exact heap_setBlock_other hb _ hk
          go_roundw
          case rel =>
            have ck47 : ∀ lo, CK lo w4 w7 := fun lo => (CK.of_below b46).trans (ck67 lo)
            refine ⟨l + 1, PE' ++ [(w2.heap.size, .slice a2 G.plan.length c2)], ys.set l (.pointer (some ⟨w2.heap.size, 0, none⟩)), by omega, by go_num, ⟨.inr ⟨r, rfl, hrB, hrn, HP7.out⟩, fun q hq => ?_⟩, ?_, ?_, fun k G' hk hG' => ?_, fun k hk hr => ?_, HSx.out, HNx.out, ?_, Nat.le_trans hsz (Nat.le_trans hl4 (Nat.le_trans b46.size s67)), HCK4.out.trans (ck47 0)⟩
            · rcases List.mem_append.1 hq with hq | hq
              · exact (ck67 0).2.2 _ (Nat.zero_le _) ((CK.of_below (lo := 0) b6).2.2 _ (Nat.zero_le _) (PLx.out q hq))
              · rw [List.mem_singleton.1 hq]
                exact (ck47 0).2.2 _ (Nat.zero_le _) gPl.out
            · exact HGr.out.trans (N' := wr.heap.size) ⟨_, rfl, fun q hq => by rw [List.mem_singleton.1 hq]; show wr.heap.size ≤ w2.heap.size; omega⟩ hsz
            · have o6 := ownsRow_below o4.out b46
              obtain ⟨cu, hcu, _, _⟩ := ownsRow_block o6
              refine ⟨o6.1, ?_⟩
              rcases o6.2 with h0 | ⟨gg, cap, cur, e1, e2, e3, e4⟩
              · exact .inl h0
              · refine .inr ⟨gg, cap, cur, e1, e2, ?_, e4⟩
                rw [hturn gg (fun e => by
                  obtain ⟨es, cl, es', cl', hb, _⟩ := HT7.out
                  rw [e, hb] at e3; cases e3)]
                exact e3
            · by_cases hkl : k < l
              · exact gX.out _ w7 (ck47 _) ⟨_, rfl, fun q hq => by rw [List.mem_singleton.1 hq]; show wr.heap.size ≤ w2.heap.size; omega⟩ k G' hkl hG'
              · have : k = l := by omega
                subst this
                rw [HJ.out] at hG'
                cases hG'
                refine ⟨w2.heap.size, by rw [List.getElem?_set_self (by omega)], by omega, (ck47 0).2.2 _ (Nat.zero_le _) gPl.out, (ck47 0).2.1 _ _ (Nat.zero_le _) d0.out, (ck47 0).2.1 _ _ (Nat.zero_le _) d1.out, ⟨_, _, (ck47 0).2.1 _ _ (Nat.zero_le _) d2.out, gS.out.ck (ck47 _)⟩, HI.out.1, HI.out.2, fun _ => ⟨a2, c2, ?_, ?_⟩, fun h => absurd (hpd.symm.trans h) (by decide)⟩
                · rw [planAt_append, gnone.out]; simp [planAt]
                · exact (HST2.out.mono (by have := bx.size; omega)).ck (ck67 _)
            · have hkr : k ≠ r := hrk k hk hr
              rw [hturn k hkr, b46.block k (by omega)]
              exact HK4.out k hk hr
            · have b7 : Below B0 w6 w7 := by
                obtain ⟨es, cl, es', cl', hb, rfl⟩ := HT7.out
                exact ⟨rfl, rfl, rfl, by simp [setBlock], fun k hk => heap_setBlock_other hb _ (by omega)⟩
              exact (B4.out.trans (b46.mono (by omega))).trans b7
          case measure => simp [intOf]; omega
        · subst hv
          go_upto_region 26 with fail
          obtain ⟨wx, hwx⟩ : ∃ wx, wx = w4 := ⟨_, rfl⟩
          have bx : Below w4.heap.size w4 wx := by rw [hwx]; exact Below.refl _ _
          have hPx : Hid (PlanAt wx r PE') := by rw [hwx]; exact hPr
          have HX4 := hid hwx
          have hrB : B0 ≤ r := hBr
          have hrn : r ≠ rm := hrr
          have HSx : Hid (∀ q, pv = .map (some q) → Value.map (some r) = pv) := HSame.out
          have HNx : Hid (∀ q, Value.map (some r) = .map (some q) → pv = .map (some q) ∨ W3.heap.size ≤ q) := HNew.out
          have hrk : ∀ k, k < W3.heap.size → (∀ q, pv = .map (some q) → k ≠ q) → k ≠ r := fun k hk hh => by
            rcases HNew.out r rfl with h0 | h0
            · exact hh r h0
            · omega
          rw [← hwx]
          clear hwx
          have ckx : CK (hg + 1) w4 wx := CK.of_below bx
          have HQx := hid (HQ.out.ck (HCK4.out.trans (CK.of_below bx)))
          have t4x := (bx.cell (p := ⟨wr.heap.size, 4, none⟩) (World.block_lt_of_cell? _ _ t4)).trans t4
          have PLx : Hid (∀ q ∈ PE', Plain wx q.1) := fun q hq => (CK.of_below (lo := 0) bx).2.2 _ (Nat.zero_le _) (P4.out.2 q hq)
          have gPx := hid ((CK.of_below (lo := 0) bx).2.2 _ (Nat.zero_le _) gPl.out)
          go_wp2_with (go_at_call 20; refine (segs_any _ _ _ _ (by exact HQx.out)).mono ?_; rintro e w6 ⟨a2, c2, rfl, hst2, b6⟩
                       obtain ⟨w7, hrun7, hP7, hT7⟩ := plan_store (w := w6) (r := r) (PE := PE') (by obtain ⟨es, clock, e1, e2⟩ := hPx.out; exact ⟨es, clock, (b6.block _ (block_lt e1)).trans e1, e2⟩) w2.heap.size ((CK.of_below (lo := 0) b6).2.2 _ (Nat.zero_le _) gPx.out) (fun q hq => (CK.of_below (lo := 0) b6).2.2 _ (Nat.zero_le _) (PLx.out q hq)) (.slice a2 G.plan.length c2) gnone.out
                       have hrun7' : (Instr.mapUpdate 31 (.map (some r)) (.pointer (some ⟨w2.heap.size, 0, none⟩)) (.slice a2 G.plan.length c2)).run Tryz.prog w6 = .ok () w7 := hrun7
                       have HP7 := hid hP7
                       have HT7 := hid hT7
                       have HST2 := hid hst2
                       clear hrun7 hP7 hT7 hst2)
          have b46 : Below w4.heap.size w4 w6 := bx.trans (b6.mono bx.size)
          have ck67 : ∀ lo, CK lo w6 w7 := fun lo => CK.turned HT7.out
          have s67 : w6.heap.size ≤ w7.heap.size := (ck67 0).1
          have hturn : ∀ k, k ≠ r → w7.heap[k]? = w6.heap[k]? := fun k hk => by
            obtain ⟨es, cl, es', cl', hb, rfl⟩ := HT7.out
            exact heap_setBlock_other hb _ hk
          go_roundw
          case rel =>
            have ck47 : ∀ lo, CK lo w4 w7 := fun lo => (CK.of_below b46).trans (ck67 lo)
            refine ⟨l + 1, PE' ++ [(w2.heap.size, .slice a2 G.plan.length c2)], ys.set l (.pointer (some ⟨w2.heap.size, 0, none⟩)), by omega, by go_num, ⟨.inr ⟨r, rfl, hrB, hrn, HP7.out⟩, fun q hq => ?_⟩, ?_, ?_, fun k G' hk hG' => ?_, fun k hk hr => ?_, HSx.out, HNx.out, ?_, Nat.le_trans hsz (Nat.le_trans hl4 (Nat.le_trans b46.size s67)), HCK4.out.trans (ck47 0)⟩
            · rcases List.mem_append.1 hq with hq | hq
              · exact (ck67 0).2.2 _ (Nat.zero_le _) ((CK.of_below (lo := 0) b6).2.2 _ (Nat.zero_le _) (PLx.out q hq))
              · rw [List.mem_singleton.1 hq]
                exact (ck47 0).2.2 _ (Nat.zero_le _) gPl.out
            · exact HGr.out.trans (N' := wr.heap.size) ⟨_, rfl, fun q hq => by rw [List.mem_singleton.1 hq]; show wr.heap.size ≤ w2.heap.size; omega⟩ hsz
            · have o6 := ownsRow_below o4.out b46
              obtain ⟨cu, hcu, _, _⟩ := ownsRow_block o6
              refine ⟨o6.1, ?_⟩
              rcases o6.2 with h0 | ⟨gg, cap, cur, e1, e2, e3, e4⟩
              · exact .inl h0
              · refine .inr ⟨gg, cap, cur, e1, e2, ?_, e4⟩
                rw [hturn gg (fun e => by
                  obtain ⟨es, cl, es', cl', hb, _⟩ := HT7.out
                  rw [e, hb] at e3; cases e3)]
                exact e3
            · by_cases hkl : k < l
              · exact gX.out _ w7 (ck47 _) ⟨_, rfl, fun q hq => by rw [List.mem_singleton.1 hq]; show wr.heap.size ≤ w2.heap.size; omega⟩ k G' hkl hG'
              · have : k = l := by omega
                subst this
                rw [HJ.out] at hG'
                cases hG'
                refine ⟨w2.heap.size, by rw [List.getElem?_set_self (by omega)], by omega, (ck47 0).2.2 _ (Nat.zero_le _) gPl.out, (ck47 0).2.1 _ _ (Nat.zero_le _) d0.out, (ck47 0).2.1 _ _ (Nat.zero_le _) d1.out, ⟨_, _, (ck47 0).2.1 _ _ (Nat.zero_le _) d2.out, gS.out.ck (ck47 _)⟩, HI.out.1, HI.out.2, fun _ => ⟨a2, c2, ?_, ?_⟩, fun h => absurd (hpd.symm.trans h) (by decide)⟩
                · rw [planAt_append, gnone.out]; simp [planAt]
                · exact (HST2.out.mono (by have := bx.size; omega)).ck (ck67 _)
            · have hkr : k ≠ r := hrk k hk hr
              rw [hturn k hkr, b46.block k (by omega)]
              exact HK4.out k hk hr
            · have b7 : Below B0 w6 w7 := by
                obtain ⟨es, cl, es', cl', hb, rfl⟩ := HT7.out
                exact ⟨rfl, rfl, rfl, by simp [setBlock], fun k hk => heap_setBlock_other hb _ (by omega)⟩
              exact (B4.out.trans (b46.mono (by omega))).trans b7
          case measure => simp [intOf]; omega
    · have hle : l = p.grps.length := by omega
      subst hle
      have HO' := hid hownr
      clear hownr
      go_wp2_with fail
      exact hK.out _ _ (H _ _ _ _ _ _ _ _ _ _ _ _ _ _ _ _ _ _ _ _ _ _ _ _ _ _ _ _ _ _ _ _ _ _ _ _ _ _ PE' ys wr HP'.out HGr.out HO'.out (fun k G hk => HX.out k G (List.getElem?_eq_some_iff.1 hk).1 hk) HCK.out HK2.out HB'.out HSame.out HNew.out)
end Go.Proofs.Qxb6609540aGreatDoor
