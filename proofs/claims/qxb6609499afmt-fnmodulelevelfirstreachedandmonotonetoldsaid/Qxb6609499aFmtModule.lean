import Derived.Test.Qxb6609499aFmtEq
import Derived.Test.Qxb6609499aFmtTexts
import Derived.Test.Qxb6609499aFmtLevel
import Derived.Deep.RegionHeld3
import Derived.Deep.DrawnRows
import Derived.Deep.DeepCutAuto
namespace Go.Proofs.Qxb6609499aFmt
open Go.RowKit Go.Extern.Stop Go.Stop Go.Extern
attribute [local go_sem] Go.wp_at_zero Go.wp_at_succ
theorem Tryf.zero22 : (Tryf.prog.info? 22).map (fun i => i.zero.map (fun z => z.cells.size)) = some (some 16) := by kernel_rfl

theorem below_drewN {B : Nat} {a w : World} (h : Below B a w) (n : Nat) : Below B a (w.drewN n) := ⟨h.os, h.tape, h.output, h.size, h.block⟩
theorem setRow_alloc_new (w : World) (Z A : Array Value) (t : TypeId) : (w.alloc (.cells Z t)).setRow w.heap.size A = w.alloc (.cells A t) := by
  show ({ w with heap := (w.heap.push (.cells Z t)).modify w.heap.size _ } : World) = { w with heap := w.heap.push (.cells A t) }
  congr 1
  apply Array.ext
  · simp
  · intro i h1 h2
    simp only [Array.getElem_modify, Array.getElem_push]
    by_cases hi : i < w.heap.size
    · simp [hi]; omega
    · have : i = w.heap.size := by simp at h2; omega
      subst this
      simp
theorem wpList_store_new {P : Program} {ops : Array Oper} {rest : List Oper} {op : Oper} {a : Act} {Q : Exit → Act → World → Prop} (hgd : op.guard = none) (ty : TypeId) (x y : Operand) (ho : op.op = .store ty x y) (w : World)
    (A Z : Array Value) (t : TypeId) (hx : a.eval x = .pointer (some ⟨w.heap.size, 0, none⟩)) (hy : a.eval y = .agg A) (hs : Z.size = A.size)
    (hi : (P.info? ty).map (·.size) = some A.size) (h1 : ∀ v ∈ A.toList, v.oneCell' = true)
    (h : wpList P ops Q rest (a.put op.dst undef) (w.alloc (.cells A t))) : wpList P ops Q (op :: rest) a (w.alloc (.cells Z t)) :=
  wpList_store_row hgd ty x y ho w.heap.size A Z t hx hy (heap_alloc_new w _) hs hi h1 (by rw [setRow_alloc_new]; exact h)

theorem equal48 {za zb : List Int} (ha : Byt za 48) (hb : Byt zb 48) (w : World) : (Op.equalIn 10000 23 (.agg (B8 za).toArray) (.agg (B8 zb).toArray)).run Tryf.prog w = .ok (za == zb) w := by
  rw [B8_cells za 48 ha, B8_cells zb 48 hb, run_equalIn_bytes w 9998 23 5 48 Tryf.underlying23 Tryf.underlying5 Tryf.size5w _ _ (by simp [ha.1]) (by simp [hb.1]), bytes_beq ha hb]


theorem beq_data (x y : ByteArray) : (x.toList == y.toList) = true ↔ x.data.toList = y.data.toList := by
  rw [ByteArray.toList_eq, ByteArray.toList_eq]; simp
theorem wpQuiet_load_mid {P : Program} {ops : Array Oper} {C : World → Prop} {Q : Act → Prop} {rest : List Oper} {op : Oper} {a : Act} (hw : Region.wanted op (yielded ops a.tmps) = true) (ty : TypeId) (x : Operand) (ho : op.op = .load ty x)
    (b o : Nat) (hx : a.eval x = .pointer (some ⟨b, o, none⟩)) (cs : List Value) (d : TypeDesc) (hS : ∀ w, C w → w.rangeAt b o cs)
    (hu : P.underlying ty = some d) (hd : d.isRow = true) (hi : (P.info? ty).map (·.size) = some cs.length)
    (h : wpQuiet P ops C Q rest (a.put op.dst (.agg cs.toArray))) : wpQuiet P ops C Q (op :: rest) a :=
  wpQuiet_step fun K hK => by
    rw [if_pos hw]
    refine ⟨_, fun w hw => ?_, hK _ h⟩
    unfold Oper.quietAt execOp
    simp only [ho, hx, Sem.run_bind, run_loadAt_mid w b o ty cs d (hS w hw) hu hd hi, Result.andThen_ok, Sem.run_pure, Oper.quietUpon, and_self]
/-- 'wpAnyH_take', the slot told apart. -/
theorem wpAnyH_take_d {P : Program} {ops : Array Oper} {Q : Exit → Act → World → Prop} {md : Region.Mode} {S : World → Prop} {i : Nat} {oi : Oper} {v : Value} (d : Option Tmp) {fuel : Nat} {listed : Array Bool} {a : Act} {w : World} (hi : ops[i]? = some oi) (hd : oi.dst = d)
    (hs : Region.noSelect ops = true) (hf : Region.free md ops listed i = true) (hr : (Region.ready md ops listed).contains i = true)
    (hQ : ∀ c a w, Q (.panic c) (a.put oi.dst v) w → Q (.panic c) a w) (hy : YieldsIf P ops S oi v a) (hS : S w)
    (h : wpAnyH P md ops Q S fuel (listed.setIfInBounds i true) (a.put d v) w) : wpAnyH P md ops Q S (fuel + 1) listed a w :=
  wpAnyH_take hi hs hf hr hQ hy hS (by rw [hd]; exact h)
/-- The one that may come up makes memory. -/
theorem wpAnyH_one {P : Program} {ops : Array Oper} {Q : Exit → Act → World → Prop} {md : Region.Mode} {S : World → Prop} (i : Nat) {oi : Oper} {v : Value} (d : Option Tmp) {fuel : Nat} {listed : Array Bool} {a : Act} {w w' : World} (hi : ops[i]? = some oi) (hd : oi.dst = d)
    (hr : Region.ready md ops listed = [i]) (hw : Region.wanted oi (yielded ops a.tmps) = true) (hrun : (execOp a.eval oi).run P w = .ok (.value v) w') (hS : S w')
    (h : wpAnyH P md ops Q S fuel (listed.setIfInBounds i true) (a.put d v) w') : wpAnyH P md ops Q S (fuel + 1) listed a w :=
  wpAnyH_ready hr (by simp) (AllReadyH.cons hi (fun K' hK => by
    rw [if_pos hw]; unfold Oper.wp; rw [hrun]; exact hK.out _ _ hS (fun _ => by rw [hd]; exact h)) AllReadyH.nil)
/-- The one that may come up calls a function. -/
theorem wpAnyH_call {P : Program} {ops : Array Oper} {Q : Exit → Act → World → Prop} {md : Region.Mode} {S : World → Prop} (i : Nat) {oi : Oper} (d : Option Tmp) {fuel : Nat} {listed : Array Bool} {a : Act} {w : World} (f : FuncId) (args : Array Value) (hi : ops[i]? = some oi) (hd : oi.dst = d)
    (hr : Region.ready md ops listed = [i]) (hw : Region.wanted oi (yielded ops a.tmps) = true) (hrun : (execOp a.eval oi).run P w = .ok (.enter f args) w)
    (h : Calls P f args w fun e w' => ∃ v, e = .returned v ∧ S w' ∧ wpAnyH P md ops Q S fuel (listed.setIfInBounds i true) (a.put d v) w') : wpAnyH P md ops Q S (fuel + 1) listed a w :=
  wpAnyH_ready hr (by simp) (AllReadyH.cons hi (fun K' hK => by
    rw [if_pos hw]; unfold Oper.wp; rw [hrun]
    refine h.mono ?_
    rintro e w' ⟨v, rfl, hS, hA⟩
    exact hK.out _ _ hS (fun _ => by rw [hd]; exact hA)) AllReadyH.nil)
/-- The modules that the info holds, as they lie in memory. -/
def ModsAt (w : World) (M n : Nat) (ms : Nat → ModV) (gs : Nat → Nat) (svns : Nat → Nat → Int) : Prop :=
  ∀ i, i < n → (ms i).ok ∧ w.rangeAt M (i * 66) (ms i).cells ∧ (ms i).la = some ⟨gs i, 0, none⟩ ∧ (ms i).ln ≤ 9223372036854775806 ∧ NewLv w (gs i) (ms i).ln (svns i) ∧ gs i < w.heap.size
theorem ModsAt.below {w w' : World} {M n : Nat} {ms : Nat → ModV} {gs : Nat → Nat} {svns : Nat → Nat → Int} (h : ModsAt w M n ms gs svns) (hM : M < w.heap.size) (hb : Below w.heap.size w w') : ModsAt w' M n ms gs svns := fun i hi => by
  obtain ⟨h1, h2, h3, h4, h5, h6⟩ := h i hi
  exact ⟨h1, rangeAt_below h2 hb hM, h3, h4, h5.below hb h6, Nat.lt_of_lt_of_le h6 hb.size⟩

/-- The module that the SVN's second byte picks: the base one, or the first of that name. -/
def Sel (base : ModV) (n : Nat) (ms : Nat → ModV) (gs : Nat → Nat) (svns : Nat → Nat → Int) (x1 : Int) (m : ModV) (g : Nat) (sv : Nat → Int) : Prop :=
  (x1 = 0 ∧ m = base) ∨ (x1 ≠ 0 ∧ ∃ i, i < n ∧ (ms i).id.data.toList = tdxName x1 ∧ (∀ k, k < i → (ms k).id.data.toList ≠ tdxName x1) ∧ m = ms i ∧ g = gs i ∧ sv = svns i)

/-- What moduleLevel hands back. -/
def MlRes (base : ModV) (n : Nat) (ms : Nat → ModV) (gs : Nat → Nat) (svns : Nat → Nat → Int) (x0 x1 : Int) (sig att : List Int) (e : Ending) : Prop :=
  (∃ m g sv, Sel base n ms gs svns x1 m g sv ∧ x1 = 0 ∧ sig = m.sig ∧ meq att m.att m.msk 8 = true ∧ e = .returned (.tuple #[.pointer none, .nilIface])) ∨
  (∃ m g sv, Sel base n ms gs svns x1 m g sv ∧ x1 ≠ 0 ∧ sig = m.sig ∧ meq att m.att m.msk 8 = true ∧ ∃ j : Nat, j < m.ln ∧ sv j ≤ x0 ∧ (∀ k, k < j → x0 < sv k) ∧ e = .returned (.tuple #[.pointer (some ⟨g, j * 3 + 1, none⟩), .nilIface])) ∨
  ((∃ t v, e = .returned (.tuple #[.pointer none, .iface t v])) ∧
    ((x1 ≠ 0 ∧ ∀ k, k < n → (ms k).id.data.toList ≠ tdxName x1) ∨ ∃ m g sv, Sel base n ms gs svns x1 m g sv ∧ (sig ≠ m.sig ∨ meq att m.att m.msk 8 = false ∨ (x1 ≠ 0 ∧ ∀ k, k < m.ln → x0 < sv k))))

set_option maxRecDepth 100000 in
set_option maxHeartbeats 4000000 in
theorem moduleLevel_any (F : Interp) (T R M n c : Nat) (base : ModV) (ms : Nat → ModV) (gs : Nat → Nat) (svns : Nat → Nat → Int) (svn sig att : List Int) (w : World) (hF : F.told.answers w.tape)
    (hbo : base.ok) (hsv : Byt svn 16) (hsg : Byt sig 48) (hat : Byt att 8) (hn : n ≤ 9223372036854775806)
    (rT : w.rangeAt T 16 base.cells) (rI : w.cell? ⟨T, 82, none⟩ = some (.slice (some ⟨M, 0, none⟩) n c)) (rR : w.rangeAt R 0 (B8 svn)) (rS : w.rangeAt R 64 (B8 sig)) (rA : w.rangeAt R 112 (B8 att)) (hT : T < w.heap.size) (hR : R < w.heap.size) (hM : M < w.heap.size)
    (hms : ModsAt w M n ms gs svns) :
    Calls Tryf.prog 19 #[.pointer (some ⟨T, 0, none⟩), .pointer (some ⟨R, 0, none⟩)] w fun e w' => MlRes base n ms gs svns (svn.getD 0 0) (svn.getD 1 0) sig att e ∧ Below w.heap.size w w' := by
  have z22 : (Tryf.prog.info? 22).map (·.size) = some (B8 svn).toArray.size := by rw [List.size_toArray, B8_length, hsv.1]; exact Tryf.size22
  have z22' : (Tryf.prog.info? 22).map (·.size) = some (B8 svn).length := by rw [B8_length, hsv.1]; exact Tryf.size22
  have HRR := hid rR
  have o22 : ∀ v ∈ (B8 svn).toArray.toList, v.oneCell' = true := by simpa using B8_one svn
  have L16 : Hid ((16 : Nat) = (B8 svn).toArray.size) := by rw [List.size_toArray, B8_length, hsv.1]; rfl
  have g0 : (B8 svn).toArray[0]? = some (.int .u8 (svn.getD 0 0)) := by simpa using B8_get svn 0 (by rw [hsv.1]; omega)
  have g1 : (B8 svn).toArray[1]? = some (.int .u8 (svn.getD 1 0)) := by simpa using B8_get svn 1 (by rw [hsv.1]; omega)
  have x0b : 0 ≤ svn.getD 0 0 ∧ svn.getD 0 0 ≤ 255 := by
    have := hsv.2 (svn[0]'(by rw [hsv.1]; omega)) (List.getElem_mem _)
    simpa [List.getD, hsv.1] using this
  have x1b : 0 ≤ svn.getD 1 0 ∧ svn.getD 1 0 ≤ 255 := by
    have := hsv.2 (svn[1]'(by rw [hsv.1]; omega)) (List.getElem_mem _)
    simpa [List.getD, hsv.1] using this
  generalize svn.getD 0 0 = x0 at g0 x0b ⊢
  generalize svn.getD 1 0 = x1 at g1 x1b ⊢
  have HT := hid rT
  have HS := hid rS
  have HA := hid rA
  have HMS := hid hms
  have HFF := hid hF
  clear rR rT rS rA hms hF
  go_enter Tryf.func19, Tryf.ntmps19
  go_upto_if 20 with (first
    | (refine wpList_load_mid rfl 22 (.tmp 13) rfl R 0 rfl (B8 svn) _ (by exact HRR.out) Tryf.underlying22 rfl z22' ?_)
    | (refine wpList_alloc_z rfl 22 rfl 16 Tryf.zero22 ?_; intro Z hZ)
    | (refine wpList_store_new rfl 22 (.tmp 6) (.tmp 14) rfl w (B8 svn).toArray Z 22 rfl rfl (by rw [hZ]; exact L16.out) z22 o22 ?_))
  go_cut [7] (fun p wc => ∃ (bm om : Nat) (m : ModV) (g : Nat) (sv : Nat → Int) (nm : ByteArray), p = .pointer (some ⟨bm, om, none⟩) ∧ Sel base n ms gs svns x1 m g sv ∧ m.ok ∧ wc.rangeAt bm om m.cells ∧
      wc.cell? ⟨w.heap.size, 0, none⟩ = some (.int .u8 x0) ∧ wc.cell? ⟨w.heap.size, 1, none⟩ = some (.int .u8 x1) ∧ wc.cell? ⟨w.heap.size + 1, 0, none⟩ = some (.string nm) ∧ Below w.heap.size w wc)
  case first =>
    have bW : Below w.heap.size w ((w.alloc (.cells (B8 svn).toArray 22)).alloc (.cells #[.string ⟨#[116, 100, 120, 77, 111, 100, 117, 108, 101]⟩] 9)) := ((Below.refl _ _).alloc (Nat.le_refl _) _).alloc (by simp) _
    by_cases hx : x1 = 0
    · have hx' : (x1 != 0) = false := by simp [hx]
      have HX := hid hx
      clear hx
      go_wp2
      go_meet
      refine ⟨T, 16, base, 0, fun _ => 0, ⟨#[116, 100, 120, 77, 111, 100, 117, 108, 101]⟩, rfl, .inl ⟨HX.out, rfl⟩, hbo, rangeAt_below HT.out bW hT, ?_, ?_, ?_, bW⟩
      · rw [World.cell?_alloc_past _ _ _ (by simp), World.cell?_alloc_at _ _ _ _ rfl]; exact g0
      · rw [World.cell?_alloc_past _ _ _ (by simp), World.cell?_alloc_at _ _ _ _ rfl]; exact g1
      · rw [World.cell?_alloc_at _ _ _ _ (by simp)]; rfl
    · have hx' : (x1 != 0) = true := by simp [hx]
      have HX := hid hx
      clear hx
      obtain ⟨nm, hnm, hsp⟩ := sprintf_run F x1 (w.heap.size + 1 + 1) 1 (((w.alloc (.cells (B8 svn).toArray 22)).alloc (.cells #[.string ⟨#[116, 100, 120, 77, 111, 100, 117, 108, 101]⟩] 9)).alloc (.cells #[.iface 5 (.int .u8 x1)] 20)) HFF.out x1b.1 x1b.2 (by rw [World.cell?_alloc_at _ _ _ _ (by simp)]; rfl)
      have hsp' : (callFunc 23 #[.string ⟨#[84, 68, 88, 95, 37, 48, 50, 88]⟩, .slice (some ⟨w.heap.size + 1 + 1, 0, none⟩) 1 1]).run Tryf.prog (((w.alloc (.cells (B8 svn).toArray 22)).alloc (.cells #[.string ⟨#[116, 100, 120, 77, 111, 100, 117, 108, 101]⟩] 9)).alloc (.cells #[.iface 5 (.int .u8 x1)] 20)) = .ok (.value (.string nm)) (((w.alloc (.cells (B8 svn).toArray 22)).alloc (.cells #[.string ⟨#[116, 100, 120, 77, 111, 100, 117, 108, 101]⟩] 9)).alloc (.cells #[.iface 5 (.int .u8 x1)] 20)).drew := hsp
      clear hsp
      have HNM := hid hnm
      clear hnm
      have hT1 : T < w.heap.size + 1 := by omega
      have hT2 : T < w.heap.size + 1 + 1 := by omega
      go_wp2_with (simp only [hsp'])
      have bW4 : Below w.heap.size w ((((w.alloc (.cells (B8 svn).toArray 22)).alloc (.cells #[.string nm] 9)).alloc (.cells #[.iface 5 (.int .u8 x1)] 20)).drew) := ((((Below.refl _ _).alloc (Nat.le_refl _) _).alloc (by simp) _).alloc (by simp; omega) _).drew
      have m4 := HMS.out.below hM bW4
      have n4 : ((((w.alloc (.cells (B8 svn).toArray 22)).alloc (.cells #[.string nm] 9)).alloc (.cells #[.iface 5 (.int .u8 x1)] 20)).drew).cell? ⟨w.heap.size + 1, 0, none⟩ = some (.string nm) := by
        simp [go_sem]
      have k0 : ((((w.alloc (.cells (B8 svn).toArray 22)).alloc (.cells #[.string nm] 9)).alloc (.cells #[.iface 5 (.int .u8 x1)] 20)).drew).cell? ⟨w.heap.size, 0, none⟩ = some (.int .u8 x0) := by
        simp [go_sem]; simpa using g0
      have k1 : ((((w.alloc (.cells (B8 svn).toArray 22)).alloc (.cells #[.string nm] 9)).alloc (.cells #[.iface 5 (.int .u8 x1)] 20)).drew).cell? ⟨w.heap.size, 1, none⟩ = some (.int .u8 x1) := by
        simp [go_sem]; simpa using g1
      have s4 : w.heap.size + 3 = ((((w.alloc (.cells (B8 svn).toArray 22)).alloc (.cells #[.string nm] 9)).alloc (.cells #[.iface 5 (.int .u8 x1)] 20)).drew).heap.size := by simp
      refine (indexMods_any M n c (w.heap.size + 1) ms nm _ hn (fun i hi => (m4 i hi).1) (fun i hi => (m4 i hi).2.1) (by rw [← s4]; omega) n4).mono ?_
      rintro e w5 ⟨r, rfl, hr, hb5⟩
      have b5 : Below w.heap.size w w5 := bW4.trans (hb5.mono (by rw [← s4]; omega))
      have s5 : w.heap.size + 3 ≤ w5.heap.size := by rw [s4]; exact hb5.size
      have q0 := (hb5.cell (p := ⟨w.heap.size, 0, none⟩) (by rw [← s4]; simp)).trans k0
      have q1 := (hb5.cell (p := ⟨w.heap.size, 1, none⟩) (by rw [← s4]; simp)).trans k1
      have q2 := (hb5.cell (p := ⟨w.heap.size + 1, 0, none⟩) (by rw [← s4]; simp)).trans n4
      have q3 : w5.cell? ⟨T, 82, none⟩ = some (.slice (some ⟨M, 0, none⟩) n c) := (b5.cell (p := ⟨T, 82, none⟩) hT).trans rI
      have m5 := hid (HMS.out.below hM b5)
      clear hsp' m4 bW4 n4 k0 k1 s4 hb5
      rcases hr with ⟨i, rfl, hi1, hi2, hi3⟩ | ⟨rfl, hi⟩
      · have H2 := hid hi2
        have H3 := hid hi3
        have j0 : ¬ ((i : Int) < 0) := by omega
        have j1 : (i : Int) < (n : Int) := by omega
        clear hi2 hi3
        go_wp2
        go_meet
        obtain ⟨o1, o2, _⟩ := m5.out i hi1
        exact ⟨M, i * 66, ms i, gs i, svns i, nm, rfl, .inr ⟨HX.out, i, hi1, by rw [← HNM.out]; exact (beq_data _ _).1 H2.out, fun k hk h => H3.out k hk ((beq_data _ _).2 (by rw [h, HNM.out])), rfl, rfl, rfl⟩, o1, o2, q0, q1, q2, b5⟩
      · have H3 := hid hi
        clear hi
        go_wp2_with fail
        refine (errorf_any _ [.iface 9 (.string nm)] w5.heap.size 1 1 [(0, 115, false)] _ rfl rfl (fun j v hv => ?_) (fun W => by kernel_rfl) rfl (fun p hp => ?_)).mono ?_
        · match j, hv with
          | 0, hv => simp at hv; subst hv; simp [go_sem]
        · simp at hp; subst hp; exact ⟨rfl, _, rfl, reads_str nm⟩
        rintro e w6 ⟨⟨t, v, rfl⟩, hb6⟩
        go_wp2
        go_ret2
        refine ⟨.inr (.inr ⟨⟨t, v, rfl⟩, .inl ⟨HX.out, fun k hk h => H3.out k hk ((beq_data _ _).2 (by rw [h, HNM.out]))⟩⟩), ?_⟩
        exact (b5.alloc (by omega) _).trans (hb6.mono (by simp; omega))
  case rest =>
    obtain ⟨bm, om, m, g, sv, nm, rfl, hsel, hmo, hmr, c0, c1, cn, bc⟩ := hcut
    have r1 : wc.rangeAt R 64 (B8 sig) := rangeAt_below HS.out bc hR
    have r2 : wc.rangeAt R 112 (B8 att) := rangeAt_below HA.out bc hR
    have r3 := ModV.sig_at hmr
    have r4 := ModV.att_at hmo hmr
    have r5 := ModV.msk_at hmo hmr
    have hu := Tryf.underlying23
    have hi1 : (Tryf.prog.info? 23).map (·.size) = some (B8 sig).length := by rw [B8_length, hsg.1]; exact Tryf.size23
    have hi2 : (Tryf.prog.info? 23).map (·.size) = some (B8 m.sig).length := by rw [B8_length, hmo.2.1.1]; exact Tryf.size23
    have hl1 : (B8 sig).length = 48 := by rw [B8_length, hsg.1]
    have hl2 : (B8 m.sig).length = 48 := by rw [B8_length, hmo.2.1.1]
    have ho1 := B8_one sig
    have ho2 := B8_one m.sig
    have EQ := fun W => equal48 hsg hmo.2.1 W
    have hrd1 := reads48 sig hsg.1
    have hrd2 := reads48 m.sig hmo.2.1.1
    generalize B8 sig = SG at r1 hi1 hl1 ho1 EQ hrd1
    generalize B8 m.sig = MG at r3 hi2 hl2 ho2 EQ hrd2
    have hRc : R < wc.heap.size := Nat.lt_of_lt_of_le hR bc.size
    have hcl : w.heap.size + 1 < wc.heap.size := World.block_lt_of_cell? _ _ cn
    have hbm : bm < wc.heap.size := World.block_lt_of_cell? _ _ (ModV.id_at hmr)
    by_cases hs : sig = m.sig
    · have hs' : (sig == m.sig) = true := by simp [hs]
      have HE := hid hs
      clear hs
      go_wp2_with fail
      refine wp_region_quiet_lit (by kernel_rfl) (by kernel_rfl) ?_
      iterate 3 go_big_quiet_step (fail)
      refine wpQuiet_load_mid (by rfl) 23 (.tmp 47) rfl R 64 rfl SG _ (by rintro w' ⟨n, rfl⟩; simpa [World.rangeAt] using r1) hu rfl hi1 ?_
      simp only [Act.put, List.setIfInBounds_toArray, List.set_cons_zero, List.set_cons_succ]
      iterate 3 go_big_quiet_step (fail)
      refine wpQuiet_load_mid (by rfl) 23 (.tmp 51) rfl bm (om + 1) rfl MG _ (by rintro w' ⟨n, rfl⟩; simpa [World.rangeAt] using r3) hu rfl hi2 ?_
      simp only [Act.put, List.setIfInBounds_toArray, List.set_cons_zero, List.set_cons_succ]
      iterate 2 go_big_quiet_step (fail)
      refine wpQuiet_nil ?_
      rintro _ ⟨nq, rfl⟩
      go_wp2_with fail
      generalize hwd : wc.drewN nq = wd
      have bd : Below wc.heap.size wc wd := by rw [← hwd]; exact ⟨rfl, rfl, rfl, Nat.le_refl _, fun _ _ => rfl⟩
      clear hwd
      have rd2 := rangeAt_below r2 bd hRc
      have rd4 := rangeAt_below r4 bd hbm
      have rd5 := rangeAt_below r5 bd hbm
      have cd0 := (bd.cell (p := ⟨w.heap.size, 0, none⟩) (Nat.lt_of_succ_lt hcl)).trans c0
      have cd1 := (bd.cell (p := ⟨w.heap.size, 1, none⟩) (Nat.lt_of_succ_lt hcl)).trans c1
      by_cases hq : meq att m.att m.msk 8 = true
      · go_quiet (refine Calls.quiet_of (masked_any R bm bm 112 (om + 49) (om + 57) 8 8 8 att m.att m.msk _ hat hmo.2.2.1 hmo.2.2.2 (by simpa [World.rangeAt] using rd2) (by simpa [World.rangeAt] using rd4) (by simpa [World.rangeAt] using rd5)))
        by_cases hx : x1 = 0
        · have hx' : (x1 == 0) = true := by simp [hx]
          have HX := hid hx
          have HQ := hid hq
          clear hx hq
          go_wp2
          go_ret2
          exact ⟨.inl ⟨m, g, sv, hsel, HX.out, HE.out, HQ.out, rfl⟩, bc.trans ((below_drewN bd nq).mono bc.size)⟩
        · have hx' : (x1 == 0) = false := by simp [hx]
          have HX := hid hx
          clear hx
          go_wp2_with fail
          generalize hwe : wd.drewN nq = we
          have be : Below wc.heap.size wc we := by rw [← hwe]; exact bd.trans ⟨rfl, rfl, rfl, Nat.le_refl _, fun _ _ => rfl⟩
          clear hwe
          rcases hsel with ⟨h0, _⟩ | ⟨_, i, hin, hid1, hid2, rfl, rfl, rfl⟩
          · exact absurd h0 HX.out
          have hsel : Sel base n ms gs svns x1 (ms i) (gs i) (svns i) := .inr ⟨HX.out, i, hin, hid1, hid2, rfl, rfl, rfl⟩
          clear hid1 hid2
          obtain ⟨_, _, hla, hln, hlv, hgl⟩ := HMS.out.below hM bc i hin
          have clv := ModV.lv_at hmo hmr
          have elv : (ms i).lv = .slice (some ⟨gs i, 0, none⟩) (ms i).ln (ms i).lc := by rw [ModV.lv, hla]
          rw [elv] at clv
          clear elv
          have hw16 : IntKind.u16.wrap x0 = x0 := by unfold IntKind.wrap; simp [IntKind.bits, IntKind.signed]; omega
          generalize ms i = m at *
          generalize gs i = g at *
          generalize svns i = sv at *
          refine wp_region_held_drew (S := fun w' => Below wc.heap.size wc w') (by kernel_rfl) be.drew (fun hHeld => ?_)
          refine wpAnyH_take_d (i := 0) (oi := _) (v := ?_) (some 106) rfl rfl (by kernel_rfl) (by kernel_rfl) (by kernel_rfl) (fun _ _ _ h => h) (Or.inl ⟨by rfl, ?_⟩) hHeld ?_
          rotate_left
          · intro w' hw'; go_simp; with_reducible rfl
          simp only [Act.put, List.setIfInBounds_toArray, List.set_cons_zero, List.set_cons_succ]
          refine wpAnyH_take_d (i := 1) (oi := _) (v := ?_) (some 107) rfl rfl (by kernel_rfl) (by kernel_rfl) (by kernel_rfl) (fun _ _ _ h => h) (Or.inl ⟨by rfl, ?_⟩) hHeld ?_
          rotate_left
          · intro w' hw'; go_simp; with_reducible rfl
          simp only [Act.put, List.setIfInBounds_toArray, List.set_cons_zero, List.set_cons_succ]
          refine wpAnyH_take_d (i := 2) (oi := _) (v := ?_) (some 108) rfl rfl (by kernel_rfl) (by kernel_rfl) (by kernel_rfl) (fun _ _ _ h => h) (Or.inl ⟨by rfl, ?_⟩) hHeld ?_
          rotate_left
          · intro w' hw'; go_simp; with_reducible rfl
          simp only [Act.put, List.setIfInBounds_toArray, List.set_cons_zero, List.set_cons_succ]
          refine wpAnyH_take_d (i := 3) (oi := _) (v := ?_) (some 109) rfl rfl (by kernel_rfl) (by kernel_rfl) (by kernel_rfl) (fun _ _ _ h => h) (Or.inl ⟨by rfl, ?_⟩) hHeld ?_
          rotate_left
          · intro w' hw'; have hcn := (hw'.cell (p := ⟨bm, om + 65, none⟩) hbm).trans clv; go_simp; with_reducible rfl
          simp only [Act.put, List.setIfInBounds_toArray, List.set_cons_zero, List.set_cons_succ]
          refine wpAnyH_take_d (i := 4) (oi := _) (v := ?_) (some 110) rfl rfl (by kernel_rfl) (by kernel_rfl) (by kernel_rfl) (fun _ _ _ h => h) (Or.inl ⟨by rfl, ?_⟩) hHeld ?_
          rotate_left
          · intro w' hw'; go_simp; with_reducible rfl
          simp only [Act.put, List.setIfInBounds_toArray, List.set_cons_zero, List.set_cons_succ]
          refine wpAnyH_take_d (i := 5) (oi := _) (v := ?_) (some 111) rfl rfl (by kernel_rfl) (by kernel_rfl) (by kernel_rfl) (fun _ _ _ h => h) (Or.inl ⟨by rfl, ?_⟩) hHeld ?_
          rotate_left
          · intro w' hw'; have hcn := (hw'.cell (p := ⟨w.heap.size, 0, none⟩) (Nat.lt_of_succ_lt hcl)).trans c0; go_simp; with_reducible rfl
          simp only [Act.put, List.setIfInBounds_toArray, List.set_cons_zero, List.set_cons_succ]
          refine wpAnyH_take_d (i := 6) (oi := _) (v := ?_) (some 112) rfl rfl (by kernel_rfl) (by kernel_rfl) (by kernel_rfl) (fun _ _ _ h => h) (Or.inl ⟨by rfl, ?_⟩) hHeld ?_
          rotate_left
          · intro w' hw'; go_simp; with_reducible rfl
          simp only [Act.put, List.setIfInBounds_toArray, List.set_cons_zero, List.set_cons_succ]
          refine wpAnyH_call 7 (some 113) 28 #[.slice (some ⟨g, 0, none⟩) m.ln m.lc, .int .u16 x0] rfl rfl (by kernel_rfl) (by rfl) (by go_simp) ?_
          refine (level_any g m.ln m.lc sv x0 _ hln (hlv.below hHeld hgl) (Nat.lt_of_lt_of_le hgl hHeld.size)).mono ?_
          rintro e w6 ⟨hres, hb6⟩
          have hs6 : Below wc.heap.size wc w6 := hHeld.trans (hb6.mono hHeld.size)
          clear hHeld
          have hHeld := hs6
          have HQ := hid hq
          have HSEL := hid hsel
          clear hq hsel
          rcases hres with ⟨j, rfl, hj1, hj2, hj3⟩ | ⟨rfl, hj⟩
          · have HJ := hid hj3
            clear hj3
            refine ⟨_, rfl, hs6, ?_⟩
            simp only [Act.put, List.setIfInBounds_toArray, List.set_cons_zero, List.set_cons_succ]
            refine wpAnyH_take_d (i := 8) (oi := _) (v := ?_) (some 10) rfl rfl (by kernel_rfl) (by kernel_rfl) (by kernel_rfl) (fun _ _ _ h => h) (Or.inl ⟨by rfl, ?_⟩) hHeld ?_
            rotate_left
            · intro w' hw'; go_simp; with_reducible rfl
            simp only [Act.put, List.setIfInBounds_toArray, List.set_cons_zero, List.set_cons_succ]
            refine wpAnyH_done (by kernel_rfl) ?_ _
            go_wp2
            go_ret2
            exact ⟨.inr (.inl ⟨m, g, sv, HSEL.out, HX.out, HE.out, HQ.out, j, hj1, hj2, HJ.out, rfl⟩), bc.trans (hs6.mono bc.size)⟩
          · have HJ := hid hj
            clear hj
            refine ⟨_, rfl, hs6, ?_⟩
            simp only [Act.put, List.setIfInBounds_toArray, List.set_cons_zero, List.set_cons_succ]
            refine wpAnyH_take_d (i := 8) (oi := _) (v := ?_) (some 10) rfl rfl (by kernel_rfl) (by kernel_rfl) (by kernel_rfl) (fun _ _ _ h => h) (Or.inl ⟨by rfl, ?_⟩) hHeld ?_
            rotate_left
            · intro w' hw'; go_simp; with_reducible rfl
            simp only [Act.put, List.setIfInBounds_toArray, List.set_cons_zero, List.set_cons_succ]
            refine wpAnyH_done (by kernel_rfl) ?_ _
            have e0 := (hs6.cell (p := ⟨w.heap.size, 0, none⟩) (Nat.lt_of_succ_lt hcl)).trans c0
            have e1 := (hs6.cell (p := ⟨w.heap.size + 1, 0, none⟩) hcl).trans cn
            have s6 : w.heap.size + 1 < w6.heap.size := Nat.lt_of_lt_of_le hcl hs6.size
            go_wp2_with fail
            refine (errorf_any _ [.iface 5 (.int .u8 x0), .iface 9 (.string nm)] w6.heap.size 2 2 [(0, 100, false), (1, 115, false)] _ rfl rfl (fun j v hv => ?_) (fun W => by kernel_rfl) rfl (fun p hp => ?_)).mono ?_
            · rw [World.cell?_alloc_at _ _ _ _ rfl]; simpa using hv
            · simp only [List.mem_cons, List.not_mem_nil, or_false] at hp
              rcases hp with rfl | rfl
              · exact ⟨rfl, _, rfl, reads_u8 x0⟩
              · exact ⟨rfl, _, rfl, reads_str nm⟩
            rintro e w7 ⟨⟨t, v, rfl⟩, hb7⟩
            have hs7 : Below wc.heap.size wc w7 := (hs6.alloc hs6.size _).trans (hb7.mono (Nat.le_trans hs6.size (by simp)))
            go_wp2
            go_ret2
            exact ⟨.inr (.inr ⟨⟨t, v, rfl⟩, .inr ⟨m, g, sv, HSEL.out, .inr (.inr ⟨HX.out, HJ.out⟩)⟩⟩), bc.trans (hs7.mono bc.size)⟩
      · have hq' : meq att m.att m.msk 8 = false := by simpa using hq
        clear hq
        go_quiet (refine Calls.quiet_of (masked_any R bm bm 112 (om + 49) (om + 57) 8 8 8 att m.att m.msk _ hat hmo.2.2.1 hmo.2.2.2 (by simpa [World.rangeAt] using rd2) (by simpa [World.rangeAt] using rd4) (by simpa [World.rangeAt] using rd5)))
        go_wp2_with fail
        have hrd3 := reads8 att hat.1
        have hrd4 := reads8 m.att hmo.2.2.1.1
        have hrd5 := reads8 m.msk hmo.2.2.2.1
        have hu24 := Tryf.underlying24
        have hi3 : (Tryf.prog.info? 24).map (·.size) = some (B8 att).length := by rw [B8_length, hat.1]; exact Tryf.size24
        have hi4 : (Tryf.prog.info? 24).map (·.size) = some (B8 m.att).length := by rw [B8_length, hmo.2.2.1.1]; exact Tryf.size24
        have hi5 : (Tryf.prog.info? 24).map (·.size) = some (B8 m.msk).length := by rw [B8_length, hmo.2.2.2.1]; exact Tryf.size24
        clear rd2 rd4 rd5
        generalize B8 att = AT at r2 hi3 hrd3
        generalize B8 m.att = MA at r4 hi4 hrd4
        generalize B8 m.msk = MK at r5 hi5 hrd5
        generalize hwe : wd.drewN nq = we
        have be : Below wc.heap.size wc we := by rw [← hwe]; exact bd.trans ⟨rfl, rfl, rfl, Nat.le_refl _, fun _ _ => rfl⟩
        clear hwe
        refine wp_region_held_drew (S := fun w' => Below wc.heap.size wc w') (by kernel_rfl) be.drew (fun hHeld => ?_)
        refine wpAnyH_take_d (i := 0) (oi := _) (v := ?_) (some 83) rfl rfl (by kernel_rfl) (by kernel_rfl) (by kernel_rfl) (fun _ _ _ h => h) (Or.inl ⟨by rfl, ?_⟩) hHeld ?_
        rotate_left
        · intro w' hw'; go_simp; with_reducible rfl
        simp only [Act.put, List.setIfInBounds_toArray, List.set_cons_zero, List.set_cons_succ]
        refine wpAnyH_take_d (i := 1) (oi := _) (v := ?_) (some 84) rfl rfl (by kernel_rfl) (by kernel_rfl) (by kernel_rfl) (fun _ _ _ h => h) (Or.inl ⟨by rfl, ?_⟩) hHeld ?_
        rotate_left
        · intro w' hw'; go_simp; with_reducible rfl
        simp only [Act.put, List.setIfInBounds_toArray, List.set_cons_zero, List.set_cons_succ]
        refine wpAnyH_take_d (i := 2) (oi := _) (v := ?_) (some 85) rfl rfl (by kernel_rfl) (by kernel_rfl) (by kernel_rfl) (fun _ _ _ h => h) (Or.inl ⟨by rfl, ?_⟩) hHeld ?_
        rotate_left
        · intro w' hw'; go_simp; with_reducible rfl
        simp only [Act.put, List.setIfInBounds_toArray, List.set_cons_zero, List.set_cons_succ]
        refine wpAnyH_take_d (i := 3) (oi := _) (v := _) (some 86) rfl rfl (by kernel_rfl) (by kernel_rfl) (by kernel_rfl) (fun _ _ _ h => h) (yieldsIf_load_mid (by rfl) 24 (.tmp 85) rfl R (112) rfl AT _ (fun w' h => rangeAt_below r2 h hRc) hu24 rfl hi3) hHeld ?_
        simp only [Act.put, List.setIfInBounds_toArray, List.set_cons_zero, List.set_cons_succ]
        refine wpAnyH_take_d (i := 4) (oi := _) (v := ?_) (some 87) rfl rfl (by kernel_rfl) (by kernel_rfl) (by kernel_rfl) (fun _ _ _ h => h) (Or.inl ⟨by rfl, ?_⟩) hHeld ?_
        rotate_left
        · intro w' hw'; go_simp; with_reducible rfl
        simp only [Act.put, List.setIfInBounds_toArray, List.set_cons_zero, List.set_cons_succ]
        refine wpAnyH_take_d (i := 5) (oi := _) (v := ?_) (some 88) rfl rfl (by kernel_rfl) (by kernel_rfl) (by kernel_rfl) (fun _ _ _ h => h) (Or.inl ⟨by rfl, ?_⟩) hHeld ?_
        rotate_left
        · intro w' hw'; have hcn := (hw'.cell (p := ⟨w.heap.size + 1, 0, none⟩) hcl).trans cn; go_simp; with_reducible rfl
        simp only [Act.put, List.setIfInBounds_toArray, List.set_cons_zero, List.set_cons_succ]
        refine wpAnyH_take_d (i := 6) (oi := _) (v := ?_) (some 89) rfl rfl (by kernel_rfl) (by kernel_rfl) (by kernel_rfl) (fun _ _ _ h => h) (Or.inl ⟨by rfl, ?_⟩) hHeld ?_
        rotate_left
        · intro w' hw'; go_simp; with_reducible rfl
        simp only [Act.put, List.setIfInBounds_toArray, List.set_cons_zero, List.set_cons_succ]
        refine wpAnyH_take_d (i := 7) (oi := _) (v := ?_) (some 90) rfl rfl (by kernel_rfl) (by kernel_rfl) (by kernel_rfl) (fun _ _ _ h => h) (Or.inl ⟨by rfl, ?_⟩) hHeld ?_
        rotate_left
        · intro w' hw'; go_simp; with_reducible rfl
        simp only [Act.put, List.setIfInBounds_toArray, List.set_cons_zero, List.set_cons_succ]
        refine wpAnyH_take_d (i := 8) (oi := _) (v := ?_) (some 91) rfl rfl (by kernel_rfl) (by kernel_rfl) (by kernel_rfl) (fun _ _ _ h => h) (Or.inl ⟨by rfl, ?_⟩) hHeld ?_
        rotate_left
        · intro w' hw'; go_simp; with_reducible rfl
        simp only [Act.put, List.setIfInBounds_toArray, List.set_cons_zero, List.set_cons_succ]
        refine wpAnyH_take_d (i := 9) (oi := _) (v := ?_) (some 92) rfl rfl (by kernel_rfl) (by kernel_rfl) (by kernel_rfl) (fun _ _ _ h => h) (Or.inl ⟨by rfl, ?_⟩) hHeld ?_
        rotate_left
        · intro w' hw'; go_simp; with_reducible rfl
        simp only [Act.put, List.setIfInBounds_toArray, List.set_cons_zero, List.set_cons_succ]
        refine wpAnyH_take_d (i := 10) (oi := _) (v := _) (some 93) rfl rfl (by kernel_rfl) (by kernel_rfl) (by kernel_rfl) (fun _ _ _ h => h) (yieldsIf_load_mid (by rfl) 24 (.tmp 92) rfl bm (om + 49) rfl MA _ (fun w' h => rangeAt_below r4 h hbm) hu24 rfl hi4) hHeld ?_
        simp only [Act.put, List.setIfInBounds_toArray, List.set_cons_zero, List.set_cons_succ]
        refine wpAnyH_take_d (i := 11) (oi := _) (v := ?_) (some 94) rfl rfl (by kernel_rfl) (by kernel_rfl) (by kernel_rfl) (fun _ _ _ h => h) (Or.inl ⟨by rfl, ?_⟩) hHeld ?_
        rotate_left
        · intro w' hw'; go_simp; with_reducible rfl
        simp only [Act.put, List.setIfInBounds_toArray, List.set_cons_zero, List.set_cons_succ]
        refine wpAnyH_take_d (i := 12) (oi := _) (v := ?_) (some 95) rfl rfl (by kernel_rfl) (by kernel_rfl) (by kernel_rfl) (fun _ _ _ h => h) (Or.inl ⟨by rfl, ?_⟩) hHeld ?_
        rotate_left
        · intro w' hw'; go_simp; with_reducible rfl
        simp only [Act.put, List.setIfInBounds_toArray, List.set_cons_zero, List.set_cons_succ]
        refine wpAnyH_take_d (i := 13) (oi := _) (v := ?_) (some 96) rfl rfl (by kernel_rfl) (by kernel_rfl) (by kernel_rfl) (fun _ _ _ h => h) (Or.inl ⟨by rfl, ?_⟩) hHeld ?_
        rotate_left
        · intro w' hw'; go_simp; with_reducible rfl
        simp only [Act.put, List.setIfInBounds_toArray, List.set_cons_zero, List.set_cons_succ]
        refine wpAnyH_take_d (i := 14) (oi := _) (v := ?_) (some 97) rfl rfl (by kernel_rfl) (by kernel_rfl) (by kernel_rfl) (fun _ _ _ h => h) (Or.inl ⟨by rfl, ?_⟩) hHeld ?_
        rotate_left
        · intro w' hw'; go_simp; with_reducible rfl
        simp only [Act.put, List.setIfInBounds_toArray, List.set_cons_zero, List.set_cons_succ]
        refine wpAnyH_take_d (i := 15) (oi := _) (v := _) (some 98) rfl rfl (by kernel_rfl) (by kernel_rfl) (by kernel_rfl) (fun _ _ _ h => h) (yieldsIf_load_mid (by rfl) 24 (.tmp 97) rfl bm (om + 57) rfl MK _ (fun w' h => rangeAt_below r5 h hbm) hu24 rfl hi5) hHeld ?_
        simp only [Act.put, List.setIfInBounds_toArray, List.set_cons_zero, List.set_cons_succ]
        refine wpAnyH_take_d (i := 16) (oi := _) (v := ?_) (some 99) rfl rfl (by kernel_rfl) (by kernel_rfl) (by kernel_rfl) (fun _ _ _ h => h) (Or.inl ⟨by rfl, ?_⟩) hHeld ?_
        rotate_left
        · intro w' hw'; go_simp; with_reducible rfl
        simp only [Act.put, List.setIfInBounds_toArray, List.set_cons_zero, List.set_cons_succ]
        refine wpAnyH_one 17 (some 100) (v := .slice (some ⟨we.heap.size, 0, none⟩) 4 4) (w' := we.drew.alloc (.cells #[.iface 24 (.agg AT.toArray), .iface 9 (.string nm), .iface 24 (.agg MA.toArray), .iface 24 (.agg MK.toArray)] 20)) rfl rfl (by kernel_rfl) (by rfl) (by go_simp) (hHeld.alloc hHeld.size _) ?_
        simp only [Act.put, List.setIfInBounds_toArray, List.set_cons_zero, List.set_cons_succ]
        refine wpAnyH_call 18 (some 101) 26 #[.string _, .slice (some ⟨we.heap.size, 0, none⟩) 4 4] rfl rfl (by kernel_rfl) (by rfl) (by go_simp; rfl) ?_
        refine (errorf_any _ [.iface 24 (.agg AT.toArray), .iface 9 (.string nm), .iface 24 (.agg MA.toArray), .iface 24 (.agg MK.toArray)] we.heap.size 4 4 [(0, 120, false), (1, 115, false), (2, 120, false), (3, 120, false)] _ rfl rfl (fun j v hv => ?_) (fun W => by kernel_rfl) rfl (fun p hp => ?_)).mono ?_
        · show (we.drew.alloc _).cell? ⟨we.drew.heap.size, j, none⟩ = some v
          rw [World.cell?_alloc_at _ _ _ _ rfl]; simpa using hv
        · simp only [List.mem_cons, List.not_mem_nil, or_false] at hp
          rcases hp with rfl | rfl | rfl | rfl
          · exact ⟨rfl, _, rfl, hrd3⟩
          · exact ⟨rfl, _, rfl, reads_str nm⟩
          · exact ⟨rfl, _, rfl, hrd4⟩
          · exact ⟨rfl, _, rfl, hrd5⟩
        rintro e w6 ⟨⟨t, v, rfl⟩, hb6⟩
        have hs6 : Below wc.heap.size wc w6 := (hHeld.alloc hHeld.size _).trans (hb6.mono (Nat.le_trans hHeld.size (by simp)))
        clear hHeld
        have hHeld := hs6
        refine ⟨_, rfl, hs6, ?_⟩
        simp only [Act.put, List.setIfInBounds_toArray, List.set_cons_zero, List.set_cons_succ]
        refine wpAnyH_take_d (i := 19) (oi := _) (v := ?_) (some 4) rfl rfl (by kernel_rfl) (by kernel_rfl) (by kernel_rfl) (fun _ _ _ h => h) (Or.inl ⟨by rfl, ?_⟩) hHeld ?_
        rotate_left
        · intro w' hw'; go_simp; with_reducible rfl
        simp only [Act.put, List.setIfInBounds_toArray, List.set_cons_zero, List.set_cons_succ]
        refine wpAnyH_take_d (i := 20) (oi := _) (v := ?_) (some 5) rfl rfl (by kernel_rfl) (by kernel_rfl) (by kernel_rfl) (fun _ _ _ h => h) (Or.inl ⟨by rfl, ?_⟩) hHeld ?_
        rotate_left
        · intro w' hw'; go_simp; with_reducible rfl
        simp only [Act.put, List.setIfInBounds_toArray, List.set_cons_zero, List.set_cons_succ]
        refine wpAnyH_done (by kernel_rfl) ?_ _
        go_wp2
        go_ret2
        exact ⟨.inr (.inr ⟨⟨t, v, rfl⟩, .inr ⟨m, g, sv, hsel, .inr (.inl hq')⟩⟩), bc.trans (hs6.mono bc.size)⟩
    · have hs' : (sig == m.sig) = false := by simp [hs]
      have HE := hid hs
      clear hs
      go_wp2_with fail
      refine wp_region_quiet_lit (by kernel_rfl) (by kernel_rfl) ?_
      iterate 3 go_big_quiet_step (fail)
      refine wpQuiet_load_mid (by rfl) 23 (.tmp 47) rfl R 64 rfl SG _ (by rintro w' ⟨n, rfl⟩; simpa [World.rangeAt] using r1) hu rfl hi1 ?_
      simp only [Act.put, List.setIfInBounds_toArray, List.set_cons_zero, List.set_cons_succ]
      iterate 3 go_big_quiet_step (fail)
      refine wpQuiet_load_mid (by rfl) 23 (.tmp 51) rfl bm (om + 1) rfl MG _ (by rintro w' ⟨n, rfl⟩; simpa [World.rangeAt] using r3) hu rfl hi2 ?_
      simp only [Act.put, List.setIfInBounds_toArray, List.set_cons_zero, List.set_cons_succ]
      iterate 2 go_big_quiet_step (fail)
      refine wpQuiet_nil ?_
      rintro _ ⟨nq, rfl⟩
      go_wp2_with fail
      generalize hwd : wc.drewN nq = wd
      have bd : Below wc.heap.size wc wd := by rw [← hwd]; exact ⟨rfl, rfl, rfl, Nat.le_refl _, fun _ _ => rfl⟩
      refine wp_region_held_drew (S := fun w' => Below wc.heap.size wc w') (by kernel_rfl) bd.drew (fun hHeld => ?_)
      refine wpAnyH_take_d (i := 0) (oi := _) (v := ?_) (some 54) rfl rfl (by kernel_rfl) (by kernel_rfl) (by kernel_rfl) (fun _ _ _ h => h) (Or.inl ⟨by rfl, ?_⟩) hHeld ?_
      rotate_left
      · intro w' hw'; go_simp; with_reducible rfl
      simp only [Act.put, List.setIfInBounds_toArray, List.set_cons_zero, List.set_cons_succ]
      refine wpAnyH_take_d (i := 1) (oi := _) (v := ?_) (some 55) rfl rfl (by kernel_rfl) (by kernel_rfl) (by kernel_rfl) (fun _ _ _ h => h) (Or.inl ⟨by rfl, ?_⟩) hHeld ?_
      rotate_left
      · intro w' hw'; go_simp; with_reducible rfl
      simp only [Act.put, List.setIfInBounds_toArray, List.set_cons_zero, List.set_cons_succ]
      refine wpAnyH_take_d (i := 2) (oi := _) (v := ?_) (some 56) rfl rfl (by kernel_rfl) (by kernel_rfl) (by kernel_rfl) (fun _ _ _ h => h) (Or.inl ⟨by rfl, ?_⟩) hHeld ?_
      rotate_left
      · intro w' hw'; go_simp; with_reducible rfl
      simp only [Act.put, List.setIfInBounds_toArray, List.set_cons_zero, List.set_cons_succ]
      refine wpAnyH_take_d (i := 3) (oi := _) (v := _) (some 57) rfl rfl (by kernel_rfl) (by kernel_rfl) (by kernel_rfl) (fun _ _ _ h => h) (yieldsIf_load_mid (by rfl) 23 (.tmp 56) rfl R (64) rfl SG _ (fun w' h => rangeAt_below r1 h hRc) hu rfl hi1) hHeld ?_
      simp only [Act.put, List.setIfInBounds_toArray, List.set_cons_zero, List.set_cons_succ]
      refine wpAnyH_take_d (i := 4) (oi := _) (v := ?_) (some 58) rfl rfl (by kernel_rfl) (by kernel_rfl) (by kernel_rfl) (fun _ _ _ h => h) (Or.inl ⟨by rfl, ?_⟩) hHeld ?_
      rotate_left
      · intro w' hw'; go_simp; with_reducible rfl
      simp only [Act.put, List.setIfInBounds_toArray, List.set_cons_zero, List.set_cons_succ]
      refine wpAnyH_take_d (i := 5) (oi := _) (v := ?_) (some 59) rfl rfl (by kernel_rfl) (by kernel_rfl) (by kernel_rfl) (fun _ _ _ h => h) (Or.inl ⟨by rfl, ?_⟩) hHeld ?_
      rotate_left
      · intro w' hw'; have hcn := (hw'.cell (p := ⟨w.heap.size + 1, 0, none⟩) hcl).trans cn; go_simp; with_reducible rfl
      simp only [Act.put, List.setIfInBounds_toArray, List.set_cons_zero, List.set_cons_succ]
      refine wpAnyH_take_d (i := 6) (oi := _) (v := ?_) (some 60) rfl rfl (by kernel_rfl) (by kernel_rfl) (by kernel_rfl) (fun _ _ _ h => h) (Or.inl ⟨by rfl, ?_⟩) hHeld ?_
      rotate_left
      · intro w' hw'; go_simp; with_reducible rfl
      simp only [Act.put, List.setIfInBounds_toArray, List.set_cons_zero, List.set_cons_succ]
      refine wpAnyH_take_d (i := 7) (oi := _) (v := ?_) (some 61) rfl rfl (by kernel_rfl) (by kernel_rfl) (by kernel_rfl) (fun _ _ _ h => h) (Or.inl ⟨by rfl, ?_⟩) hHeld ?_
      rotate_left
      · intro w' hw'; go_simp; with_reducible rfl
      simp only [Act.put, List.setIfInBounds_toArray, List.set_cons_zero, List.set_cons_succ]
      refine wpAnyH_take_d (i := 8) (oi := _) (v := ?_) (some 62) rfl rfl (by kernel_rfl) (by kernel_rfl) (by kernel_rfl) (fun _ _ _ h => h) (Or.inl ⟨by rfl, ?_⟩) hHeld ?_
      rotate_left
      · intro w' hw'; go_simp; with_reducible rfl
      simp only [Act.put, List.setIfInBounds_toArray, List.set_cons_zero, List.set_cons_succ]
      refine wpAnyH_take_d (i := 9) (oi := _) (v := ?_) (some 63) rfl rfl (by kernel_rfl) (by kernel_rfl) (by kernel_rfl) (fun _ _ _ h => h) (Or.inl ⟨by rfl, ?_⟩) hHeld ?_
      rotate_left
      · intro w' hw'; go_simp; with_reducible rfl
      simp only [Act.put, List.setIfInBounds_toArray, List.set_cons_zero, List.set_cons_succ]
      refine wpAnyH_take_d (i := 10) (oi := _) (v := _) (some 64) rfl rfl (by kernel_rfl) (by kernel_rfl) (by kernel_rfl) (fun _ _ _ h => h) (yieldsIf_load_mid (by rfl) 23 (.tmp 63) rfl bm (om + 1) rfl MG _ (fun w' h => rangeAt_below r3 h hbm) hu rfl hi2) hHeld ?_
      simp only [Act.put, List.setIfInBounds_toArray, List.set_cons_zero, List.set_cons_succ]
      refine wpAnyH_take_d (i := 11) (oi := _) (v := ?_) (some 65) rfl rfl (by kernel_rfl) (by kernel_rfl) (by kernel_rfl) (fun _ _ _ h => h) (Or.inl ⟨by rfl, ?_⟩) hHeld ?_
      rotate_left
      · intro w' hw'; go_simp; with_reducible rfl
      simp only [Act.put, List.setIfInBounds_toArray, List.set_cons_zero, List.set_cons_succ]
      have sd : wd.drew.heap.size = wd.heap.size := rfl
      refine wpAnyH_one 12 (some 66) (v := .slice (some ⟨wd.heap.size, 0, none⟩) 3 3) (w' := wd.drew.alloc (.cells #[.iface 23 (.agg SG.toArray), .iface 9 (.string nm), .iface 23 (.agg MG.toArray)] 20)) rfl rfl (by kernel_rfl) (by rfl) (by go_simp) (hHeld.alloc hHeld.size _) ?_
      simp only [Act.put, List.setIfInBounds_toArray, List.set_cons_zero, List.set_cons_succ]
      refine wpAnyH_call 13 (some 67) 26 #[.string _, .slice (some ⟨wd.heap.size, 0, none⟩) 3 3] rfl rfl (by kernel_rfl) (by rfl) (by go_simp; rfl) ?_
      refine (errorf_any _ [.iface 23 (.agg SG.toArray), .iface 9 (.string nm), .iface 23 (.agg MG.toArray)] wd.heap.size 3 3 [(0, 120, false), (1, 115, false), (2, 120, false)] _ rfl rfl (fun j v hv => ?_) (fun W => by kernel_rfl) rfl (fun p hp => ?_)).mono ?_
      · show (wd.drew.alloc _).cell? ⟨wd.drew.heap.size, j, none⟩ = some v
        rw [World.cell?_alloc_at _ _ _ _ rfl]; simpa using hv
      · simp only [List.mem_cons, List.not_mem_nil, or_false] at hp
        rcases hp with rfl | rfl | rfl
        · exact ⟨rfl, _, rfl, hrd1⟩
        · exact ⟨rfl, _, rfl, reads_str nm⟩
        · exact ⟨rfl, _, rfl, hrd2⟩
      rintro e w6 ⟨⟨t, v, rfl⟩, hb6⟩
      have hs6 : Below wc.heap.size wc w6 := (hHeld.alloc hHeld.size _).trans (hb6.mono (Nat.le_trans hHeld.size (by simp)))
      clear hHeld
      have hHeld := hs6
      refine ⟨_, rfl, hs6, ?_⟩
      simp only [Act.put, List.setIfInBounds_toArray, List.set_cons_zero, List.set_cons_succ]
      refine wpAnyH_take_d (i := 14) (oi := _) (v := ?_) (some 4) rfl rfl (by kernel_rfl) (by kernel_rfl) (by kernel_rfl) (fun _ _ _ h => h) (Or.inl ⟨by rfl, ?_⟩) hHeld ?_
      rotate_left
      · intro w' hw'; go_simp; with_reducible rfl
      simp only [Act.put, List.setIfInBounds_toArray, List.set_cons_zero, List.set_cons_succ]
      refine wpAnyH_take_d (i := 15) (oi := _) (v := ?_) (some 5) rfl rfl (by kernel_rfl) (by kernel_rfl) (by kernel_rfl) (fun _ _ _ h => h) (Or.inl ⟨by rfl, ?_⟩) hHeld ?_
      rotate_left
      · intro w' hw'; go_simp; with_reducible rfl
      simp only [Act.put, List.setIfInBounds_toArray, List.set_cons_zero, List.set_cons_succ]
      refine wpAnyH_done (by kernel_rfl) ?_ _
      go_wp2
      go_ret2
      exact ⟨.inr (.inr ⟨⟨t, v, rfl⟩, .inr ⟨m, g, sv, hsel, .inl HE.out⟩⟩), bc.trans (hs6.mono bc.size)⟩
end Go.Proofs.Qxb6609499aFmt
