/-
  The proof of 'Rows.FnAppendStateEncodesStoreCardSaid': the card, out of the law's walk.
-/
import Derived.Test.Qxb6609540aGreatDoorCards
import Derived.Test.Qxb6609540aGreatDoorTie
import Derived.Test.Qxb6609540aGreatDoorLaw3
import Derived.Test.Qxb6609540aGreatDoorOpen
import Derived.WalkKit
import Derived.ProofKit
import Derived.OpenShut
import Derived.ChangeSame
import Derived.ChangeOld
import Derived.ChangeVars
import Derived.Handy
import Derived.Lay
import Derived.SevenTiedAt
namespace Go.Proofs.Qxb6609540aGreatDoor
open Go.ChangeShapes Go.WideShapes Go.ChangeAt Go.RowKit

theorem own : ownKnob Tryz.prog.godebug = none := by kernel_rfl
theorem laidOut : laidOutB Tryz.prog = true := by kernel_rfl
theorem kept_same {W w' : World} (h : Kept W.heap.size W w') {p : MemPlace} (hp : p.block < W.heap.size) : W.sameAt w' p := by
  cases p with
  | cell b o => exact World.cell?_of_block (w := W) (h.block b hp)
  | map b => exact h.block b hp
theorem kept_frame {W w' : World} (h : Kept W.heap.size W w') (may : MemPlace → Prop) : W.keptBut w' may := by
  refine ⟨h.os, h.output, fun i hi => ?_⟩
  rw [h.block i hi]
  split <;> simp_all
theorem kept_trod {H : Type} {enc : TypeId × Value → H} {t : TypeId} (hr : Tryz.prog.readableRec t = true) (hrow : t < Tryz.prog.types.size) {W W' : World} {v : Value} {d : DataW H} {ps : List MemPlace}
    (h : DataW.Trod enc Tryz.prog W 0 (fun _ => true) true t v d ps) (hb : Kept W.heap.size W W') (hlt : ∀ x ∈ ps, x.block < W.heap.size) :
    DataW.Trod enc Tryz.prog W' 0 (fun b => decide (b < W.heap.size)) true t v d ps :=
  WideElems.Trod_stays laidOut hr hrow h (fun x hx => kept_same hb (hlt x hx)) (fun x hx => by simpa using hlt x hx)
theorem tKinds : (Tryz.prog.globals[0]?).map (·.type) = some 156 := by kernel_rfl
/-- The listed variable reads as it did. -/
theorem kept_vars {n : String} (gKinds : Tryz.prog.globalNamed n = some 0) {H : Type} {enc : TypeId × Value → H} {W W' : World} {gs : List (DataW H)} {q : List MemPlace} (h : DataW.TrodVars enc Tryz.prog W (fun _ => true) [n] gs q) (hb : Kept W.heap.size W W') :
    DataW.TrodVars enc Tryz.prog W' (fun b => decide (b < W.heap.size)) [n] gs q := by
  have hlt := h.lt
  obtain ⟨g, t, cs, fuel, d, p, rfl, h1, h2, h3, h4, rfl⟩ := trodVars_one h
  obtain rfl := Option.some.inj (gKinds.symm.trans h1)
  obtain rfl := Option.some.inj (tKinds.symm.trans h2)
  have hg : 0 < W.heap.size := by
    unfold World.var? at h3
    rw [gKinds] at h3
    rcases e : W.heap[0]? with _ | o
    · simp [e] at h3
    · exact (Array.getElem?_eq_some_iff.1 e).1
  have h3' : W'.var? Tryz.prog n = some cs := by
    rw [← h3]
    unfold World.var?
    rw [gKinds]
    simp only [Option.bind_some, hb.block 0 hg]
  refine trodVars_mk1 gKinds tKinds h3' (fuel := fuel) ?_
  have hr : Tryz.prog.readableRec 156 = true := by kernel_rfl
  exact DataW.trod_stays (kids_book laidOut hr) (book_sized hr) (fun h => by cases h) ⟨of_decide_eq_true (by kernel_rfl), book_self 156⟩ h4 (fun x hx => kept_same hb (hlt x (List.mem_append_right _ hx))) (fun x hx => by simpa using hlt x (List.mem_append_right _ hx))
set_option maxRecDepth 100000 in
theorem lifted3 (os : Os) (started : os.Started) (H : Type) (enc : TypeId × Value → H) :
    ReturnsInHanded {} Tryz.checked os 3 .any (fun w args => (Rows.fnAppendStateEncodesStoreSpec.pre enc Tryz.prog Tryz.f3 [] false w args ∧ laidMetH Tryz.prog Rows.fnAppendStateEncodesStoreRow.laid w) ∧ sizedMet enc Tryz.prog Tryz.f3 (OpenSpec.ofChange Rows.fnAppendStateEncodesStoreSpec) false w args)
      (Rows.fnAppendStateEncodesStoreSpec.post enc Tryz.prog Tryz.f3 false true false false) := by
  refine returnsInHanded_of_change_and (C := Tryz.checked) (X := fun w _ => laidMetH Tryz.prog Rows.fnAppendStateEncodesStoreRow.laid w) (fun _ _ _ hh h => h.of_heap hh) own started (by kernel_rfl) Tryz.func3
    (ChangeSpec.witness_shaped (enc := enc) (C := Tryz.checked) (os := os) (X := fun w _ => laidMetH Tryz.prog Rows.fnAppendStateEncodesStoreRow.laid w) false (World.laidAll Tryz.prog os Rows.fnAppendStateEncodesStoreRow.laid) #[.slice none 0 0, .int .u64 0, .int .i64 0, .slice none 0 0, .slice none 0 0] 8 (World.laidAll_os _ _ _)
      (World.shaped_of_ZipB (by kernel_rfl) (by kernel_rfl)) (by kernel_rfl) (by kernel_rfl) (by kernel_rfl)
      (by rw [MakeChecks.laidMetH_plain _ _ _ (by kernel_rfl)]; exact laidMet_laidAll _ (by kernel_rfl) (by kernel_rfl))) ?_
  intro W base args ds gs before hval0 hW _ hsz0 _ _
  have hval : ∀ (j : Nat) t v, Tryz.f3.params[j]? = some t → args[j]? = some v → Value.okWide Tryz.prog W .any base t v := hval0
  have hW' := hW
  obtain ⟨p, q, hA0, hV0, rfl, _, _⟩ := hW
  have hA : DataW.TrodAll enc Tryz.prog W 0 (fun _ => true) true Tryz.f3.params.toList args.toList ds p := hA0
  obtain ⟨n, hn0, gKinds⟩ : ∃ n, Rows.fnAppendStateEncodesStoreSpec.vars = [n] ∧ Tryz.prog.globalNamed n = some 0 := ⟨_, rfl, by kernel_rfl⟩
  have hV : DataW.TrodVars enc Tryz.prog W (fun _ => true) [n] gs q := by rw [← hn0]; exact hV0
  rw [Tryz.params3] at hA hval
  obtain ⟨v0, vs0, d0, ds0, p0, q0, hargs, rfl, rfl, h0, r0⟩ := trodAll_cons hA
  obtain ⟨v1, vs1, d1, ds1, p1, q1, rfl, rfl, rfl, h1, r1⟩ := trodAll_cons r0
  obtain ⟨v2, vs2, d2, ds2, p2, q2, rfl, rfl, rfl, h2, r2⟩ := trodAll_cons r1
  obtain ⟨v3, vs3, d3, ds3, p3, q3, rfl, rfl, rfl, h3, r3⟩ := trodAll_cons r2
  obtain ⟨v4, vs4, d4, ds4, p4, q4, rfl, rfl, rfl, h4, r4⟩ := trodAll_cons r3
  obtain ⟨rfl, rfl, rfl⟩ := trodAll_nil r4
  obtain rfl : args = #[v0, v1, v2, v3, v4] := by cases args; simp_all
  obtain ⟨g0, hgs⟩ : ∃ g0, gs = [g0] := by obtain ⟨_, _, _, _, d, _, e, _⟩ := trodVars_one hV; exact ⟨d, e⟩
  subst hgs
  have hsz : (DataW.weightsEach Tryz.prog ([22, 23, 2, 24, 25] ++ [156]) ([d0, d1, d2, d3, d4] ++ [g0])).all (· ≤ reachBytes) = true := by
    have h1 : (DataW.weightsEach Tryz.prog (Tryz.f3.params.toList ++ Rows.fnAppendStateEncodesStoreSpec.plain.varTypes Tryz.prog) ([d0, d1, d2, d3, d4] ++ [g0])).all (· ≤ reachBytes) = true := hsz0
    rw [Tryz.params3, show Rows.fnAppendStateEncodesStoreSpec.plain.varTypes Tryz.prog = [156] from by kernel_rfl] at h1
    exact h1
  have light : ∀ {j : Nat} {t : TypeId} {d : DataW H}, ([22, 23, 2, 24, 25] ++ [156])[j]? = some t → ([d0, d1, d2, d3, d4] ++ [g0])[j]? = some d → Light Tryz.prog t d := fun ht hd n hn =>
    of_decide_eq_true (List.all_eq_true.1 hsz n (DataW.weights_mem_each ht hd n hn))
  clear hA0 hval0 hsz0
  obtain ⟨a0, len0, cap0, rfl⟩ := okWide_slice Tryz.underlying22 (hval 0 22 v0 rfl rfl)
  obtain ⟨nx, rfl, rfl, rfl, w1⟩ := open_int Tryz.underlying23 (hval 1 23 v1 rfl rfl) h1
  obtain ⟨cr, rfl, rfl, rfl, w2⟩ := open_int Tryz.underlying2 (hval 2 2 v2 rfl rfl) h2
  obtain ⟨a3, len3, cap3, rfl⟩ := okWide_slice Tryz.underlying24 (hval 3 24 v3 rfl rfl)
  obtain ⟨a4, len4, cap4, rfl⟩ := okWide_slice Tryz.underlying25 (hval 4 25 v4 rfl rfl)
  have k0 := h0
  have k3 := h3
  have k4 := h4
  have lt0 : ∀ x ∈ p0, x.block < W.heap.size := by obtain ⟨m, hm⟩ := k0; exact DataW.trod_lt m _ _ _ hm
  have lt3 : ∀ x ∈ p3, x.block < W.heap.size := by obtain ⟨m, hm⟩ := k3; exact DataW.trod_lt m _ _ _ hm
  have lt4 : ∀ x ∈ p4, x.block < W.heap.size := by obtain ⟨m, hm⟩ := k4; exact DataW.trod_lt m _ _ _ hm
  obtain ⟨f0, g0'⟩ := h0
  obtain ⟨f3, g3'⟩ := h3
  obtain ⟨f4, g4'⟩ := h4
  obtain ⟨b0, c0, X, e0, hX, hXB⟩ := bytes_open g0' (light (j := 0) rfl rfl)
  obtain ⟨b3, c3, D, e3, hD⟩ := dbs_open g3' (light (j := 3) rfl rfl)
  obtain ⟨b4, c4, S, e4, hS⟩ := segs_open g4' (light (j := 4) rfl rfl)
  have ec0 : (Value.cells (.slice a0 len0 cap0)).toList = [.slice a0 len0 cap0] := rfl
  have ec3 : (Value.cells (.slice a3 len3 cap3)).toList = [.slice a3 len3 cap3] := rfl
  have ec4 : (Value.cells (.slice a4 len4 cap4)).toList = [.slice a4 len4 cap4] := rfl
  rw [ec0] at e0
  rw [ec3] at e3
  rw [ec4] at e4
  simp only [List.cons.injEq, Value.slice.injEq, and_true] at e0 e3 e4
  obtain ⟨rfl, rfl, rfl⟩ := e0
  obtain ⟨rfl, rfl, rfl⟩ := e3
  obtain ⟨rfl, rfl, rfl⟩ := e4
  have hn : U64 nx := by
    have hz : 0 ≤ nx ∧ nx ≤ 18446744073709551615 := by simpa [Lit.wf, IntKind.min, IntKind.max, IntKind.signed, IntKind.bits] using w1
    exact ⟨by have := hz.1; omega, by have := hz.2; omega⟩
  refine (law3_any a0 cap0 X nx cr a3 cap3 D a4 cap4 S W hn hX hXB hD hS).mono fun e W' ⟨he, hk⟩ => ?_
  subst he
  exact ⟨_, rfl, _, _, _, [], _, _, hW', trodAll_mk1 (shut_bool Tryz.underlying4 _),
    trodAll_cons_mk (kept_trod (by kernel_rfl) (of_decide_eq_true (by kernel_rfl)) k0 hk lt0) (trodAll_cons_mk (shut_int Tryz.underlying23 w1) (trodAll_cons_mk (shut_int Tryz.underlying2 w2)
      (trodAll_cons_mk (kept_trod (by kernel_rfl) (of_decide_eq_true (by kernel_rfl)) k3 hk lt3) (trodAll_cons_mk (kept_trod (by kernel_rfl) (of_decide_eq_true (by kernel_rfl)) k4 hk lt4) trodAll_mk0)))), (by rw [hn0]; exact kept_vars gKinds hV hk), kept_frame hk _, fun h => by cases h⟩
theorem row3_holds : Rows.FnAppendStateEncodesStoreSaid :=
  OpenClaim.holds_of_wide 3 Tryz.f3 rfl rfl rfl rfl rfl rfl rfl ⟨rfl, rfl, rfl, rfl, rfl⟩ rfl rfl rfl rfl rfl (by kernel_rfl) Tryz.func3 (by kernel_rfl)
    (of_decide_eq_true (by kernel_rfl)) (by unfold Func.isWrapper; first | (rw [if_pos (by decide +kernel)]; kernel_rfl) | (rw [if_neg (by decide +kernel)]; exact ⟨rfl, rfl⟩))
    (fun os started H enc _ => lifted3 os started H enc)
/-- ████ THE STATEMENT ████ -/
theorem fnAppendStateEncodesStore.proved : Rows.FnAppendStateEncodesStoreCardSaid :=
  Claim7.holds_tied_plain_at .later [] [.widerDeep] true (true, "49584af602403240bd87f1f0a0097e9c6895ca34466580fcb0e0a059536ba2fe") false row3_holds (fun _ h => by cases h) (by kernel_rfl) (fun _ h => by cases h) fnAppendStateEncodesStore_row_tie rfl ⟨rfl, rfl⟩ (by kernel_rfl) rfl
    (fun f fn hf hfn => by
      obtain rfl : f = 3 := Option.some.inj ((show Tryz.prog.funcNamed Rows.fnAppendStateEncodesStoreRow.func = some 3 by kernel_rfl).symm.trans hf) |>.symm
      obtain rfl : fn = Tryz.f3 := (Option.some.inj (Tryz.func3.symm.trans hfn)).symm
      exact ⟨by kernel_rfl, fun j t ht => by
        rw [Tryz.params3] at ht
        have hm : t ∈ [22, 23, 2, 24, 25] := by simpa using Array.mem_of_getElem? ht
        have hall : ([22, 23, 2, 24, 25].all fun u => !Tryz.prog.wantsStandIn u) = true := by kernel_rfl
        exact (show Tryz.prog.wantsStandIn t = false by simpa using List.all_eq_true.1 hall t hm)⟩)
    (by kernel_rfl)
end Go.Proofs.Qxb6609540aGreatDoor
