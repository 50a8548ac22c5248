/-
  The proof of 'Rows.FnModuleLevelFirstReachedAndMonotoneToldSaid': the card, out of the law's walk (Qxb6609499aFmtLaw.lean).
-/
import Derived.Test.Qxb6609499aFmtCards
import Derived.Test.Qxb6609499aFmtLaw
import Derived.WalkKit
import Derived.ProofKit
import Derived.OpenShut
import Derived.ChangeSame
import Derived.ChangeOld
import Derived.Below
import Derived.Stop.JoinedAt
import Derived.Stop.Texts
import Derived.Stop.JoinedTold
import Derived.SevenToldRow
namespace Go.Proofs.Qxb6609499aFmt
open Go.ChangeShapes Go.WideShapes Go.ChangeAt Go.RowKit Go.Kit
open Go.Extern.Stop Go.Stop Go.Extern

theorem Tryf.own : ownKnob Tryf.prog.godebug = none := by kernel_rfl
theorem Tryf.laidOut : laidOutB Tryf.pinned.checked.prog = true := by kernel_rfl

set_option maxRecDepth 100000 in
theorem lifted (os : Os) (started : os.Started) (H : Type) (enc : TypeId × Value → H) :
    ReturnsInTold none {} Tryf.checked os 3 .any Input.okWide ((OpenSpec.ofChange Rows.fnModuleLevelFirstReachedAndMonotoneSpec).preRow enc Tryf.prog Tryf.f3 [] false []) (fun F => ((OpenSpec.ofChange Rows.fnModuleLevelFirstReachedAndMonotoneSpec).at F).post enc Tryf.prog Tryf.f3 false true false false) (aloneAtReturn Tryf.prog) nothingAlways := by
  refine returnsInTold_of_row (C := Tryf.checked) (s := (OpenSpec.ofChange Rows.fnModuleLevelFirstReachedAndMonotoneSpec)) (by kernel_rfl) Tryf.own started (by kernel_rfl) Tryf.func3
    (OpenSpec.witness_stopped (enc := enc) (C := Tryf.checked) false ⟨#[], #[.agg (Array.replicate 584 (.int .u8 0)), .agg ((#[Value.string ⟨#[]⟩] ++ Array.replicate 64 (Value.int .u8 0)).push (Value.slice none 0 0)), .slice none 0 0, .int .u8 0], []⟩ 8 (by kernel_rfl) (by kernel_rfl) (by kernel_rfl) (by kernel_rfl)) ?_
  intro F W base args ds gs before _ hF hval0 hW _ _ hsz0 _ _
  have hval : ∀ (j : Nat) t v, Tryf.f3.params[j]? = some t → args[j]? = some v → Value.okWide Tryf.prog W .any base t v := hval0
  have hW' := hW
  obtain ⟨p, q, hA0, hV, rfl, _, _⟩ := hW
  have hA : DataW.TrodAll enc Tryf.prog W 0 (fun _ => true) true Tryf.f3.params.toList args.toList ds p := hA0
  rw [Tryf.params3] at hA hval
  obtain ⟨v0, vs0, d0, ds0, p0, q0, hargs, rfl, rfl, h0, r0⟩ := trodAll_cons hA
  obtain ⟨v1, vs1, d1, ds1, p1, q1, rfl, rfl, rfl, h1, r1⟩ := trodAll_cons r0
  obtain ⟨v2, vs2, d2, ds2, p2, q2, rfl, rfl, rfl, h2, r2⟩ := trodAll_cons r1
  obtain ⟨v3, vs3, d3, ds3, p3, q3, rfl, rfl, rfl, h3, r3⟩ := trodAll_cons r2
  obtain ⟨rfl, rfl, rfl⟩ := trodAll_nil r3
  obtain rfl : args = #[v0, v1, v2, v3] := by cases args; simp_all
  obtain ⟨rfl, rfl⟩ := trodVars_none hV
  have hsz : (DataW.weightsEach Tryf.prog [28, 31, 32, 5] [d0, d1, d2, d3]).all (· ≤ reachBytes) = true := by
    have h1 : (DataW.weightsEach Tryf.prog (Tryf.f3.params.toList ++ (OpenSpec.ofChange Rows.fnModuleLevelFirstReachedAndMonotoneSpec).bare.plain.varTypes Tryf.prog) ([d0, d1, d2, d3] ++ [])).all (· ≤ reachBytes) = true := hsz0
    rw [Tryf.params3, show (OpenSpec.ofChange Rows.fnModuleLevelFirstReachedAndMonotoneSpec).bare.plain.varTypes Tryf.prog = [] from rfl, List.append_nil, List.append_nil] at h1
    exact h1
  have light : ∀ {j : Nat} {t : TypeId} {d : DataW H}, [28, 31, 32, 5][j]? = some t → [d0, d1, d2, d3][j]? = some d → Light Tryf.prog t d := fun ht hd n hn =>
    of_decide_eq_true (List.all_eq_true.1 hsz n (DataW.weights_mem_each ht hd n hn))
  clear hA0 hval0 hsz0
  obtain ⟨c0, rfl, _, _⟩ : ∃ cs, v0 = .agg cs ∧ cs.size = Tryf.prog.cellsOf 28 ∧ Row.okWide Tryf.prog W .any base 28 cs := by
    have := hval 0 28 v0 rfl rfl
    simpa [Value.okWide, Tryf.underlying28] using this
  obtain ⟨c1, rfl, _, _⟩ : ∃ cs, v1 = .agg cs ∧ cs.size = Tryf.prog.cellsOf 31 ∧ Row.okWide Tryf.prog W .any base 31 cs := by
    have := hval 1 31 v1 rfl rfl
    simpa [Value.okWide, Tryf.underlying31] using this
  obtain ⟨a2, len2, cap2, rfl⟩ := okWide_slice Tryf.underlying32 (hval 2 32 v2 rfl rfl)
  obtain ⟨h, rfl, rfl, rfl, w3⟩ := open_int Tryf.underlying5 (hval 3 5 v3 rfl rfl) h3
  have k0 := h0
  have k1 := h1
  have k2 := h2
  have lt0 : ∀ x ∈ p0, x.block < W.heap.size := by obtain ⟨m, hm⟩ := k0; exact DataW.trod_lt m _ _ _ hm
  have lt1 : ∀ x ∈ p1, x.block < W.heap.size := by obtain ⟨m, hm⟩ := k1; exact DataW.trod_lt m _ _ _ hm
  have lt2 : ∀ x ∈ p2, x.block < W.heap.size := by obtain ⟨m, hm⟩ := k2; exact DataW.trod_lt m _ _ _ hm
  obtain ⟨f0, g0⟩ := h0
  obtain ⟨f1, g1⟩ := h1
  obtain ⟨f2, g2⟩ := h2
  obtain ⟨svn, sig, att, hR, hone⟩ := rep_open g0
  obtain ⟨m, bsvn, hm, hmo, hml⟩ := mod_open g1 (light (j := 1) rfl rfl)
  obtain ⟨a', n', c', ms, svns, hs, hi⟩ := ids_open g2 (light (j := 2) rfl rfl)
  have ec0 : Value.cells (.agg c0) = c0 := rfl
  have ec1 : Value.cells (.agg c1) = c1 := rfl
  have ec2 : (Value.cells (.slice a2 len2 cap2)).toList = [.slice a2 len2 cap2] := rfl
  rw [ec0] at hR hone
  rw [ec1] at hm
  rw [ec2] at hs
  simp only [List.cons.injEq, Value.slice.injEq, and_true] at hs
  obtain ⟨rfl, rfl, rfl⟩ := hs
  have e1 : c1 = m.cells.toArray := by rw [← hm]
  have hh : 0 ≤ h ∧ h ≤ 255 := by simpa [Lit.wf, IntKind.min, IntKind.max, IntKind.signed, IntKind.bits] using w3
  subst e1
  refine (law_any F c0.toList svn sig att m bsvn a2 len2 cap2 ms svns h W hF hR hone hmo hml hi hh).mono fun e W' ⟨he, bel⟩ => ?_
  subst he
  exact ⟨_, rfl, _, _, _, [], _, [], hW', trodAll_mk1 (shut_bool Tryf.underlying4 _),
    (trodAll_cons_mk (Below.trod Tryf.laidOut (by kernel_rfl) (of_decide_eq_true (by kernel_rfl)) k0 bel lt0) (trodAll_cons_mk (Below.trod Tryf.laidOut (by kernel_rfl) (of_decide_eq_true (by kernel_rfl)) k1 bel lt1)
      (trodAll_cons_mk (Below.trod Tryf.laidOut (by kernel_rfl) (of_decide_eq_true (by kernel_rfl)) k2 bel lt2) (trodAll_cons_mk (shut_int Tryf.underlying5 w3) trodAll_mk0)))), rfl, bel.frame _, fun h => by cases h⟩

theorem Tryf.stops : Tryf.pinned.checked.prog.stops = ["fmt.Sprintf", "fmt.errorf"] := by kernel_rfl
theorem Tryf.stopKnobs : Tryf.pinned.checked.prog.stopKnobs = [] := by kernel_rfl
theorem Tryf.quiet (os : Os) : Stop.quiet Tryf.pinned.checked.prog os := by
  intro k hk
  rw [Tryf.stopKnobs] at hk
  cases hk

/-- ████ THE STATEMENT ████ -/
theorem fnModuleLevelFirstReachedAndMonotone.proved : Rows.FnModuleLevelFirstReachedAndMonotoneToldSaid :=
  Claim7.holds_of_told_any 3 Tryf.f3 "fmt.Sprintf" ["fmt.errorf"] [] _ _ _ (by kernel_rfl) rfl rfl rfl Tryf.laidOut (by kernel_rfl) rfl ⟨rfl, rfl, rfl, rfl, rfl, rfl, rfl⟩ rfl rfl (by kernel_rfl) (by kernel_rfl) Tryf.func3 (by kernel_rfl)
    (of_decide_eq_true (by kernel_rfl)) (of_decide_eq_true (by kernel_rfl)) Tryf.stops.symm rfl Tryf.stopKnobs.symm (by kernel_rfl)
    (by kernel_rfl) (by kernel_rfl) (by kernel_rfl) (by kernel_rfl) (by kernel_rfl) (by kernel_rfl) (by kernel_rfl) (by kernel_rfl) (by kernel_rfl) rfl (by kernel_rfl) rfl rfl
    rfl rfl
    rfl (by kernel_rfl) (by kernel_rfl) (by kernel_rfl) (by decide) (by kernel_rfl)
    (OpenClaim.moreEntering_of (by kernel_rfl) (by kernel_rfl) (by kernel_rfl) (by kernel_rfl) (by kernel_rfl) (by kernel_rfl) (by kernel_rfl) (by kernel_rfl) (by kernel_rfl) (by kernel_rfl))
    ⟨_, WideRow.started_initial, Tryf.quiet _⟩
    (fun os started _ H enc _ => lifted os started H enc)
end Go.Proofs.Qxb6609499aFmt
