/-
  The plan: a map whose keys are pointers to groups. Its two operations, off the model's own definitions.
-/
import Derived.Test.Qxb6609540aGreatDoorSegs
import Derived.MapKept
import Derived.Maps.OwnSet
import Derived.LaidEql
namespace Go.Proofs.Qxb6609540aGreatDoor
open Go.RowKit Go.ChangeMaps
set_option linter.unusedSimpArgs false

/-- What the plan gives for the group in block g. -/
def planAt (PE : List (Nat × Value)) (g : Nat) : Option Value := (PE.find? (fun p => p.1 == g)).map (·.2)
def planKey (g : Nat) : Value := .pointer (some ⟨g, 0, none⟩)
/-- The map in block r holds PE. -/
def PlanAt (w : World) (r : Nat) (PE : List (Nat × Value)) : Prop :=
  ∃ es clock, w.heap[r]? = some (.map es clock) ∧ es.toList.map (fun e => (e.key, e.val)) = PE.map (fun p => (planKey p.1, p.2))

theorem Tryz.und56 : ∃ t j, Tryz.prog.underlying 56 = some (.pointer t) ∧ Tryz.prog.info? t = some j ∧ j.size = 5 := by
  have h : (Tryz.prog.info? 81).map (·.size) = some 5 := by kernel_rfl
  cases hq : Tryz.prog.info? 81 with
  | none => rw [hq] at h; cases h
  | some j => rw [hq] at h; exact ⟨81, j, Tryz.underlying56, hq, by simpa using h⟩
theorem equal56 (g g' : Nat) (w : World) (hg : Plain w g) (hg' : Plain w g') : (Op.equal 56 (planKey g) (planKey g')).run Tryz.prog w = .ok (decide (g = g')) w := by
  obtain ⟨t, j, hp, hte, hsz⟩ := Tryz.und56
  have h : ∀ d : Nat, (Op.equalIn (d + 1) 56 (planKey g) (planKey g')).run Tryz.prog w = .ok (decide (g = g')) w := fun d => by
    by_cases e : g = g'
    · subst e
      simp [planKey, Op.equalIn, run_underlying hp, sizeOf, typeInfo, hte, hsz, run_sameAddr_same]
    · obtain ⟨ca, ta, ha⟩ := hg
      obtain ⟨cb, tb, hb⟩ := hg'
      have := run_sameAddr_other (P := Tryz.prog) w (a := ⟨g, 0, none⟩) (b := ⟨g', 0, none⟩) (by simp [e]) ha hb
      simp [planKey, Op.equalIn, run_underlying hp, sizeOf, typeInfo, hte, hsz, this, e]
  unfold Op.equal Op.maxDepth
  exact h 9999

/-- The search, over entries whose keys are pointers. -/
theorem findAsking_run (g : Nat) (w : World) (hg : Plain w g) : ∀ (es : List MapEntry) (PE : List (Nat × Value)) (i : Nat), (∀ p ∈ PE, Plain w p.1) → es.map (fun e => (e.key, e.val)) = PE.map (fun p => (planKey p.1, p.2)) →
    (∀ v, planAt PE g = some v → ∃ j, (Instr.findAsking 56 (planKey g) es i).run Tryz.prog w = .ok (some (j, v)) w) ∧ (planAt PE g = none → (Instr.findAsking 56 (planKey g) es i).run Tryz.prog w = .ok none w)
  | [], [], i, _, _ => ⟨fun v h => by simp [planAt] at h, fun _ => by simp [Instr.findAsking]⟩
  | [], p :: PE, i, _, h => by simp at h
  | e :: es, [], i, _, h => by simp at h
  | e :: es, p :: PE, i, hP, h => by
    simp only [List.map_cons, List.cons.injEq, Prod.mk.injEq] at h
    obtain ⟨⟨h1, h2⟩, h3⟩ := h
    have ih := findAsking_run g w hg es PE (i + 1) (fun q hq => hP q (List.mem_cons_of_mem _ hq)) h3
    have hrun : (Instr.findAsking 56 (planKey g) (e :: es) i).run Tryz.prog w = if g = p.1 then .ok (some (i, e.val)) w else (Instr.findAsking 56 (planKey g) es (i + 1)).run Tryz.prog w := by
      simp only [Instr.findAsking, Sem.run_bind, h1, equal56 g p.1 w hg (hP p (List.mem_cons_self ..)), Result.andThen_ok]
      by_cases hgp : g = p.1 <;> simp [hgp]
    by_cases hgp : g = p.1
    · have hp : planAt (p :: PE) g = some p.2 := by simp [planAt, List.find?_cons, hgp]
      rw [hrun, if_pos hgp]
      refine ⟨fun v hv => ⟨i, ?_⟩, fun hn => by rw [hp] at hn; cases hn⟩
      rw [hp] at hv; cases hv; rw [h2]
    · have hp : planAt (p :: PE) g = planAt PE g := by simp [planAt, List.find?_cons, show (p.1 == g) = false by simp; omega]
      rw [hrun, if_neg hgp, hp]
      exact ih

theorem findKey_run (g : Nat) (w : World) (hg : Plain w g) (es : List MapEntry) (PE : List (Nat × Value)) (hP : ∀ p ∈ PE, Plain w p.1) (h : es.map (fun e => (e.key, e.val)) = PE.map (fun p => (planKey p.1, p.2))) :
    (∀ v, planAt PE g = some v → ∃ j, (Instr.findKey 56 (planKey g) es).run Tryz.prog w = .ok (some (j, v)) w) ∧ (planAt PE g = none → (Instr.findKey 56 (planKey g) es).run Tryz.prog w = .ok none w) := by
  cases es with
  | nil =>
    cases PE with
    | nil => exact ⟨fun v hv => by simp [planAt] at hv, fun _ => by simp [Instr.findKey, run_underlying Tryz.underlying56, Instr.findNow]⟩
    | cons p PE => simp at h
  | cons e es =>
    have hk : ∃ g', e.key = planKey g' := by
      cases PE with
      | nil => simp at h
      | cons p PE => simp only [List.map_cons, List.cons.injEq, Prod.mk.injEq] at h; exact ⟨p.1, h.1.1⟩
    obtain ⟨g', hk⟩ := hk
    have e1 : (Instr.findKey 56 (planKey g) (e :: es)).run Tryz.prog w = (Instr.findAsking 56 (planKey g) (e :: es)).run Tryz.prog w := by
      simp [Instr.findKey, run_underlying Tryz.underlying56, Instr.findNow, hk, planKey, Instr.sameNow]
    rw [e1]
    exact findAsking_run g w hg (e :: es) PE 0 hP h
set_option maxRecDepth 100000 in
theorem checkKey_run (b : Bool) (g : Nat) (w : World) : (Instr.checkKey b 10000 56 (planKey g)).run Tryz.prog w = .ok () w := by
  rw [show (10000 : Nat) = 9999 + 1 from rfl]
  unfold Instr.checkKey
  simp [run_underlying Tryz.underlying56, planKey]

theorem run_getObj_map' {w : World} {r : Nat} {es : Array MapEntry} {clock : Nat} (hb : w.heap[r]? = some (.map es clock)) : (getObj r).run Tryz.prog w = .ok (.map es clock) w := by
  simp [getObj, Sem.run, hb]
theorem run_setObj_map' {w : World} {r : Nat} {es : Array MapEntry} {clock : Nat} (hb : w.heap[r]? = some (.map es clock)) (o : Obj) : (setObj r o).run Tryz.prog w = .ok () (setBlock w r o) := by
  simp [setObj, Sem.run, hb, setBlock]
theorem Tryz.zero58 (w : World) : (zeroValue 58).run Tryz.prog w = .ok (.slice none 0 0) w := by
  have h : (Tryz.prog.info? 58).map (·.zero) = some (some (.slice none 0 0)) := by kernel_rfl
  cases hq : Tryz.prog.info? 58 with
  | none => rw [hq] at h; cases h
  | some i =>
    rw [hq] at h
    have hz : i.zero = some (.slice none 0 0) := by simpa using h
    simp [zeroValue, typeInfo, hq, hz]

/-- 'segments, planned := plan[g]'. -/
theorem plan_look {w : World} {r : Nat} {PE : List (Nat × Value)} (h : PlanAt w r PE) (g : Nat) (hg : Plain w g) (hP : ∀ p ∈ PE, Plain w p.1) :
    (Instr.lookup 31 (.map (some r)) (planKey g) true).run Tryz.prog w = .ok (.tuple #[(planAt PE g).getD (.slice none 0 0), .bool (planAt PE g).isSome]) w := by
  obtain ⟨es, clock, hb, he⟩ := h
  obtain ⟨f1, f2⟩ := findKey_run g w hg es.toList PE hP he
  cases hp : planAt PE g with
  | some v =>
    obtain ⟨j, hj⟩ := f1 v hp
    simp [Instr.lookup, run_underlying Tryz.underlying31, run_getObj_map' hb, checkKey_run, hj]
  | none =>
    have hj := f2 hp
    simp [Instr.lookup, run_underlying Tryz.underlying31, run_getObj_map' hb, checkKey_run, hj, Tryz.zero58]
theorem plan_look_nil (w : World) (g : Nat) : (Instr.lookup 31 (.map none) (planKey g) true).run Tryz.prog w = .ok (.tuple #[.slice none 0 0, .bool false]) w := by
  simp [Instr.lookup, run_underlying Tryz.underlying31, checkKey_run, Instr.findKey, run_underlying Tryz.underlying56, Instr.findNow, Tryz.zero58]

/-- 'plan[sg] = ..' at a group that it does not hold. -/
theorem plan_store {w : World} {r : Nat} {PE : List (Nat × Value)} (h : PlanAt w r PE) (g : Nat) (hg : Plain w g) (hP : ∀ p ∈ PE, Plain w p.1) (v : Value) (hn : planAt PE g = none) :
    ∃ w', (Instr.mapUpdate 31 (.map (some r)) (planKey g) v).run Tryz.prog w = .ok () w' ∧ PlanAt w' r (PE ++ [(g, v)]) ∧ w.mapTurned w' r := by
  obtain ⟨es, clock, hb, he⟩ := h
  obtain ⟨_, f2⟩ := findKey_run g w hg es.toList PE hP he
  have hj := f2 hn
  refine ⟨setBlock w r (.map (es.push { key := planKey g, val := v, born := clock }) (clock + 1)), ?_, ⟨_, _, heap_setBlock_same hb _, ?_⟩, ⟨es, clock, _, _, hb, rfl⟩⟩
  · simp [Instr.mapUpdate, run_underlying Tryz.underlying31, run_getObj_map' hb, checkKey_run, hj, run_setObj_map' hb, setBlock]
  · simp [he]
end Go.Proofs.Qxb6609540aGreatDoor
