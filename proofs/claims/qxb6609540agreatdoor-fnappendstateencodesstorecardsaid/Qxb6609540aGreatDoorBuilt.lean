/-
  Groups, policies and databases as they lie in memory, over a plan PE; the map of names.
-/
import Derived.Test.Qxb6609540aGreatDoorPlan
namespace Go.Proofs.Qxb6609540aGreatDoor
open Go.RowKit Go.ChangeMaps
set_option linter.unusedSimpArgs false

theorem planAt_append (A B : List (Nat × Value)) (g : Nat) : planAt (A ++ B) g = (planAt A g).or (planAt B g) := by
  unfold planAt
  rw [List.find?_append]
  cases A.find? (fun p => p.1 == g) <;> simp
theorem planAt_none_of {A : List (Nat × Value)} {g : Nat} (h : ∀ p ∈ A, p.1 ≠ g) : planAt A g = none := by
  unfold planAt
  rw [List.find?_eq_none.2 (fun p hp => by simpa using h p hp)]; rfl
/-- PE' is PE, more behind it, at new blocks alone. -/
def Grow (N : Nat) (PE PE' : List (Nat × Value)) : Prop := ∃ T, PE' = PE ++ T ∧ ∀ p ∈ T, N ≤ p.1
theorem Grow.refl (N : Nat) (PE : List (Nat × Value)) : Grow N PE PE := ⟨[], by simp, fun _ h => by cases h⟩
theorem Grow.trans {N N' : Nat} {A B C : List (Nat × Value)} (h : Grow N A B) (k : Grow N' B C) (hN : N ≤ N') : Grow N A C := by
  obtain ⟨T, rfl, h1⟩ := h
  obtain ⟨U, rfl, h2⟩ := k
  refine ⟨T ++ U, by simp, fun p hp => ?_⟩
  rcases List.mem_append.1 hp with hp | hp
  · exact h1 p hp
  · exact Nat.le_trans hN (h2 p hp)
theorem Grow.mono {N N' : Nat} {A B : List (Nat × Value)} (h : Grow N A B) (hN : N' ≤ N) : Grow N' A B := by
  obtain ⟨T, rfl, h1⟩ := h
  exact ⟨T, rfl, fun p hp => Nat.le_trans hN (h1 p hp)⟩
theorem Grow.at {N : Nat} {A B : List (Nat × Value)} (h : Grow N A B) {g : Nat} (hg : g < N) : planAt B g = planAt A g := by
  obtain ⟨T, rfl, h1⟩ := h
  rw [planAt_append, planAt_none_of (A := T) (fun p hp => by have := h1 p hp; omega)]
  cases planAt A g <;> rfl

/-- A group. -/
def GrpP (lo : Nat) (w : World) (PE : List (Nat × Value)) (g : Nat) (G : GrpV) : Prop :=
  lo ≤ g ∧ Plain w g ∧ w.cell? ⟨g, 0, none⟩ = some (.int .i64 G.st) ∧ w.cell? ⟨g, 1, none⟩ = some (.int .i64 G.en) ∧ (∃ sa sc, w.cell? ⟨g, 2, none⟩ = some (.slice sa G.segs.length sc) ∧ SegPs lo w sa G.segs) ∧ I64 G.st ∧ I64 G.en ∧
    (G.planned = true → ∃ pa pc, planAt PE g = some (.slice pa G.plan.length pc) ∧ SegPs lo w pa G.plan) ∧ (G.planned = false → planAt PE g = none)
def GrpPs (lo : Nat) (w : World) (PE : List (Nat × Value)) (a : Option Addr) (L : List GrpV) : Prop :=
  L.length * 8 ≤ 140737488351232 ∧ ∀ k s, L[k]? = some s → ∃ b off g, a = some ⟨b, off, none⟩ ∧ lo ≤ b ∧ w.cell? ⟨b, off + k, none⟩ = some (.pointer (some ⟨g, 0, none⟩)) ∧ GrpP lo w PE g s
/-- A policy. -/
def PolP (lo : Nat) (w : World) (PE : List (Nat × Value)) (g : Nat) (p : PolV) : Prop :=
  lo ≤ g ∧ w.cell? ⟨g, 0, none⟩ = some (.string p.name) ∧ w.cell? ⟨g, 1, none⟩ = some (.int .i64 p.dur) ∧ w.cell? ⟨g, 2, none⟩ = some (.int .i64 p.sgd) ∧ w.cell? ⟨g, 3, none⟩ = some (.int .i64 p.rep) ∧ w.cell? ⟨g, 4, none⟩ = some (.map none) ∧
    (∃ ga gc, w.cell? ⟨g, 5, none⟩ = some (.slice ga p.grps.length gc) ∧ GrpPs lo w PE ga p.grps) ∧ p.name.size ≤ 9223372036854775807 ∧ I64 p.dur ∧ I64 p.sgd ∧ I64 p.rep
def PolPs (lo : Nat) (w : World) (PE : List (Nat × Value)) (a : Option Addr) (L : List PolV) : Prop :=
  L.length * 8 ≤ 140737488351232 ∧ ∀ k s, L[k]? = some s → ∃ b off g, a = some ⟨b, off, none⟩ ∧ lo ≤ b ∧ w.cell? ⟨b, off + k, none⟩ = some (.pointer (some ⟨g, 0, none⟩)) ∧ PolP lo w PE g s
/-- A database. -/
def DbP (lo : Nat) (w : World) (PE : List (Nat × Value)) (g : Nat) (d : DbV) : Prop :=
  lo ≤ g ∧ w.cell? ⟨g, 0, none⟩ = some (.int .i64 d.ord) ∧ (∃ pa pc, w.cell? ⟨g, 1, none⟩ = some (.slice pa d.pols.length pc) ∧ PolPs lo w PE pa d.pols) ∧ w.cell? ⟨g, 2, none⟩ = some (.string d.dp) ∧ d.dp.size ≤ 9223372036854775807 ∧ I64 d.ord
section
variable {lo lo' : Nat} {w w' : World} {PE PE' : List (Nat × Value)} {a : Option Addr} {g : Nat}
theorem Plain.lt {w : World} {g : Nat} (h : Plain w g) : g < w.heap.size := by obtain ⟨_, _, h⟩ := h; exact block_lt h
theorem GrpP.ck {G : GrpV} (h : GrpP lo w PE g G) (hc : CK lo w w') (hg : Grow w.heap.size PE PE') : GrpP lo w' PE' g G := by
  obtain ⟨h0, h1, h2, h3, ⟨sa, sc, h4, h5⟩, h6, h7, h8, h9⟩ := h
  have e := hg.at h1.lt
  refine ⟨h0, hc.2.2 _ h0 h1, hc.2.1 _ _ h0 h2, hc.2.1 _ _ h0 h3, ⟨sa, sc, hc.2.1 _ _ h0 h4, h5.ck hc⟩, h6, h7, fun hp => ?_, fun hp => by rw [e]; exact h9 hp⟩
  obtain ⟨pa, pc, hq, hs⟩ := h8 hp
  exact ⟨pa, pc, by rw [e]; exact hq, hs.ck hc⟩
theorem GrpP.mono {G : GrpV} (h : GrpP lo w PE g G) (hl : lo' ≤ lo) : GrpP lo' w PE g G := by
  obtain ⟨h0, h1, h2, h3, ⟨sa, sc, h4, h5⟩, h6, h7, h8, h9⟩ := h
  refine ⟨Nat.le_trans hl h0, h1, h2, h3, ⟨sa, sc, h4, h5.mono hl⟩, h6, h7, fun hp => ?_, h9⟩
  obtain ⟨pa, pc, hq, hs⟩ := h8 hp
  exact ⟨pa, pc, hq, hs.mono hl⟩
theorem GrpPs.ck {L : List GrpV} (h : GrpPs lo w PE a L) (hc : CK lo w w') (hg : Grow w.heap.size PE PE') : GrpPs lo w' PE' a L :=
  ⟨h.1, fun k s hk => by
    obtain ⟨b, off, g, h1, h2, h3, h4⟩ := h.2 k s hk
    exact ⟨b, off, g, h1, h2, hc.2.1 _ _ h2 h3, h4.ck hc hg⟩⟩
theorem GrpPs.mono {L : List GrpV} (h : GrpPs lo w PE a L) (hl : lo' ≤ lo) : GrpPs lo' w PE a L :=
  ⟨h.1, fun k s hk => by
    obtain ⟨b, off, g, h1, h2, h3, h4⟩ := h.2 k s hk
    exact ⟨b, off, g, h1, Nat.le_trans hl h2, h3, h4.mono hl⟩⟩
theorem PolP.ck {p : PolV} (h : PolP lo w PE g p) (hc : CK lo w w') (hg : Grow w.heap.size PE PE') : PolP lo w' PE' g p := by
  obtain ⟨h0, h1, h2, h3, h4, h5, ⟨ga, gc, h6, h7⟩, h8⟩ := h
  exact ⟨h0, hc.2.1 _ _ h0 h1, hc.2.1 _ _ h0 h2, hc.2.1 _ _ h0 h3, hc.2.1 _ _ h0 h4, hc.2.1 _ _ h0 h5, ⟨ga, gc, hc.2.1 _ _ h0 h6, h7.ck hc hg⟩, h8⟩
theorem PolP.mono {p : PolV} (h : PolP lo w PE g p) (hl : lo' ≤ lo) : PolP lo' w PE g p := by
  obtain ⟨h0, h1, h2, h3, h4, h5, ⟨ga, gc, h6, h7⟩, h8⟩ := h
  exact ⟨Nat.le_trans hl h0, h1, h2, h3, h4, h5, ⟨ga, gc, h6, h7.mono hl⟩, h8⟩
theorem PolPs.ck {L : List PolV} (h : PolPs lo w PE a L) (hc : CK lo w w') (hg : Grow w.heap.size PE PE') : PolPs lo w' PE' a L :=
  ⟨h.1, fun k s hk => by
    obtain ⟨b, off, g, h1, h2, h3, h4⟩ := h.2 k s hk
    exact ⟨b, off, g, h1, h2, hc.2.1 _ _ h2 h3, h4.ck hc hg⟩⟩
theorem PolPs.mono {L : List PolV} (h : PolPs lo w PE a L) (hl : lo' ≤ lo) : PolPs lo' w PE a L :=
  ⟨h.1, fun k s hk => by
    obtain ⟨b, off, g, h1, h2, h3, h4⟩ := h.2 k s hk
    exact ⟨b, off, g, h1, Nat.le_trans hl h2, h3, h4.mono hl⟩⟩
theorem DbP.ck {d : DbV} (h : DbP lo w PE g d) (hc : CK lo w w') (hg : Grow w.heap.size PE PE') : DbP lo w' PE' g d := by
  obtain ⟨h0, h1, ⟨pa, pc, h2, h3⟩, h4, h5⟩ := h
  exact ⟨h0, hc.2.1 _ _ h0 h1, ⟨pa, pc, hc.2.1 _ _ h0 h2, h3.ck hc hg⟩, hc.2.1 _ _ h0 h4, h5⟩
theorem DbP.mono {d : DbV} (h : DbP lo w PE g d) (hl : lo' ≤ lo) : DbP lo' w PE g d := by
  obtain ⟨h0, h1, ⟨pa, pc, h2, h3⟩, h4, h5⟩ := h
  exact ⟨Nat.le_trans hl h0, h1, ⟨pa, pc, h2, h3.mono hl⟩, h4, h5⟩
end
/-- A store into a block that was not there leaves all that was. -/
theorem CK.setNew {w wr : World} (h : CK 0 w wr) {p : Addr} (hp : w.heap.size ≤ p.block) (u : Value) : CK 0 w (wr.setCell p u) :=
  ⟨by simpa using h.1, fun q v _ hv => by
    have hq : q.block < w.heap.size := World.block_lt_of_cell? _ _ hv
    exact (World.cell?_of_block (w := wr) (Below.heap_setCell wr p u q.block (by omega))).trans (h.2.1 q v (Nat.zero_le _) hv),
   fun k _ hk => by
    obtain ⟨cs, t, hc⟩ := h.2.2 k (Nat.zero_le _) hk
    exact ⟨cs, t, (Below.heap_setCell wr p u k (by have := hk.lt; omega)).trans hc⟩⟩

/-- The plan's value. -/
def PlanIs (B rm : Nat) (w : World) (v : Value) (PE : List (Nat × Value)) : Prop :=
  ((v = .map none ∧ PE = []) ∨ ∃ r, v = .map (some r) ∧ B ≤ r ∧ r ≠ rm ∧ PlanAt w r PE) ∧ ∀ p ∈ PE, Plain w p.1
/-- Nothing that the plan looks at has turned. -/
theorem PlanIs.kept {B rm : Nat} {w w' : World} {v : Value} {PE : List (Nat × Value)} (h : PlanIs B rm w v PE) (hc : CK 0 w w') (hm : ∀ (k : Nat) es clock, w.heap[k]? = some (Obj.map es clock) → w'.heap[k]? = w.heap[k]?) : PlanIs B rm w' v PE := by
  refine ⟨?_, fun p hp => hc.2.2 _ (Nat.zero_le _) (h.2 p hp)⟩
  rcases h.1 with h0 | ⟨r, h1, h2, h3, es, clock, h4, h5⟩
  · exact .inl h0
  · exact .inr ⟨r, h1, h2, h3, es, clock, by rw [hm r es clock h4]; exact h4, h5⟩

/-- The map of names: its entries in the order in which they came. -/
def NamesAt (w : World) (r : Nat) (ML : List (ByteArray × Nat)) : Prop :=
  ∃ es, w.heap[r]? = some (.map es es.size) ∧ es.toList = ML.zipIdx.map (fun p => ({ key := .string p.1.1, val := .pointer (some ⟨p.1.2, 0, none⟩), born := p.2 } : MapEntry))
def nameAt (ML : List (ByteArray × Nat)) (s : ByteArray) : Option Nat := (ML.find? (fun p => s == p.1)).map (·.2)
theorem findNow_names (s : ByteArray) : ∀ (ML : List (ByteArray × Nat)) (n i : Nat),
    ∃ j, Instr.findNow .string (.string s) ((ML.zipIdx n).map (fun p => ({ key := .string p.1.1, val := .pointer (some ⟨p.1.2, 0, none⟩), born := p.2 } : MapEntry))) i = some ((nameAt ML s).map (fun g => (j, .pointer (some ⟨g, 0, none⟩))))
  | [], n, i => ⟨0, by simp [Instr.findNow, nameAt]⟩
  | p :: ML, n, i => by
    obtain ⟨j, ih⟩ := findNow_names s ML (n + 1) (i + 1)
    by_cases h : (s == p.1) = true
    · exact ⟨i, by simp [Instr.findNow, Instr.sameNow, nameAt, h]⟩
    · have h' : (s == p.1) = false := by simpa using h
      refine ⟨j, ?_⟩
      have e : nameAt (p :: ML) s = nameAt ML s := by simp [nameAt, h']
      rw [e, ← ih]
      simp [Instr.findNow, Instr.sameNow, h']
theorem checkKey_str (b : Bool) (s : ByteArray) (w : World) : (Instr.checkKey b 10000 9 (.string s)).run Tryz.prog w = .ok () w := by
  rw [show (10000 : Nat) = 9999 + 1 from rfl]
  unfold Instr.checkKey
  simp [run_underlying Tryz.underlying9]
theorem Tryz.zero62 (w : World) : (zeroValue 62).run Tryz.prog w = .ok (.pointer none) w := by
  have h : (Tryz.prog.info? 62).map (·.zero) = some (some (.pointer none)) := by kernel_rfl
  cases hq : Tryz.prog.info? 62 with
  | none => rw [hq] at h; cases h
  | some i =>
    rw [hq] at h
    have hz : i.zero = some (.pointer none) := by simpa using h
    simp [zeroValue, typeInfo, hq, hz]
/-- 'm[name]'. -/
theorem names_look {w : World} {r : Nat} {ML : List (ByteArray × Nat)} (h : NamesAt w r ML) (s : ByteArray) :
    (Instr.lookup 53 (.map (some r)) (.string s) false).run Tryz.prog w = .ok (.pointer ((nameAt ML s).map fun g => ⟨g, 0, none⟩)) w := by
  obtain ⟨es, hb, he⟩ := h
  obtain ⟨j, hj⟩ := findNow_names s ML 0 0
  rw [← he] at hj
  cases hp : nameAt ML s with
  | some g =>
    rw [hp] at hj
    simp [Instr.lookup, run_underlying Tryz.underlying53, run_getObj_map' hb, checkKey_str, Instr.findKey, run_underlying Tryz.underlying9, hj]
  | none =>
    rw [hp] at hj
    simp [Instr.lookup, run_underlying Tryz.underlying53, run_getObj_map' hb, checkKey_str, Instr.findKey, run_underlying Tryz.underlying9, hj, Tryz.zero62]
/-- 'm[name] = ..' at a name that it does not hold. -/
theorem names_store {w : World} {r : Nat} {ML : List (ByteArray × Nat)} (h : NamesAt w r ML) (s : ByteArray) (g : Nat) (hn : nameAt ML s = none) :
    ∃ w', (Instr.mapUpdate 53 (.map (some r)) (.string s) (.pointer (some ⟨g, 0, none⟩))).run Tryz.prog w = .ok () w' ∧ NamesAt w' r (ML ++ [(s, g)]) ∧ w.mapTurned w' r := by
  obtain ⟨es, hb, he⟩ := h
  obtain ⟨j, hj⟩ := findNow_names s ML 0 0
  rw [← he, hn] at hj
  have hl : es.size = ML.length := by rw [← Array.length_toList, he]; simp
  refine ⟨setBlock w r (.map (es.push { key := .string s, val := .pointer (some ⟨g, 0, none⟩), born := es.size }) (es.size + 1)), ?_, ⟨es.push { key := .string s, val := .pointer (some ⟨g, 0, none⟩), born := es.size }, ?_, ?_⟩, ⟨es, es.size, _, _, hb, rfl⟩⟩
  · simp [Instr.mapUpdate, run_underlying Tryz.underlying53, run_getObj_map' hb, checkKey_str, Instr.findKey, run_underlying Tryz.underlying9, hj, run_setObj_map' hb]
  · rw [heap_setBlock_same hb]; simp
  · simp [he, hl, List.zipIdx_append]
theorem NamesAt.kept {w w' : World} {r : Nat} {ML : List (ByteArray × Nat)} (h : NamesAt w r ML) (hb : w'.heap[r]? = w.heap[r]?) : NamesAt w' r ML := by
  obtain ⟨es, h1, h2⟩ := h
  exact ⟨es, hb.trans h1, h2⟩
end Go.Proofs.Qxb6609540aGreatDoor
