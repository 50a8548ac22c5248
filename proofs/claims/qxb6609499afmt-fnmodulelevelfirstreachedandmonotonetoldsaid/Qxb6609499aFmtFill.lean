/-
  Laws for composite literals whose parts are long rows of cells: what 'build' and 'buildSlice' lay, without going through the cells.
-/
import Derived.Test.Qxb6609499aFmtShapes
namespace Go.Proofs.Qxb6609499aFmt
open Go.RowKit

/-- The cells vs lie in the row A from place o on. -/
def ArrAt (A : Array Value) (o : Nat) (vs : List Value) : Prop := ∀ j v, vs[j]? = some v → A[o + j]? = some v

/-- Cells laid over a row from place off on. -/
def ov (A : Array Value) (off : Nat) (cs : Array Value) : Array Value := cs.zipIdx.foldl (fun acc (c, j) => acc.setIfInBounds (off + j) c) A

theorem ov_list (cs : List Value) : ∀ (off n : Nat) (A : Array Value),
    ((cs.zipIdx n).foldl (fun (acc : Array Value) (x : Value × Nat) => acc.setIfInBounds (off + x.2) x.1) A).size = A.size ∧
    (∀ i, (i < off + n ∨ off + n + cs.length ≤ i) → ((cs.zipIdx n).foldl (fun (acc : Array Value) (x : Value × Nat) => acc.setIfInBounds (off + x.2) x.1) A)[i]? = A[i]?) ∧
    (∀ j v, cs[j]? = some v → off + n + j < A.size → ((cs.zipIdx n).foldl (fun (acc : Array Value) (x : Value × Nat) => acc.setIfInBounds (off + x.2) x.1) A)[off + n + j]? = some v) := by
  induction cs with
  | nil => intro off n A; exact ⟨rfl, fun _ _ => rfl, fun j v h => by simp at h⟩
  | cons c r ih =>
    intro off n A
    rw [List.zipIdx_cons, List.foldl_cons]
    obtain ⟨h1, h2, h3⟩ := ih off (n + 1) (A.setIfInBounds (off + n) c)
    refine ⟨by rw [h1]; simp, fun i hi => ?_, fun j v hv hj => ?_⟩
    · rw [h2 i (by simp at hi ⊢; omega), Array.getElem?_setIfInBounds]
      rw [if_neg (by simp at hi; omega)]
    · cases j with
      | zero =>
        simp only [List.getElem?_cons_zero, Option.some.injEq] at hv
        subst hv
        rw [h2 _ (by left; omega), Array.getElem?_setIfInBounds, if_pos (by omega), if_pos (by omega)]
      | succ j =>
        have := h3 j v (by simpa using hv) (by simp; omega)
        rw [show off + n + (j + 1) = off + (n + 1) + j by omega]
        exact this

theorem ov_eq (A : Array Value) (off : Nat) (cs : Array Value) : ov A off cs = (cs.toList.zipIdx 0).foldl (fun (acc : Array Value) (x : Value × Nat) => acc.setIfInBounds (off + x.2) x.1) A := by
  unfold ov
  rw [← Array.foldl_toList, Array.toList_zipIdx]
theorem ov_size (A : Array Value) (off : Nat) (cs : Array Value) : (ov A off cs).size = A.size := by rw [ov_eq]; exact (ov_list cs.toList off 0 A).1
theorem ov_at (A : Array Value) (off : Nat) (cs : Array Value) (h : off + cs.size ≤ A.size) : ArrAt (ov A off cs) off cs.toList := fun j v hv => by
  rw [ov_eq]
  have hj : j < cs.size := by have := (List.getElem?_eq_some_iff.1 hv).1; simpa using this
  simpa using (ov_list cs.toList off 0 A).2.2 j v hv (by omega)
theorem ov_apart {A : Array Value} {o : Nat} {vs : List Value} (h : ArrAt A o vs) (off : Nat) (cs : Array Value) (hap : o + vs.length ≤ off ∨ off + cs.size ≤ o) : ArrAt (ov A off cs) o vs := fun j v hv => by
  have hj := (List.getElem?_eq_some_iff.1 hv).1
  rw [ov_eq, (ov_list cs.toList off 0 A).2.1 (o + j) (by simp; omega)]
  exact h j v hv
theorem ov_whole (A : Array Value) (cs : Array Value) (h : cs.size = A.size) : ov A 0 cs = cs := by
  apply Array.ext
  · rw [ov_size, h]
  · intro i h1 h2
    have := ov_at A 0 cs (by omega) i cs[i] (by simp [h2])
    rw [Nat.zero_add, Array.getElem?_eq_getElem h1] at this
    exact Option.some.inj this

theorem fill_step {place : Nat → Option (Nat × Nat)} {A : Array Value} {i : Nat} {v : Value} {rest : List (Nat × Value)} (off size : Nat) (hp : place i = some (off, size)) (hs : v.cells.size = size) (hf : off + size ≤ A.size) :
    Instr.fill place A ((i, v) :: rest) = Instr.fill place (ov A off v.cells) rest := by
  subst hs
  rw [Instr.fill, hp]
  have : ¬ (off + v.cells.size > A.size) := by omega
  simp [this, ov]

section
variable {P : Program}
theorem run_build_of {w : World} {t : TypeId} {fs : Array Field} {z : Value} {places : Array (Nat × Nat)} {parts : Array (Nat × Value)} {A : Array Value}
    (hz : (zeroValue t).run P w = .ok z w) (hu : P.underlying t = some (.struct fs)) (hp : (fs.mapM fun (f : Field) => (do pure (f.offset, ← sizeOf f.type) : Sem (Nat × Nat))).run P w = .ok places w)
    (hfill : Instr.fill (places[·]?) z.cells parts.toList = some A) : (Instr.build t parts).run P w = .ok (.agg A) w := by
  unfold Instr.build
  simp only [Sem.run_bind, hz, Result.andThen_ok, run_underlying hu, hp, hfill, Sem.run_pure]
theorem wp_build {op : Oper} {a : Act} {w : World} {K : Act → World → Prop} {Q : Exit → Act → World → Prop} (t : TypeId) (ps : List (Nat × Operand)) (ho : op.op = .build t ps.toArray) (v : Value)
    (hrun : (Instr.build t (ps.map fun p => (p.1, a.eval p.2)).toArray).run P w = .ok v w) (h : K (a.put op.dst v) w) : op.wp P a w K Q := by
  unfold Oper.wp execOp
  have e : ps.toArray.map (fun (i, x) => (i, a.eval x)) = (ps.map fun p => (p.1, a.eval p.2)).toArray := by simp
  simp only [ho, e, Sem.run_bind, hrun, Result.andThen_ok, Sem.run_pure]
  exact h
theorem wpList_build {ops : Array Oper} {rest : List Oper} {op : Oper} {a : Act} {w : World} {Q : Exit → Act → World → Prop} (hgd : op.guard = none) (t : TypeId) (ps : List (Nat × Operand)) (ho : op.op = .build t ps.toArray) (v : Value)
    (hrun : (Instr.build t (ps.map fun p => (p.1, a.eval p.2)).toArray).run P w = .ok v w) (h : wpList P ops Q rest (a.put op.dst v) w) : wpList P ops Q (op :: rest) a w :=
  wpList_plain hgd fun _ hK => wp_build t ps ho v hrun (hK _ _ h)

/-- A slice literal of one element that is a whole row. -/
theorem run_buildSlice1 {w : World} {t e : TypeId} {i : TypeInfo} {z : Value} {A : Array Value} (hu : P.underlying t = some (.slice e)) (hi : P.info? e = some i) (hz : i.zero = some z) (hA : A.size = i.size) (h0 : 0 < i.size) (h24 : i.size ≤ 16777216) :
    (Instr.buildSlice t 1 #[(0, .agg A)]).run P w = .ok (.slice (some ⟨w.heap.size, 0, none⟩) 1 1) (w.alloc (.cells A e)) := by
  have n0 : ¬ (i.size = 0) := by omega
  have n1 : ¬ (16777216 < i.size) := by omega
  have hfill : Instr.fill (fun k => some (k * i.size, i.size)) ((Array.range i.size).map (z.cells[· % z.cells.size]!)) [(0, .agg A)] = some A := by
    rw [fill_step 0 i.size (by simp) (by simpa [Value.cells] using hA) (by simp)]
    simp only [Value.cells]
    rw [ov_whole _ _ (by simp [hA])]
    rfl
  simp [Instr.buildSlice, run_underlying hu, typeInfo, hi, sizeOf, zeroValue, hz, n0, n1, newRow, hfill]

/-- A new variable of a wide type: its cells under a letter. -/
theorem wpList_alloc_z {ops : Array Oper} {rest : List Oper} {op : Oper} {a : Act} {w : World} {Q : Exit → Act → World → Prop} (hgd : op.guard = none) (t : TypeId) (ho : op.op = .alloc t) (n : Nat)
    (hz : (P.info? t).map (fun i => i.zero.map (fun z => z.cells.size)) = some (some n))
    (h : ∀ Z : Array Value, Z.size = n → wpList P ops Q rest (a.put op.dst (.pointer (some ⟨w.heap.size, 0, none⟩))) (w.alloc (.cells Z t))) : wpList P ops Q (op :: rest) a w := by
  refine wpList_plain hgd fun K hK => ?_
  cases hq : P.info? t with
  | none => simp [hq] at hz
  | some i =>
    cases hzz : i.zero with
    | none => simp [hq, hzz] at hz
    | some z =>
      have hn : z.cells.size = n := by simpa [hq, hzz] using hz
      unfold Oper.wp execOp
      simp [ho, Instr.alloc, zeroValue, typeInfo, hq, hzz, newVar, newRow]
      exact hK _ _ (h z.cells hn)

/-- A whole row stored at a block's head. -/
theorem wpList_store_row {ops : Array Oper} {rest : List Oper} {op : Oper} {a : Act} {w : World} {Q : Exit → Act → World → Prop} (hgd : op.guard = none) (ty : TypeId) (x y : Operand) (ho : op.op = .store ty x y)
    (g : Nat) (A cur : Array Value) (t : TypeId) (hx : a.eval x = .pointer (some ⟨g, 0, none⟩)) (hy : a.eval y = .agg A) (hg : w.heap[g]? = some (.cells cur t (0, 0))) (hs : cur.size = A.size)
    (hi : (P.info? ty).map (·.size) = some A.size) (h1 : ∀ v ∈ A.toList, v.oneCell' = true)
    (h : wpList P ops Q rest (a.put op.dst undef) (w.setRow g A)) : wpList P ops Q (op :: rest) a w := by
  refine wpList_plain hgd fun K hK => ?_
  have hst := run_storeCells_at P g 0 t A.toList 0 cur w hg (by simp [hs]) h1
  have e : (cur.toList.take (0 + 0) ++ A.toList ++ cur.toList.drop (0 + 0 + A.toList.length)).toArray = A := by
    rw [List.drop_eq_nil_of_le (by simp [hs])]; simp
  rw [e] at hst
  cases hq : P.info? ty with
  | none => simp [hq] at hi
  | some i =>
    have hsz : A.size = i.size := by simp [hq] at hi; omega
    have hv : (storeVar ty ⟨g, 0, none⟩ (.agg A)).run P w = .ok () (w.setRow g A) := by
      simp [storeVar, sizeOf, typeInfo, hq, Value.cells, hsz, hst]
    unfold Oper.wp execOp
    simp only [ho, hx, hy, Instr.storeAt, Instr.sureAddr, Sem.run_bind, Sem.run_pure, Result.andThen_ok, hv]
    exact hK _ _ h
end
end Go.Proofs.Qxb6609499aFmt
