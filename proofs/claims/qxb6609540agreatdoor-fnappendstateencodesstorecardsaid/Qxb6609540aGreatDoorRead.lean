/-
  Reading code over frames of any size: what an operation leaves, told by the slots that are known.
-/
import Derived.Test.Qxb6609540aGreatDoorSizes
namespace Go.Proofs.Qxb6609540aGreatDoor
open Go.RowKit
set_option linter.unusedSimpArgs false
/-- The slots that are known. -/
structure Ag (n : Nat) (a : Act) (E : List (Nat × Value)) : Prop where
  defers : a.defers = []
  size : a.tmps.size = n
  know : ∀ t v, E.lookup t = some v → a.tmps.getD t undef = v
variable {n : Nat} {a : Act} {E : List (Nat × Value)} {w : World} {ops : Array Oper} {Q : Exit → Act → World → Prop} {rest : List Oper} {t x y : Nat} {ty : TypeId} {pos : String} {af : Array Edge}
theorem Ag.eval (h : Ag n a E) {v : Value} (hx : E.lookup x = some v) : a.eval (.tmp x) = v := h.know x v hx
theorem Ag.put (h : Ag n a E) (ht : t < n) (v : Value) : Ag n (a.put (some t) v) ((t, v) :: E) := by
  refine ⟨h.defers, by simp [Act.put, h.size], fun s u hs => ?_⟩
  have hsz : t < a.tmps.size := by rw [h.size]; exact ht
  by_cases e : s = t
  · subst e
    have hu : v = u := by simpa [List.lookup_cons] using hs
    subst hu
    simp [Act.put, Array.getD_eq_getD_getElem?, Array.getElem?_setIfInBounds, hsz]
  · have e' : (s == t) = false := by simp [e]
    rw [List.lookup_cons, e'] at hs
    have := h.know s u hs
    rw [← this]
    have e2 : ¬ (t = s) := fun e3 => e e3.symm
    simp [Act.put, Array.getD_eq_getD_getElem?, Array.getElem?_setIfInBounds, e2]
theorem rd_op {o : Oper} (h : Ag n a E) (hg : o.guard = none) (hd : o.dst = some t) (ht : t < n) {v : Value} (hr : (execOp a.eval o).run Tryz.prog w = .ok (.value v) w) (k : ∀ a', Ag n a' ((t, v) :: E) → wpList Tryz.prog ops Q rest a' w) : wpList Tryz.prog ops Q (o :: rest) a w :=
  wpList_plain hg fun K hK => by
    show o.upon Tryz.prog a K Q _
    rw [hr, Oper.upon_value, hd]
    exact hK _ _ (k _ (h.put ht v))
theorem rd_move (h : Ag n a E) (ht : t < n) {v : Value} (hx : E.lookup x = some v) (k : ∀ a', Ag n a' ((t, v) :: E) → wpList Tryz.prog ops Q rest a' w) :
    wpList Tryz.prog ops Q ({ dst := some t, op := .move (.tmp x), type := ty, pos := pos, after := af, guard := none } :: rest) a w :=
  rd_op h rfl rfl ht (by simp [execOp, h.eval hx]) k
theorem rd_assign (h : Ag n a E) (ht : t < n) {v : Value} (hx : E.lookup x = some v) (k : ∀ a', Ag n a' ((t, v) :: E) → wpList Tryz.prog ops Q rest a' w) :
    wpList Tryz.prog ops Q ({ dst := some t, op := .assign (.tmp x), type := ty, pos := pos, after := af, guard := none } :: rest) a w :=
  rd_op h rfl rfl ht (by simp [execOp, h.eval hx]) k
theorem rd_assign_const (h : Ag n a E) (ht : t < n) {v : Value} (k : ∀ a', Ag n a' ((t, v) :: E) → wpList Tryz.prog ops Q rest a' w) :
    wpList Tryz.prog ops Q ({ dst := some t, op := .assign (.const v), type := ty, pos := pos, after := af, guard := none } :: rest) a w :=
  rd_op h rfl rfl ht (by simp [execOp, Act.eval]) k
theorem rd_len_slice (h : Ag n a E) (ht : t < n) {p : Option Addr} {m c : Nat} {ty' : TypeId} (hx : E.lookup x = some (.slice p m c)) (hl : ∀ (W : World) (p : Option Addr) (m c : Nat), (Builtin.len_ #[ty'] ty #[.slice p m c]).run Tryz.prog W = .ok (.int .i64 m) W) (k : ∀ a', Ag n a' ((t, .int .i64 m) :: E) → wpList Tryz.prog ops Q rest a' w) :
    wpList Tryz.prog ops Q ({ dst := some t, op := .call { callee := .builtin .len, args := #[.tmp x], argTypes := #[ty'] }, type := ty, pos := pos, after := af, guard := none } :: rest) a w :=
  rd_op h rfl rfl ht (by simp only [execOp, resolve, List.map_toArray, List.map_cons, List.map_nil, h.eval hx]; simp [go_sem, hl]) k
theorem rd_len_string (h : Ag n a E) (ht : t < n) {s : ByteArray} {ty' : TypeId} (hx : E.lookup x = some (.string s)) (hl : ∀ (W : World) (s : ByteArray), (Builtin.len_ #[ty'] ty #[.string s]).run Tryz.prog W = .ok (.int .i64 s.size) W) (k : ∀ a', Ag n a' ((t, .int .i64 s.size) :: E) → wpList Tryz.prog ops Q rest a' w) :
    wpList Tryz.prog ops Q ({ dst := some t, op := .call { callee := .builtin .len, args := #[.tmp x], argTypes := #[ty'] }, type := ty, pos := pos, after := af, guard := none } :: rest) a w :=
  rd_op h rfl rfl ht (by simp only [execOp, resolve, List.map_toArray, List.map_cons, List.map_nil, h.eval hx]; simp [go_sem, hl]) k
theorem rd_gtr (h : Ag n a E) (ht : t < n) {z c : Int} (hx : E.lookup x = some (.int .i64 z)) (k : ∀ a', Ag n a' ((t, .bool (decide (c < z))) :: E) → wpList Tryz.prog ops Q rest a' w) :
    wpList Tryz.prog ops Q ({ dst := some t, op := .binOp .gtr 3 (.tmp x) (.const (.int .i64 c)) 3, type := ty, pos := pos, after := af, guard := none } :: rest) a w :=
  rd_op h rfl rfl ht (by simp only [execOp, resolve, List.map_toArray, List.map_cons, List.map_nil, h.eval hx]; simp [go_sem]) k
theorem rd_lss (h : Ag n a E) (ht : t < n) {z c : Int} (hx : E.lookup x = some (.int .i64 z)) (hy : E.lookup y = some (.int .i64 c)) (k : ∀ a', Ag n a' ((t, .bool (decide (z < c))) :: E) → wpList Tryz.prog ops Q rest a' w) :
    wpList Tryz.prog ops Q ({ dst := some t, op := .binOp .lss 3 (.tmp x) (.tmp y) 3, type := ty, pos := pos, after := af, guard := none } :: rest) a w :=
  rd_op h rfl rfl ht (by simp only [execOp, h.eval hx, h.eval hy]; simp [go_sem]) k
theorem rd_add (h : Ag n a E) (ht : t < n) {z c : Int} (hx : E.lookup x = some (.int .i64 z)) (hy : E.lookup y = some (.int .i64 c)) (h1 : -9223372036854775808 ≤ z + c) (h2 : z + c ≤ 9223372036854775807) (k : ∀ a', Ag n a' ((t, .int .i64 (z + c)) :: E) → wpList Tryz.prog ops Q rest a' w) :
    wpList Tryz.prog ops Q ({ dst := some t, op := .binOp .add 3 (.tmp x) (.tmp y) 3, type := ty, pos := pos, after := af, guard := none } :: rest) a w :=
  rd_op h rfl rfl ht (by
    have e : IntKind.i64.wrap (z + c) = z + c := by simp [IntKind.wrap, IntKind.signed, IntKind.bits]; omega
    simp only [execOp, h.eval hx, h.eval hy]; simp [go_sem, e]) k
theorem rd_inc (h : Ag n a E) (ht : t < n) {z : Int} (hx : E.lookup x = some (.int .i64 z)) (h1 : -9223372036854775808 ≤ z + 1) (h2 : z + 1 ≤ 9223372036854775807) (k : ∀ a', Ag n a' ((t, .int .i64 (z + 1)) :: E) → wpList Tryz.prog ops Q rest a' w) :
    wpList Tryz.prog ops Q ({ dst := some t, op := .binOp .add 3 (.tmp x) (.const (.int .i64 1)) 3, type := ty, pos := pos, after := af, guard := none } :: rest) a w :=
  rd_op h rfl rfl ht (by
    have e : IntKind.i64.wrap (z + 1) = z + 1 := by simp [IntKind.wrap, IntKind.signed, IntKind.bits]; omega
    simp only [execOp, h.eval hx]; simp [go_sem, e]) k
theorem rd_load (h : Ag n a E) (ht : t < n) {p : Addr} {v : Value} {lt : TypeId} (hx : E.lookup x = some (.pointer (some p))) (hc : w.cell? p = some v) (hl : ∀ W, (isAgg lt).run Tryz.prog W = .ok false W) (k : ∀ a', Ag n a' ((t, v) :: E) → wpList Tryz.prog ops Q rest a' w) :
    wpList Tryz.prog ops Q ({ dst := some t, op := .load lt (.tmp x), type := ty, pos := pos, after := af, guard := none } :: rest) a w :=
  rd_op h rfl rfl ht (by
    simp only [execOp, h.eval hx]; simp [go_sem, hc, hl]) k
theorem rd_index (h : Ag n a E) (ht : t < n) {b off m c sz : Nat} {j : Nat} {it : TypeId} (hx : E.lookup x = some (.slice (some ⟨b, off, none⟩) m c)) (hy : E.lookup y = some (.int .i64 j)) (hj : j < m) (hi : ∀ (W : World) (p : Addr) (m c j : Nat), j < m → (Instr.indexAt it (.slice (some p) m c) (.int .i64 j)).run Tryz.prog W = .ok (.pointer (some (p.add (j * sz)))) W) (k : ∀ a', Ag n a' ((t, .pointer (some ⟨b, off + j * sz, none⟩)) :: E) → wpList Tryz.prog ops Q rest a' w) :
    wpList Tryz.prog ops Q ({ dst := some t, op := .indexAddr it (.tmp x) (.tmp y), type := ty, pos := pos, after := af, guard := none } :: rest) a w :=
  rd_op h rfl rfl ht (by
    simp only [execOp, h.eval hx, h.eval hy]; simp [hi w _ m c j hj, Addr.add]) k
theorem rd_field (h : Ag n a E) (ht : t < n) {b off f o : Nat} {it : TypeId} (hx : E.lookup x = some (.pointer (some ⟨b, off, none⟩))) (hf : ∀ (W : World) (b off : Nat), (Instr.fieldAt it (.pointer (some ⟨b, off, none⟩)) f).run Tryz.prog W = .ok (.pointer (some ⟨b, off + o, none⟩)) W) (k : ∀ a', Ag n a' ((t, .pointer (some ⟨b, off + o, none⟩)) :: E) → wpList Tryz.prog ops Q rest a' w) :
    wpList Tryz.prog ops Q ({ dst := some t, op := .fieldAddr it (.tmp x) f, type := ty, pos := pos, after := af, guard := none } :: rest) a w :=
  rd_op h rfl rfl ht (by
    simp only [execOp, h.eval hx]; simp [hf w b off]) k
theorem ix24 (W : World) (p : Addr) (m c j : Nat) (hj : j < m) : (Instr.indexAt 24 (.slice (some p) m c) (.int .i64 j)).run Tryz.prog W = .ok (.pointer (some (p.add (j * 4)))) W := by
  simp [go_sem, hj]
theorem ix37 (W : World) (p : Addr) (m c j : Nat) (hj : j < m) : (Instr.indexAt 37 (.slice (some p) m c) (.int .i64 j)).run Tryz.prog W = .ok (.pointer (some (p.add (j * 5)))) W := by
  simp [go_sem, hj]
theorem ix40 (W : World) (p : Addr) (m c j : Nat) (hj : j < m) : (Instr.indexAt 40 (.slice (some p) m c) (.int .i64 j)).run Tryz.prog W = .ok (.pointer (some (p.add (j * 5)))) W := by
  simp [go_sem, hj]
theorem ix25 (W : World) (p : Addr) (m c j : Nat) (hj : j < m) : (Instr.indexAt 25 (.slice (some p) m c) (.int .i64 j)).run Tryz.prog W = .ok (.pointer (some (p.add (j * 3)))) W := by
  simp [go_sem, hj]
theorem ix45 (W : World) (p : Addr) (m c j : Nat) (hj : j < m) : (Instr.indexAt 45 (.slice (some p) m c) (.int .i64 j)).run Tryz.prog W = .ok (.pointer (some (p.add (j * 1)))) W := by
  simp [go_sem, hj]
theorem fl39_0 (W : World) (b off : Nat) : (Instr.fieldAt 39 (.pointer (some ⟨b, off, none⟩)) 0).run Tryz.prog W = .ok (.pointer (some ⟨b, off + 0, none⟩)) W := by
  simp [go_sem]
theorem fl39_2 (W : World) (b off : Nat) : (Instr.fieldAt 39 (.pointer (some ⟨b, off, none⟩)) 2).run Tryz.prog W = .ok (.pointer (some ⟨b, off + 2, none⟩)) W := by
  simp [go_sem]
theorem fl39_3 (W : World) (b off : Nat) : (Instr.fieldAt 39 (.pointer (some ⟨b, off, none⟩)) 3).run Tryz.prog W = .ok (.pointer (some ⟨b, off + 3, none⟩)) W := by
  simp [go_sem]
theorem fl42_0 (W : World) (b off : Nat) : (Instr.fieldAt 42 (.pointer (some ⟨b, off, none⟩)) 0).run Tryz.prog W = .ok (.pointer (some ⟨b, off + 0, none⟩)) W := by
  simp [go_sem]
theorem fl42_4 (W : World) (b off : Nat) : (Instr.fieldAt 42 (.pointer (some ⟨b, off, none⟩)) 4).run Tryz.prog W = .ok (.pointer (some ⟨b, off + 4, none⟩)) W := by
  simp [go_sem]
theorem fl44_2 (W : World) (b off : Nat) : (Instr.fieldAt 44 (.pointer (some ⟨b, off, none⟩)) 2).run Tryz.prog W = .ok (.pointer (some ⟨b, off + 2, none⟩)) W := by
  simp [go_sem]
theorem fl44_4 (W : World) (b off : Nat) : (Instr.fieldAt 44 (.pointer (some ⟨b, off, none⟩)) 4).run Tryz.prog W = .ok (.pointer (some ⟨b, off + 4, none⟩)) W := by
  simp [go_sem]
theorem fl47_2 (W : World) (b off : Nat) : (Instr.fieldAt 47 (.pointer (some ⟨b, off, none⟩)) 2).run Tryz.prog W = .ok (.pointer (some ⟨b, off + 2, none⟩)) W := by
  simp [go_sem]
theorem ln22 (W : World) (p : Option Addr) (m c : Nat) : (Builtin.len_ #[22] 3 #[.slice p m c]).run Tryz.prog W = .ok (.int .i64 m) W := by
  simp [go_sem]
theorem ln24 (W : World) (p : Option Addr) (m c : Nat) : (Builtin.len_ #[24] 3 #[.slice p m c]).run Tryz.prog W = .ok (.int .i64 m) W := by
  simp [go_sem]
theorem ln25 (W : World) (p : Option Addr) (m c : Nat) : (Builtin.len_ #[25] 3 #[.slice p m c]).run Tryz.prog W = .ok (.int .i64 m) W := by
  simp [go_sem]
theorem ln37 (W : World) (p : Option Addr) (m c : Nat) : (Builtin.len_ #[37] 3 #[.slice p m c]).run Tryz.prog W = .ok (.int .i64 m) W := by
  simp [go_sem]
theorem ln40 (W : World) (p : Option Addr) (m c : Nat) : (Builtin.len_ #[40] 3 #[.slice p m c]).run Tryz.prog W = .ok (.int .i64 m) W := by
  simp [go_sem]
theorem ln45 (W : World) (p : Option Addr) (m c : Nat) : (Builtin.len_ #[45] 3 #[.slice p m c]).run Tryz.prog W = .ok (.int .i64 m) W := by
  simp [go_sem]
theorem ln9 (W : World) (s : ByteArray) : (Builtin.len_ #[9] 3 #[.string s]).run Tryz.prog W = .ok (.int .i64 s.size) W := by
  simp [go_sem]
theorem ag9 (W : World) : (isAgg 9).run Tryz.prog W = .ok false W := by
  simp [go_sem]
theorem ag37 (W : World) : (isAgg 37).run Tryz.prog W = .ok false W := by
  simp [go_sem]
theorem ag40 (W : World) : (isAgg 40).run Tryz.prog W = .ok false W := by
  simp [go_sem]
theorem ag25 (W : World) : (isAgg 25).run Tryz.prog W = .ok false W := by
  simp [go_sem]
theorem ag45 (W : World) : (isAgg 45).run Tryz.prog W = .ok false W := by
  simp [go_sem]
theorem rd_index1 (h : Ag n a E) (ht : t < n) {b off m c : Nat} {j : Nat} (hx : E.lookup x = some (.slice (some ⟨b, off, none⟩) m c)) (hy : E.lookup y = some (.int .i64 j)) (hj : j < m) (k : ∀ a', Ag n a' ((t, .pointer (some ⟨b, off + j, none⟩)) :: E) → wpList Tryz.prog ops Q rest a' w) :
    wpList Tryz.prog ops Q ({ dst := some t, op := .indexAddr 45 (.tmp x) (.tmp y), type := ty, pos := pos, after := af, guard := none } :: rest) a w :=
  rd_index (sz := 1) h ht hx hy hj ix45 (by rw [Nat.mul_one]; exact k)
/-- A part of what is known. -/
def Part : List (Nat × Value) → List (Nat × Value) → Prop
  | [], _ => True
  | p :: E', E => E.lookup p.1 = some p.2 ∧ Part E' E
theorem Part.look {E' E : List (Nat × Value)} (h : Part E' E) {s : Nat} {v : Value} (hs : E'.lookup s = some v) : E.lookup s = some v := by
  induction E' with
  | nil => simp at hs
  | cons p E' ih =>
    rw [List.lookup_cons] at hs
    cases he : s == p.1 with
    | true =>
      rw [he] at hs
      have h1 : s = p.1 := by simpa using he
      have h2 : p.2 = v := by simpa using hs
      rw [h1, ← h2]; exact h.1
    | false =>
      rw [he] at hs
      exact ih h.2 hs
theorem Ag.part {E' : List (Nat × Value)} (h : Ag n a E) (hp : Part E' E) : Ag n a E' := ⟨h.defers, h.size, fun s v hs => h.know s v (hp.look hs)⟩
theorem Ag.start {f : FuncId} {fn : Func} {c : Code} {args : Array Value} {R : Ending → World → Prop} (hf : Tryz.prog.funcs[f]? = some fn) (hb : fn.body = some c) (hn : fn.ntmps = n) (hs : args.size ≤ n) (E : List (Nat × Value)) (hE : ∀ p ∈ E, args[p.1]? = some p.2)
    (h : ∀ a, Ag n a E → c.wp Tryz.prog (bodyPost Tryz.prog fn R) a w) : Calls Tryz.prog f args w R := by
  refine calls_of_wp hf hb (h _ ⟨rfl, by simp [hn]; omega, fun t v ht => ?_⟩)
  have hm : (t, v) ∈ E := by
    clear hE h
    induction E with
    | nil => simp at ht
    | cons p E ih =>
      rw [List.lookup_cons] at ht
      cases he : t == p.1 with
      | true =>
        rw [he] at ht
        have h1 : t = p.1 := by simpa using he
        have h2 : p.2 = v := by simpa using ht
        rw [h1, ← h2]
        exact List.mem_cons_self
      | false =>
        rw [he] at ht
        exact List.mem_cons_of_mem _ (ih ht)
  have h1 := hE _ hm
  have h2 : t < args.size := (Array.getElem?_eq_some_iff.1 h1).1
  simp only [Array.getD_eq_getD_getElem?]
  rw [Array.getElem?_append_left h2, h1]
  rfl
theorem Ag.fin {fn : Func} {a : Act} {E : List (Nat × Value)} (hA : Ag n a E) {s : Nat} (hr : fn.results = #[.tmp s]) {v : Value} (hE : E.lookup s = some v) {R : Ending → World → Prop} (hR : R (.returned v) w) : bodyPost Tryz.prog fn R .ret a w :=
  bodyPost_ret (results_tmp hr _ _ _) hA.defers (by
    have : a.tmps.getD s undef = v := hA.know s v hE
    rw [this]; exact hR)
end Go.Proofs.Qxb6609540aGreatDoor
