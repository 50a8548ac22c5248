/-
  From the readings of the arguments to the shapes that the walks take.
-/
import Derived.Test.Qxb6609540aGreatDoorFacts
import Derived.OpenShut
import Derived.SizedLaws
import Derived.Deep.Slices
namespace Go.Proofs.Qxb6609540aGreatDoor
open Go.ChangeShapes Go.WideShapes Go.ChangeAt Go.RowKit Go.Deep
set_option linter.unusedSimpArgs false
theorem Tryz.cells9 : Tryz.prog.cellsOf 9 = 1 := by kernel_rfl
theorem Tryz.cells5 : Tryz.prog.cellsOf 5 = 1 := by kernel_rfl
theorem Tryz.cells2 : Tryz.prog.cellsOf 2 = 1 := by kernel_rfl
theorem Tryz.cells3 : Tryz.prog.cellsOf 3 = 1 := by kernel_rfl
theorem Tryz.cells4 : Tryz.prog.cellsOf 4 = 1 := by kernel_rfl
theorem Tryz.cells23 : Tryz.prog.cellsOf 23 = 1 := by kernel_rfl
theorem Tryz.cells45 : Tryz.prog.cellsOf 45 = 1 := by kernel_rfl
theorem Tryz.cells25 : Tryz.prog.cellsOf 25 = 1 := by kernel_rfl
theorem Tryz.cells37 : Tryz.prog.cellsOf 37 = 1 := by kernel_rfl
theorem Tryz.cells40 : Tryz.prog.cellsOf 40 = 1 := by kernel_rfl
theorem Tryz.cells39 : Tryz.prog.cellsOf 39 = 4 := by kernel_rfl
theorem Tryz.cells42 : Tryz.prog.cellsOf 42 = 5 := by kernel_rfl
theorem Tryz.cells44 : Tryz.prog.cellsOf 44 = 5 := by kernel_rfl
theorem Tryz.cells47 : Tryz.prog.cellsOf 47 = 3 := by kernel_rfl
theorem Tryz.bytes5 : Tryz.prog.bytesOf 5 = 1 := by kernel_rfl
theorem Tryz.bytes9 : Tryz.prog.bytesOf 9 = 16 := by kernel_rfl
theorem Tryz.bytes47 : Tryz.prog.bytesOf 47 = 40 := by kernel_rfl
theorem Tryz.bytes44 : Tryz.prog.bytesOf 44 = 72 := by kernel_rfl
theorem Tryz.bytes42 : Tryz.prog.bytesOf 42 = 64 := by kernel_rfl
theorem Tryz.bytes39 : Tryz.prog.bytesOf 39 = 64 := by kernel_rfl
/-- One list, out of what is known at each place. -/
theorem list_of {α : Type} {P : Nat → α → Prop} : ∀ (n : Nat), (∀ k, k < n → ∃ x, P k x) → ∃ L : List α, L.length = n ∧ ∀ (k : Nat) x, L[k]? = some x → P k x
  | 0, _ => ⟨[], rfl, fun k x h => by simp at h⟩
  | n + 1, h => by
    obtain ⟨L, hl, hL⟩ := list_of n (fun k hk => h k (by omega))
    obtain ⟨y, hy⟩ := h n (by omega)
    refine ⟨L ++ [y], by simp [hl], fun k x hk => ?_⟩
    by_cases hkn : k < n
    · rw [List.getElem?_append_left (by omega)] at hk
      exact hL k x hk
    · rw [List.getElem?_append_right (by omega)] at hk
      have : k - L.length = 0 := by
        rcases Nat.eq_zero_or_pos (k - L.length) with h0 | h0
        · exact h0
        · rw [List.getElem?_eq_none (by simp; omega)] at hk; cases hk
      rw [this] at hk
      have e : y = x := by simpa using hk
      have e2 : k = n := by omega
      rw [e2, ← e]; exact hy
theorem weightsAll_mem {H : Type} {P : Program} {e : TypeId} : ∀ {l : List (DataW H)} {d : DataW H}, d ∈ l → ∀ n ∈ d.weights P e, n ∈ DataW.weightsAll P e l
  | d' :: r, d, hd, n, hn => by
    simp only [DataW.weightsAll, List.mem_append]
    rcases List.mem_cons.1 hd with rfl | h
    · exact Or.inl hn
    · exact Or.inr (weightsAll_mem h n hn)

/-- Every weight of a reading is within the reach. -/
def Light {H : Type} (P : Program) (t : TypeId) (d : DataW H) : Prop := ∀ n ∈ d.weights P t, n ≤ reachBytes

section
variable {H : Type} {enc : TypeId × Value → H} {w : World} {spare : Nat → Bool} {held : Bool}

theorem cells_range {w : World} {a : Addr} {n : Nat} {cs : List Value} (h : w.cells? 0 a n = some cs) : cs.length = n ∧ ∀ j v, cs[j]? = some v → w.cell? (a.add j) = some v := by
  unfold World.cells? at h
  rw [if_pos (Nat.zero_le _)] at h
  have hl := mapM_some_length h
  rw [List.length_range] at hl
  refine ⟨by omega, fun j v hv => ?_⟩
  have hj : j < n := by have := (List.getElem?_eq_some_iff.1 hv).1; omega
  have := mapM_some_get h j j (by simp [hj])
  rw [this, hv]

/-- A slice, opened at each index. -/
theorem slice_open {P : Program} {t e : TypeId} {fuel : Nat} {cs : List Value} {x : DataW H × List MemPlace} (ht : P.underlying t = some (.slice e)) (hc : 0 < P.cellsOf e)
    (h : DataW.trod enc P w 0 spare held fuel t cs = some x) (hw : Light P t x.1) :
    ∃ a n c, cs = [.slice a n c] ∧ n * P.bytesOf e ≤ reachBytes ∧ ∀ k, k < n → ∃ b off cs' m x', a = some ⟨b, off, none⟩ ∧ b < w.heap.size ∧ w.rangeAt b (off + k * P.cellsOf e) cs' ∧
      DataW.trod enc P w 0 spare held m e cs' = some x' ∧ Light P e x'.1 := by
  rcases open_slice ht h with ⟨rfl, rfl⟩ | ⟨a, len, cap, m, fu, D, Pl, rfl, _, hl, hm, hmm, rfl, hel⟩
  · exact ⟨none, 0, 0, rfl, by simp, fun k hk => absurd hk (Nat.not_lt_zero _)⟩
  have hlm : len ≤ m := by rw [hmm]; split <;> omega
  refine ⟨some a, len, cap, rfl, ?_, fun k hk => ?_⟩
  · have h0 : ((List.range len).map D).length + ((List.range (m - len)).map fun j => D (len + j)).length = m := by simp; omega
    have : m * P.bytesOf e ≤ reachBytes := hw _ (by simp only [DataW.weights, ht]; rw [h0]; exact List.mem_cons_self ..)
    exact Nat.le_trans (Nat.mul_le_mul_right _ hlm) this
  · obtain ⟨c0, hc0, _⟩ := hel 0 (by omega)
    obtain ⟨l0, g0⟩ := cells_range hc0
    obtain ⟨cs', hcs, htr⟩ := hel k (by omega)
    obtain ⟨l1, g1⟩ := cells_range hcs
    obtain ⟨b, off, spot⟩ := a
    obtain ⟨v0, hv0⟩ : ∃ v, c0[0]? = some v := ⟨_, List.getElem?_eq_getElem (by omega)⟩
    have c00 := g0 0 v0 hv0
    have hspot : spot = none := by simpa [Addr.add] using World.cell?_spot c00
    subst hspot
    refine ⟨b, off, cs', fu, _, rfl, ?_, fun j v hv => ?_, htr, fun n hn => ?_⟩
    · have := World.block_lt_of_cell? _ _ c00
      simpa [Addr.add] using this
    · have := g1 j v hv
      rw [add_add] at this
      have e1 : Addr.add ⟨b, off, none⟩ (k * P.cellsOf e + j) = ⟨b, off + k * P.cellsOf e + j, none⟩ := by
        unfold Addr.add
        split
        · rename_i h0; rw [show off + k * P.cellsOf e + j = off by omega]
        · rw [Nat.add_assoc]
      rwa [e1] at this
    · refine hw n ?_
      simp only [DataW.weights, ht, List.mem_cons, List.mem_append]
      exact Or.inr (Or.inl (weightsAll_mem (List.mem_map.2 ⟨k, List.mem_range.2 hk, rfl⟩) n hn))

theorem string_open {fuel : Nat} {cs : List Value} {x : DataW H × List MemPlace} (h : DataW.trod enc Tryz.prog w 0 spare held fuel 9 cs = some x) : ∃ s : ByteArray, cs = [.string s] ∧ s.size ≤ 9223372036854775807 := by
  obtain ⟨s, h1, _, h2⟩ := DataW.trod_string Tryz.underlying9 h
  exact ⟨s, h1, h2⟩
theorem i64_open {t : TypeId} (ht : Tryz.prog.underlying t = some (.int .i64)) {fuel : Nat} {cs : List Value} {x : DataW H × List MemPlace} (h : DataW.trod enc Tryz.prog w 0 spare held fuel t cs = some x) : ∃ z : Int, cs = [.int .i64 z] ∧ I64 z := by
  obtain ⟨z, h1, _, hwf⟩ := DataW.trod_int ht h
  have hz : -9223372036854775808 ≤ z ∧ z ≤ 9223372036854775807 := by simpa [Lit.wf, IntKind.min, IntKind.max, IntKind.signed, IntKind.bits] using hwf
  exact ⟨z, h1, by have := hz.1; omega, by have := hz.2; omega⟩
theorem u64_open {fuel : Nat} {cs : List Value} {x : DataW H × List MemPlace} (h : DataW.trod enc Tryz.prog w 0 spare held fuel 23 cs = some x) : ∃ z : Int, cs = [.int .u64 z] ∧ U64 z := by
  obtain ⟨z, h1, _, hwf⟩ := DataW.trod_int Tryz.underlying23 h
  have hz : 0 ≤ z ∧ z ≤ 18446744073709551615 := by simpa [Lit.wf, IntKind.min, IntKind.max, IntKind.signed, IntKind.bits] using hwf
  exact ⟨z, h1, by have := hz.1; omega, by have := hz.2; omega⟩
theorem bool_open {fuel : Nat} {cs : List Value} {x : DataW H × List MemPlace} (h : DataW.trod enc Tryz.prog w 0 spare held fuel 4 cs = some x) : ∃ b : Bool, cs = [.bool b] := by
  obtain ⟨b, h1, _⟩ := DataW.trod_bool Tryz.underlying4 h
  exact ⟨b, h1⟩
/-- The weights of a struct's field are the struct's. -/
theorem light_field {P : Program} {t : TypeId} {fs : Array Field} {xs : List (DataW H × List MemPlace)} (ht : P.underlying t = some (.struct fs)) (hw : Light P t (.agg (xs.map (·.1)))) {i : Nat} {f : Field} {y : DataW H × List MemPlace} (hf : fs[i]? = some f) (hy : xs[i]? = some y) :
    Light P f.type y.1 := fun n hn => by
  refine hw n ?_
  simp only [DataW.weights, ht]
  exact DataW.weights_mem_each (j := i) (t := f.type) (d := y.1) (by simp [hf]) (by simp [hy]) n hn

theorem strs_open {fuel : Nat} {cs : List Value} {x : DataW H × List MemPlace} (h : DataW.trod enc Tryz.prog w 0 spare held fuel 45 cs = some x) (hw : Light Tryz.prog 45 x.1) :
    ∃ (a : Option Addr) (c : Nat) (L : List ByteArray), cs = [.slice a L.length c] ∧ StrsAt w a L := by
  obtain ⟨a, n, c, rfl, hn, hel⟩ := slice_open Tryz.underlying45 (by rw [Tryz.cells9]; omega) h hw
  rw [Tryz.bytes9] at hn
  obtain ⟨L, hl, hL⟩ := list_of (P := fun k s => ∃ b off, a = some ⟨b, off, none⟩ ∧ b < w.heap.size ∧ w.cell? ⟨b, off + k, none⟩ = some (.string s) ∧ s.size ≤ 9223372036854775807) n (fun k hk => by
    obtain ⟨b, off, cs', m, x', ha, hb, hr, htr, _⟩ := hel k hk
    obtain ⟨s, rfl, hs⟩ := string_open htr
    rw [Tryz.cells9, Nat.mul_one] at hr
    exact ⟨s, b, off, ha, hb, hr 0 _ rfl, hs⟩)
  subst hl
  exact ⟨a, c, L, rfl, hn, hL⟩
theorem bytes_open {fuel : Nat} {cs : List Value} {x : DataW H × List MemPlace} (h : DataW.trod enc Tryz.prog w 0 spare held fuel 22 cs = some x) (hw : Light Tryz.prog 22 x.1) :
    ∃ (a : Option Addr) (c : Nat) (L : List Value), cs = [.slice a L.length c] ∧ BytesAt w a L ∧ Bytes L := by
  obtain ⟨a, n, c, rfl, hn, hel⟩ := slice_open Tryz.underlying22 (by rw [Tryz.cells5]; omega) h hw
  rw [Tryz.bytes5, Nat.mul_one] at hn
  obtain ⟨L, hl, hL⟩ := list_of (P := fun k v => (∃ z : Int, v = .int .u8 z) ∧ ∃ b off, a = some ⟨b, off, none⟩ ∧ b < w.heap.size ∧ w.cell? ⟨b, off + k, none⟩ = some v) n (fun k hk => by
    obtain ⟨b, off, cs', m, x', ha, hb, hr, htr, _⟩ := hel k hk
    obtain ⟨z, rfl, _, _⟩ := DataW.trod_int Tryz.underlying5 htr
    rw [Tryz.cells5, Nat.mul_one] at hr
    exact ⟨_, ⟨z, rfl⟩, b, off, ha, hb, hr 0 _ rfl⟩)
  subst hl
  have hB : Bytes L := fun v hv => by
    obtain ⟨k, hk⟩ := List.mem_iff_getElem?.1 hv
    exact (hL k v hk).1
  exact ⟨a, c, L, rfl, ⟨hn, fun v hv => by obtain ⟨k, rfl⟩ := hB v hv; rfl, fun k v hk => (hL k v hk).2⟩, hB⟩
set_option maxRecDepth 100000 in
theorem segs_open {fuel : Nat} {cs : List Value} {x : DataW H × List MemPlace} (h : DataW.trod enc Tryz.prog w 0 spare held fuel 25 cs = some x) (hw : Light Tryz.prog 25 x.1) :
    ∃ (a : Option Addr) (c : Nat) (L : List SegV), cs = [.slice a L.length c] ∧ SegsAt w a L := by
  obtain ⟨a, n, c, rfl, hn, hel⟩ := slice_open Tryz.underlying25 (by rw [Tryz.cells47]; omega) h hw
  rw [Tryz.bytes47] at hn
  obtain ⟨L, hl, hL⟩ := list_of (P := fun (k : Nat) (s : SegV) => ∃ b off am cm, a = some ⟨b, off, none⟩ ∧ b < w.heap.size ∧ w.cell? ⟨b, off + k * 3, none⟩ = some (.int .u64 s.id) ∧ w.cell? ⟨b, off + k * 3 + 1, none⟩ = some (.int .i64 s.size) ∧ w.cell? ⟨b, off + k * 3 + 2, none⟩ = some (.slice am s.ms.length cm) ∧ StrsAt w am s.ms ∧ U64 s.id ∧ I64 s.size) n (fun k hk => by
    obtain ⟨b, off, cs', m, x', ha, hb, hr, htr, hw'⟩ := hel k hk
    rw [Tryz.cells47] at hr
    obtain ⟨xs, m', rfl, rfl, hl, hxl, hx⟩ := DataW.trod_struct Tryz.underlying47 htr
    have hxl : xs.length = 3 := hxl
    rw [Tryz.cells47] at hl
    match cs', hl, xs, hxl with
    | [u0, u1, u2], _, [y0, y1, y2], _ =>
      have h0 : DataW.trod enc Tryz.prog w 0 spare held m' 23 (([u0, u1, u2].drop 0).take (Tryz.prog.cellsOf 23)) = some y0 := hx 0 _ rfl
      have h1 : DataW.trod enc Tryz.prog w 0 spare held m' 2 (([u0, u1, u2].drop 1).take (Tryz.prog.cellsOf 2)) = some y1 := hx 1 _ rfl
      have h2 : DataW.trod enc Tryz.prog w 0 spare held m' 45 (([u0, u1, u2].drop 2).take (Tryz.prog.cellsOf 45)) = some y2 := hx 2 _ rfl
      simp only [Tryz.cells2, Tryz.cells23, Tryz.cells45, List.drop_zero, List.drop_succ_cons, List.take_succ_cons, List.take_zero] at h0 h1 h2
      obtain ⟨id, e0, p0⟩ := u64_open h0
      obtain ⟨sz, e1, p1⟩ := i64_open Tryz.underlying2 h1
      obtain ⟨a2, c2, ms, e2, p2⟩ := strs_open h2 (light_field Tryz.underlying47 hw' (i := 2) rfl rfl)
      simp only [List.cons.injEq, and_true] at e0 e1 e2
      subst e0 e1 e2
      exact ⟨⟨id, sz, ms⟩, b, off, a2, c2, ha, hb, hr 0 _ rfl, hr 1 _ rfl, hr 2 _ rfl, p2, p0, p1⟩)
  subst hl
  exact ⟨a, c, L, rfl, hn, hL⟩
set_option maxRecDepth 100000 in
theorem grps_open {fuel : Nat} {cs : List Value} {x : DataW H × List MemPlace} (h : DataW.trod enc Tryz.prog w 0 spare held fuel 40 cs = some x) (hw : Light Tryz.prog 40 x.1) :
    ∃ (a : Option Addr) (c : Nat) (L : List GrpV), cs = [.slice a L.length c] ∧ GrpsAt w a L := by
  obtain ⟨a, n, c, rfl, hn, hel⟩ := slice_open Tryz.underlying40 (by rw [Tryz.cells44]; omega) h hw
  rw [Tryz.bytes44] at hn
  obtain ⟨L, hl, hL⟩ := list_of (P := fun (k : Nat) (g : GrpV) => ∃ b off sa sc pa pc, a = some ⟨b, off, none⟩ ∧ b < w.heap.size ∧ w.cell? ⟨b, off + k * 5, none⟩ = some (.int .i64 g.st) ∧ w.cell? ⟨b, off + k * 5 + 1, none⟩ = some (.int .i64 g.en) ∧ w.cell? ⟨b, off + k * 5 + 2, none⟩ = some (.slice sa g.segs.length sc) ∧ w.cell? ⟨b, off + k * 5 + 3, none⟩ = some (.bool g.planned) ∧ w.cell? ⟨b, off + k * 5 + 4, none⟩ = some (.slice pa g.plan.length pc) ∧ SegsAt w sa g.segs ∧ SegsAt w pa g.plan ∧ I64 g.st ∧ I64 g.en) n (fun k hk => by
    obtain ⟨b, off, cs', m, x', ha, hb, hr, htr, hw'⟩ := hel k hk
    rw [Tryz.cells44] at hr
    obtain ⟨xs, m', rfl, rfl, hl, hxl, hx⟩ := DataW.trod_struct Tryz.underlying44 htr
    have hxl : xs.length = 5 := hxl
    rw [Tryz.cells44] at hl
    match cs', hl, xs, hxl with
    | [u0, u1, u2, u3, u4], _, [y0, y1, y2, y3, y4], _ =>
      have h0 : DataW.trod enc Tryz.prog w 0 spare held m' 2 (([u0, u1, u2, u3, u4].drop 0).take (Tryz.prog.cellsOf 2)) = some y0 := hx 0 _ rfl
      have h1 : DataW.trod enc Tryz.prog w 0 spare held m' 2 (([u0, u1, u2, u3, u4].drop 1).take (Tryz.prog.cellsOf 2)) = some y1 := hx 1 _ rfl
      have h2 : DataW.trod enc Tryz.prog w 0 spare held m' 25 (([u0, u1, u2, u3, u4].drop 2).take (Tryz.prog.cellsOf 25)) = some y2 := hx 2 _ rfl
      have h3 : DataW.trod enc Tryz.prog w 0 spare held m' 4 (([u0, u1, u2, u3, u4].drop 3).take (Tryz.prog.cellsOf 4)) = some y3 := hx 3 _ rfl
      have h4 : DataW.trod enc Tryz.prog w 0 spare held m' 25 (([u0, u1, u2, u3, u4].drop 4).take (Tryz.prog.cellsOf 25)) = some y4 := hx 4 _ rfl
      simp only [Tryz.cells2, Tryz.cells4, Tryz.cells25, List.drop_zero, List.drop_succ_cons, List.take_succ_cons, List.take_zero] at h0 h1 h2 h3 h4
      obtain ⟨st, e0, p0⟩ := i64_open Tryz.underlying2 h0
      obtain ⟨en, e1, p1⟩ := i64_open Tryz.underlying2 h1
      obtain ⟨a2, c2, sg, e2, p2⟩ := segs_open h2 (light_field Tryz.underlying44 hw' (i := 2) rfl rfl)
      obtain ⟨pl, e3⟩ := bool_open h3
      obtain ⟨a4, c4, pn, e4, p4⟩ := segs_open h4 (light_field Tryz.underlying44 hw' (i := 4) rfl rfl)
      simp only [List.cons.injEq, and_true] at e0 e1 e2 e3 e4
      subst e0 e1 e2 e3 e4
      exact ⟨⟨st, en, sg, pl, pn⟩, b, off, a2, c2, a4, c4, ha, hb, hr 0 _ rfl, hr 1 _ rfl, hr 2 _ rfl, hr 3 _ rfl, hr 4 _ rfl, p2, p4, p0, p1⟩)
  subst hl
  exact ⟨a, c, L, rfl, hn, hL⟩
set_option maxRecDepth 100000 in
theorem pols_open {fuel : Nat} {cs : List Value} {x : DataW H × List MemPlace} (h : DataW.trod enc Tryz.prog w 0 spare held fuel 37 cs = some x) (hw : Light Tryz.prog 37 x.1) :
    ∃ (a : Option Addr) (c : Nat) (L : List PolV), cs = [.slice a L.length c] ∧ PolsAt w a L := by
  obtain ⟨a, n, c, rfl, hn, hel⟩ := slice_open Tryz.underlying37 (by rw [Tryz.cells42]; omega) h hw
  rw [Tryz.bytes42] at hn
  obtain ⟨L, hl, hL⟩ := list_of (P := fun (k : Nat) (p : PolV) => ∃ b off ga gc, a = some ⟨b, off, none⟩ ∧ b < w.heap.size ∧ w.cell? ⟨b, off + k * 5, none⟩ = some (.string p.name) ∧ w.cell? ⟨b, off + k * 5 + 1, none⟩ = some (.int .i64 p.dur) ∧ w.cell? ⟨b, off + k * 5 + 2, none⟩ = some (.int .i64 p.sgd) ∧ w.cell? ⟨b, off + k * 5 + 3, none⟩ = some (.int .i64 p.rep) ∧ w.cell? ⟨b, off + k * 5 + 4, none⟩ = some (.slice ga p.grps.length gc) ∧ GrpsAt w ga p.grps ∧ p.name.size ≤ 9223372036854775807 ∧ I64 p.dur ∧ I64 p.sgd ∧ I64 p.rep) n (fun k hk => by
    obtain ⟨b, off, cs', m, x', ha, hb, hr, htr, hw'⟩ := hel k hk
    rw [Tryz.cells42] at hr
    obtain ⟨xs, m', rfl, rfl, hl, hxl, hx⟩ := DataW.trod_struct Tryz.underlying42 htr
    have hxl : xs.length = 5 := hxl
    rw [Tryz.cells42] at hl
    match cs', hl, xs, hxl with
    | [u0, u1, u2, u3, u4], _, [y0, y1, y2, y3, y4], _ =>
      have h0 : DataW.trod enc Tryz.prog w 0 spare held m' 9 (([u0, u1, u2, u3, u4].drop 0).take (Tryz.prog.cellsOf 9)) = some y0 := hx 0 _ rfl
      have h1 : DataW.trod enc Tryz.prog w 0 spare held m' 2 (([u0, u1, u2, u3, u4].drop 1).take (Tryz.prog.cellsOf 2)) = some y1 := hx 1 _ rfl
      have h2 : DataW.trod enc Tryz.prog w 0 spare held m' 2 (([u0, u1, u2, u3, u4].drop 2).take (Tryz.prog.cellsOf 2)) = some y2 := hx 2 _ rfl
      have h3 : DataW.trod enc Tryz.prog w 0 spare held m' 3 (([u0, u1, u2, u3, u4].drop 3).take (Tryz.prog.cellsOf 3)) = some y3 := hx 3 _ rfl
      have h4 : DataW.trod enc Tryz.prog w 0 spare held m' 40 (([u0, u1, u2, u3, u4].drop 4).take (Tryz.prog.cellsOf 40)) = some y4 := hx 4 _ rfl
      simp only [Tryz.cells2, Tryz.cells3, Tryz.cells9, Tryz.cells40, List.drop_zero, List.drop_succ_cons, List.take_succ_cons, List.take_zero] at h0 h1 h2 h3 h4
      obtain ⟨nm, e0, p0⟩ := string_open h0
      obtain ⟨du, e1, p1⟩ := i64_open Tryz.underlying2 h1
      obtain ⟨sg, e2, p2⟩ := i64_open Tryz.underlying2 h2
      obtain ⟨rp, e3, p3⟩ := i64_open Tryz.underlying3 h3
      obtain ⟨a4, c4, gr, e4, p4⟩ := grps_open h4 (light_field Tryz.underlying42 hw' (i := 4) rfl rfl)
      simp only [List.cons.injEq, and_true] at e0 e1 e2 e3 e4
      subst e0 e1 e2 e3 e4
      exact ⟨⟨nm, du, sg, rp, gr⟩, b, off, a4, c4, ha, hb, hr 0 _ rfl, hr 1 _ rfl, hr 2 _ rfl, hr 3 _ rfl, hr 4 _ rfl, p4, p0, p1, p2, p3⟩)
  subst hl
  exact ⟨a, c, L, rfl, hn, hL⟩
set_option maxRecDepth 100000 in
theorem dbs_open {fuel : Nat} {cs : List Value} {x : DataW H × List MemPlace} (h : DataW.trod enc Tryz.prog w 0 spare held fuel 24 cs = some x) (hw : Light Tryz.prog 24 x.1) :
    ∃ (a : Option Addr) (c : Nat) (L : List DbV), cs = [.slice a L.length c] ∧ DbsAt w a L := by
  obtain ⟨a, n, c, rfl, hn, hel⟩ := slice_open Tryz.underlying24 (by rw [Tryz.cells39]; omega) h hw
  rw [Tryz.bytes39] at hn
  obtain ⟨L, hl, hL⟩ := list_of (P := fun (k : Nat) (d : DbV) => ∃ b off pa pc, a = some ⟨b, off, none⟩ ∧ b < w.heap.size ∧ w.cell? ⟨b, off + k * 4, none⟩ = some (.string d.name) ∧ w.cell? ⟨b, off + k * 4 + 1, none⟩ = some (.int .i64 d.ord) ∧ w.cell? ⟨b, off + k * 4 + 2, none⟩ = some (.string d.dp) ∧ w.cell? ⟨b, off + k * 4 + 3, none⟩ = some (.slice pa d.pols.length pc) ∧ PolsAt w pa d.pols ∧ d.name.size ≤ 9223372036854775807 ∧ d.dp.size ≤ 9223372036854775807 ∧ I64 d.ord) n (fun k hk => by
    obtain ⟨b, off, cs', m, x', ha, hb, hr, htr, hw'⟩ := hel k hk
    rw [Tryz.cells39] at hr
    obtain ⟨xs, m', rfl, rfl, hl, hxl, hx⟩ := DataW.trod_struct Tryz.underlying39 htr
    have hxl : xs.length = 4 := hxl
    rw [Tryz.cells39] at hl
    match cs', hl, xs, hxl with
    | [u0, u1, u2, u3], _, [y0, y1, y2, y3], _ =>
      have h0 : DataW.trod enc Tryz.prog w 0 spare held m' 9 (([u0, u1, u2, u3].drop 0).take (Tryz.prog.cellsOf 9)) = some y0 := hx 0 _ rfl
      have h1 : DataW.trod enc Tryz.prog w 0 spare held m' 2 (([u0, u1, u2, u3].drop 1).take (Tryz.prog.cellsOf 2)) = some y1 := hx 1 _ rfl
      have h2 : DataW.trod enc Tryz.prog w 0 spare held m' 9 (([u0, u1, u2, u3].drop 2).take (Tryz.prog.cellsOf 9)) = some y2 := hx 2 _ rfl
      have h3 : DataW.trod enc Tryz.prog w 0 spare held m' 37 (([u0, u1, u2, u3].drop 3).take (Tryz.prog.cellsOf 37)) = some y3 := hx 3 _ rfl
      simp only [Tryz.cells2, Tryz.cells9, Tryz.cells37, List.drop_zero, List.drop_succ_cons, List.take_succ_cons, List.take_zero] at h0 h1 h2 h3
      obtain ⟨nm, e0, p0⟩ := string_open h0
      obtain ⟨od, e1, p1⟩ := i64_open Tryz.underlying2 h1
      obtain ⟨dp, e2, p2⟩ := string_open h2
      obtain ⟨a3, c3, ps, e3, p3⟩ := pols_open h3 (light_field Tryz.underlying39 hw' (i := 3) rfl rfl)
      simp only [List.cons.injEq, and_true] at e0 e1 e2 e3
      subst e0 e1 e2 e3
      exact ⟨⟨nm, od, dp, ps⟩, b, off, a3, c3, ha, hb, hr 0 _ rfl, hr 1 _ rfl, hr 2 _ rfl, hr 3 _ rfl, p3, p0, p2, p1⟩)
  subst hl
  exact ⟨a, c, L, rfl, hn, hL⟩
end
end Go.Proofs.Qxb6609540aGreatDoor
