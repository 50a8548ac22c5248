/-
  From the readings of the four arguments to the shapes that the walks take.
-/
import Derived.Test.Qxb6609499aFmtShapes
import Derived.OpenShut
import Derived.SizedLaws
import Derived.Deep.Slices
namespace Go.Proofs.Qxb6609499aFmt
open Go.ChangeShapes Go.WideShapes Go.ChangeAt Go.RowKit Go.Deep

theorem Tryf.cells9 : Tryf.prog.cellsOf 9 = 1 := by kernel_rfl
theorem Tryf.cells5 : Tryf.prog.cellsOf 5 = 1 := by kernel_rfl
theorem Tryf.cells56 : Tryf.prog.cellsOf 56 = 1 := by kernel_rfl
theorem Tryf.cells57 : Tryf.prog.cellsOf 57 = 1 := by kernel_rfl
theorem Tryf.cells29 : Tryf.prog.cellsOf 29 = 1 := by kernel_rfl
theorem Tryf.cells59 : Tryf.prog.cellsOf 59 = 3 := by kernel_rfl
theorem Tryf.cells31 : Tryf.prog.cellsOf 31 = 66 := by kernel_rfl
theorem Tryf.cells28 : Tryf.prog.cellsOf 28 = 584 := by kernel_rfl
theorem Tryf.cells22 : Tryf.prog.cellsOf 22 = 16 := by kernel_rfl
theorem Tryf.cells23 : Tryf.prog.cellsOf 23 = 48 := by kernel_rfl
theorem Tryf.cells24 : Tryf.prog.cellsOf 24 = 8 := by kernel_rfl
theorem Tryf.cells25 : Tryf.prog.cellsOf 25 = 192 := by kernel_rfl
theorem Tryf.cells26 : Tryf.prog.cellsOf 26 = 64 := by kernel_rfl
theorem Tryf.bytes9 : Tryf.prog.bytesOf 9 = 16 := by kernel_rfl
theorem Tryf.bytes59 : Tryf.prog.bytesOf 59 = 48 := by kernel_rfl
theorem Tryf.bytes31 : Tryf.prog.bytesOf 31 = 104 := by kernel_rfl

theorem weightsAll_mem {H : Type} {P : Program} {e : TypeId} : ∀ {l : List (DataW H)} {d : DataW H}, d ∈ l → ∀ n ∈ d.weights P e, n ∈ DataW.weightsAll P e l
  | d' :: r, d, hd, n, hn => by
    simp only [DataW.weightsAll, List.mem_append]
    rcases List.mem_cons.1 hd with rfl | h
    · exact Or.inl hn
    · exact Or.inr (weightsAll_mem h n hn)

/-- Every weight of a reading is within the reach. -/
def Light {H : Type} (P : Program) (t : TypeId) (d : DataW H) : Prop := ∀ n ∈ d.weights P t, n ≤ reachBytes

section
variable {H : Type} {enc : TypeId × Value → H} {w : World} {spare : Nat → Bool} {held : Bool}

theorem cells_range {w : World} {a : Addr} {n : Nat} {cs : List Value} (h : w.cells? 0 a n = some cs) : cs.length = n ∧ ∀ j v, cs[j]? = some v → w.cell? (a.add j) = some v := by
  unfold World.cells? at h
  rw [if_pos (Nat.zero_le _)] at h
  have hl := mapM_some_length h
  rw [List.length_range] at hl
  refine ⟨by omega, fun j v hv => ?_⟩
  have hj : j < n := by have := (List.getElem?_eq_some_iff.1 hv).1; omega
  have := mapM_some_get h j j (by simp [hj])
  rw [this, hv]

/-- A slice, opened at each index. -/
theorem slice_open {P : Program} {t e : TypeId} {fuel : Nat} {cs : List Value} {x : DataW H × List MemPlace} (ht : P.underlying t = some (.slice e)) (hc : 0 < P.cellsOf e)
    (h : DataW.trod enc P w 0 spare held fuel t cs = some x) (hw : Light P t x.1) :
    ∃ a n c, cs = [.slice a n c] ∧ n * P.bytesOf e ≤ reachBytes ∧ ∀ k, k < n → ∃ b off cs' m x', a = some ⟨b, off, none⟩ ∧ b < w.heap.size ∧ w.rangeAt b (off + k * P.cellsOf e) cs' ∧
      DataW.trod enc P w 0 spare held m e cs' = some x' ∧ Light P e x'.1 := by
  rcases open_slice ht h with ⟨rfl, rfl⟩ | ⟨a, len, cap, m, fu, D, Pl, rfl, _, hl, hm, hmm, rfl, hel⟩
  · exact ⟨none, 0, 0, rfl, by simp, fun k hk => absurd hk (Nat.not_lt_zero _)⟩
  have hlm : len ≤ m := by rw [hmm]; split <;> omega
  refine ⟨some a, len, cap, rfl, ?_, fun k hk => ?_⟩
  · have h0 : ((List.range len).map D).length + ((List.range (m - len)).map fun j => D (len + j)).length = m := by simp; omega
    have : m * P.bytesOf e ≤ reachBytes := hw _ (by simp only [DataW.weights, ht]; rw [h0]; exact List.mem_cons_self ..)
    exact Nat.le_trans (Nat.mul_le_mul_right _ hlm) this
  · obtain ⟨c0, hc0, _⟩ := hel 0 (by omega)
    obtain ⟨l0, g0⟩ := cells_range hc0
    obtain ⟨cs', hcs, htr⟩ := hel k (by omega)
    obtain ⟨l1, g1⟩ := cells_range hcs
    obtain ⟨b, off, spot⟩ := a
    obtain ⟨v0, hv0⟩ : ∃ v, c0[0]? = some v := ⟨_, List.getElem?_eq_getElem (by omega)⟩
    have c00 := g0 0 v0 hv0
    have hspot : spot = none := by simpa [Addr.add] using World.cell?_spot c00
    subst hspot
    refine ⟨b, off, cs', fu, _, rfl, ?_, fun j v hv => ?_, htr, fun n hn => ?_⟩
    · have := World.block_lt_of_cell? _ _ c00
      simpa [Addr.add] using this
    · have := g1 j v hv
      rw [add_add] at this
      have e1 : Addr.add ⟨b, off, none⟩ (k * P.cellsOf e + j) = ⟨b, off + k * P.cellsOf e + j, none⟩ := by
        unfold Addr.add
        split
        · rename_i h0; rw [show off + k * P.cellsOf e + j = off by omega]
        · rw [Nat.add_assoc]
      rwa [e1] at this
    · refine hw n ?_
      simp only [DataW.weights, ht, List.mem_cons, List.mem_append]
      exact Or.inr (Or.inl (weightsAll_mem (List.mem_map.2 ⟨k, List.mem_range.2 hk, rfl⟩) n hn))

/-- An array of bytes, opened. -/
theorem bytes_open {t : TypeId} {n fuel : Nat} {cs : List Value} {x : DataW H × List MemPlace} (ht : Tryf.prog.underlying t = some (.array n 5)) (hc : Tryf.prog.cellsOf t = n)
    (h : DataW.trod enc Tryf.prog w 0 spare held fuel t cs = some x) : ∃ zs, cs = B8 zs ∧ Byt zs n := by
  obtain ⟨xs, m, rfl, rfl, hl, hxl, hx⟩ := DataW.trod_array ht h
  rw [hc] at hl
  have each : ∀ i, i < n → ∃ z, cs[i]? = some (.int .u8 z) ∧ 0 ≤ z ∧ z ≤ 255 := fun i hi => by
    have h1 := hx i hi
    rw [Tryf.cells5, Nat.mul_one, List.getElem?_eq_getElem (by omega)] at h1
    obtain ⟨z, hz, _, hwf⟩ := DataW.trod_int Tryf.underlying5 h1
    refine ⟨z, ?_, ?_⟩
    · have : ((cs.drop i).take 1)[0]? = some (.int .u8 z) := by rw [hz]; rfl
      simpa using this
    · simpa [Lit.wf, IntKind.min, IntKind.max, IntKind.signed, IntKind.bits] using hwf
  obtain ⟨f, hf⟩ := choose_lt each
  refine ⟨(List.range n).map f, ?_, by simp, fun z hz => ?_⟩
  · apply List.ext_getElem?
    intro i
    by_cases hi : i < n
    · rw [(hf i hi).1]; simp [B8, hi]
    · rw [List.getElem?_eq_none (by omega), List.getElem?_eq_none (by simp [B8]; omega)]
  · simp only [List.mem_map, List.mem_range] at hz
    obtain ⟨i, hi, rfl⟩ := hz
    exact (hf i hi).2

theorem string_open {fuel : Nat} {cs : List Value} {x : DataW H × List MemPlace} (h : DataW.trod enc Tryf.prog w 0 spare held fuel 9 cs = some x) : ∃ s : ByteArray, cs = [.string s] ∧ s.size ≤ 9223372036854775807 := by
  obtain ⟨s, h1, _, h2⟩ := DataW.trod_string Tryf.underlying9 h
  exact ⟨s, h1, h2⟩

theorem strs_open {fuel : Nat} {cs : List Value} {x : DataW H × List MemPlace} (h : DataW.trod enc Tryf.prog w 0 spare held fuel 57 cs = some x) (hw : Light Tryf.prog 57 x.1) :
    ∃ a n c, cs = [.slice a n c] ∧ StrAt w a n := by
  obtain ⟨a, n, c, rfl, hn, hel⟩ := slice_open Tryf.underlying57 (by rw [Tryf.cells9]; omega) h hw
  refine ⟨a, n, c, rfl, by rw [Tryf.bytes9] at hn; exact hn, fun k hk => ?_⟩
  obtain ⟨b, off, cs', m, x', ha, hb, hr, htr, _⟩ := hel k hk
  obtain ⟨s, rfl, hs⟩ := string_open htr
  rw [Tryf.cells9, Nat.mul_one] at hr
  exact ⟨b, off, s, ha, hb, hr 0 _ rfl, hs⟩

/-- The weights of a struct's field are the struct's. -/
theorem light_field {P : Program} {t : TypeId} {fs : Array Field} {xs : List (DataW H × List MemPlace)} (ht : P.underlying t = some (.struct fs)) (hw : Light P t (.agg (xs.map (·.1)))) {i : Nat} {f : Field} {y : DataW H × List MemPlace} (hf : fs[i]? = some f) (hy : xs[i]? = some y) :
    Light P f.type y.1 := fun n hn => by
  refine hw n ?_
  simp only [DataW.weights, ht]
  exact DataW.weights_mem_each (j := i) (t := f.type) (d := y.1) (by simp [hf]) (by simp [hy]) n hn

set_option maxRecDepth 100000 in
theorem lv_open {fuel : Nat} {cs : List Value} {x : DataW H × List MemPlace} (h : DataW.trod enc Tryf.prog w 0 spare held fuel 29 cs = some x) (hw : Light Tryf.prog 29 x.1) :
    ∃ a n c svn, cs = [.slice a n c] ∧ LvAt w a n svn := by
  obtain ⟨a, n, c, rfl, hn, hel⟩ := slice_open Tryf.underlying29 (by rw [Tryf.cells59]; omega) h hw
  have each : ∀ j, j < n → ∃ z : Int, ∃ b off st adv na ca, a = some ⟨b, off, none⟩ ∧ b < w.heap.size ∧ w.cell? ⟨b, off + j * 3, none⟩ = some (.int .u16 z) ∧ 0 ≤ z ∧ z ≤ 65535 ∧
    w.cell? ⟨b, off + j * 3 + 1, none⟩ = some (.string st) ∧ st.size ≤ 9223372036854775807 ∧ w.cell? ⟨b, off + j * 3 + 2, none⟩ = some (.slice adv na ca) ∧ StrAt w adv na := fun k hk => by
    obtain ⟨b, off, cs', m, x', ha, hb, hr, htr, hw'⟩ := hel k hk
    rw [Tryf.cells59] at hr
    obtain ⟨xs, m', rfl, rfl, hl, hxl, hx⟩ := DataW.trod_struct Tryf.underlying59 htr
    have hxl : xs.length = 3 := hxl
    rw [Tryf.cells59] at hl
    match cs', hl, xs, hxl with
    | [u, v, s], _, [y0, y1, y2], _ =>
      have h0 : DataW.trod enc Tryf.prog w 0 spare held m' 56 (([u, v, s].drop 0).take (Tryf.prog.cellsOf 56)) = some y0 := hx 0 _ rfl
      have h1 : DataW.trod enc Tryf.prog w 0 spare held m' 9 (([u, v, s].drop 1).take (Tryf.prog.cellsOf 9)) = some y1 := hx 1 _ rfl
      have h2 : DataW.trod enc Tryf.prog w 0 spare held m' 57 (([u, v, s].drop 2).take (Tryf.prog.cellsOf 57)) = some y2 := hx 2 _ rfl
      simp only [Tryf.cells56, Tryf.cells57, Tryf.cells9, List.drop_zero, List.drop_succ_cons, List.take_succ_cons, List.take_zero] at h0 h1 h2
      obtain ⟨z, e0, _, hwf⟩ := DataW.trod_int Tryf.underlying56 h0
      obtain ⟨st, e1, hst⟩ := string_open h1
      obtain ⟨adv, na, ca, e2, hadv⟩ := strs_open h2 (light_field Tryf.underlying59 hw' (i := 2) rfl rfl)
      simp only [List.cons.injEq, and_true] at e0 e1 e2
      subst e0 e1 e2
      have hz : 0 ≤ z ∧ z ≤ 65535 := by simpa [Lit.wf, IntKind.min, IntKind.max, IntKind.signed, IntKind.bits] using hwf
      exact ⟨z, b, off, st, adv, na, ca, ha, hb, hr 0 _ rfl, hz.1, hz.2, hr 1 _ rfl, hst, hr 2 _ rfl, hadv⟩
  obtain ⟨svn, hs⟩ := choose_lt each
  exact ⟨a, n, c, svn, rfl, by rw [Tryf.bytes59] at hn; exact hn, hs⟩

theorem take_drop_split {cs : List Value} {n m : Nat} : cs.drop n = (cs.drop n).take m ++ cs.drop (n + m) := by
  rw [← List.drop_drop]; exact (List.take_append_drop _ _).symm

set_option maxRecDepth 100000 in
theorem mod_open {fuel : Nat} {cs : List Value} {x : DataW H × List MemPlace} (h : DataW.trod enc Tryf.prog w 0 spare held fuel 31 cs = some x) (hw : Light Tryf.prog 31 x.1) :
    ∃ (m : ModV) (svn : Nat → Int), cs = m.cells ∧ m.ok ∧ LvAt w m.la m.ln svn := by
  obtain ⟨xs, m', rfl, rfl, hl, hxl, hx⟩ := DataW.trod_struct Tryf.underlying31 h
  have hxl : xs.length = 5 := hxl
  rw [Tryf.cells31] at hl
  match xs, hxl with
  | [y0, y1, y2, y3, y4], _ =>
    have h0 : DataW.trod enc Tryf.prog w 0 spare held m' 9 ((cs.drop 0).take (Tryf.prog.cellsOf 9)) = some y0 := hx 0 _ rfl
    have h1 : DataW.trod enc Tryf.prog w 0 spare held m' 23 ((cs.drop 1).take (Tryf.prog.cellsOf 23)) = some y1 := hx 1 _ rfl
    have h2 : DataW.trod enc Tryf.prog w 0 spare held m' 24 ((cs.drop 49).take (Tryf.prog.cellsOf 24)) = some y2 := hx 2 _ rfl
    have h3 : DataW.trod enc Tryf.prog w 0 spare held m' 24 ((cs.drop 57).take (Tryf.prog.cellsOf 24)) = some y3 := hx 3 _ rfl
    have h4 : DataW.trod enc Tryf.prog w 0 spare held m' 29 ((cs.drop 65).take (Tryf.prog.cellsOf 29)) = some y4 := hx 4 _ rfl
    simp only [Tryf.cells9, Tryf.cells23, Tryf.cells24, Tryf.cells29] at h0 h1 h2 h3 h4
    obtain ⟨id, e0, hid⟩ := string_open h0
    obtain ⟨sig, e1, hsig⟩ := bytes_open Tryf.underlying23 Tryf.cells23 h1
    obtain ⟨att, e2, hatt⟩ := bytes_open Tryf.underlying24 Tryf.cells24 h2
    obtain ⟨msk, e3, hmsk⟩ := bytes_open Tryf.underlying24 Tryf.cells24 h3
    obtain ⟨la, ln, lc, svn, e4, hlv⟩ := lv_open h4 (light_field Tryf.underlying31 hw (i := 4) rfl rfl)
    refine ⟨⟨id, sig, att, msk, la, ln, lc⟩, svn, ?_, ⟨hid, hsig, hatt, hmsk⟩, hlv⟩
    have s0 : cs = cs.drop 0 := rfl
    have z : cs.drop (65 + 1) = [] := List.drop_eq_nil_of_le (by omega)
    rw [s0, take_drop_split (m := 1), e0, take_drop_split (n := 0 + 1) (m := 48), e1, take_drop_split (n := 0 + 1 + 48) (m := 8), e2, take_drop_split (n := 0 + 1 + 48 + 8) (m := 8), e3, take_drop_split (n := 0 + 1 + 48 + 8 + 8) (m := 1), e4, z]
    simp [ModV.cells, ModV.lv]

theorem ids_open {fuel : Nat} {cs : List Value} {x : DataW H × List MemPlace} (h : DataW.trod enc Tryf.prog w 0 spare held fuel 32 cs = some x) (hw : Light Tryf.prog 32 x.1) :
    ∃ a n c ms svns, cs = [.slice a n c] ∧ IdsAt w a n ms svns := by
  obtain ⟨a, n, c, rfl, hn, hel⟩ := slice_open Tryf.underlying32 (by rw [Tryf.cells31]; omega) h hw
  have each : ∀ i, i < n → ∃ q : ModV × (Nat → Int), ∃ b off, a = some ⟨b, off, none⟩ ∧ b < w.heap.size ∧ q.1.ok ∧ w.rangeAt b (off + i * 66) q.1.cells ∧ LvAt w q.1.la q.1.ln q.2 := fun k hk => by
    obtain ⟨b, off, cs', m, x', ha, hb, hr, htr, hw'⟩ := hel k hk
    obtain ⟨md, svn, rfl, hok, hlv⟩ := mod_open htr hw'
    rw [Tryf.cells31] at hr
    exact ⟨(md, svn), b, off, ha, hb, hok, hr, hlv⟩
  letI : Inhabited (ModV × (Nat → Int)) := ⟨⟨⟨ByteArray.empty, [], [], [], none, 0, 0⟩, fun _ => 0⟩⟩
  obtain ⟨f, hf⟩ := choose_lt each
  exact ⟨a, n, c, fun i => (f i).1, fun i => (f i).2, rfl, by rw [Tryf.bytes31] at hn; exact hn, hf⟩

/-- What the law reads of the report. -/
def RepAt (C : List Value) (svn sig att : List Int) : Prop :=
  C.length = 584 ∧ Byt svn 16 ∧ Byt sig 48 ∧ Byt att 8 ∧ (∀ (j : Nat) v, (B8 svn)[j]? = some v → C[j]? = some v) ∧ (∀ (j : Nat) v, (B8 sig)[j]? = some v → C[64 + j]? = some v) ∧ ∀ (j : Nat) v, (B8 att)[j]? = some v → C[112 + j]? = some v

theorem field_get {cs : List Value} {o n j : Nat} {v : Value} (h : ((cs.drop o).take n)[j]? = some v) : cs[o + j]? = some v := by
  rw [List.getElem?_take] at h
  split at h
  · simpa using h
  · cases h
theorem field_mem {cs fs : List Value} {o n : Nat} (h : (cs.drop o).take n = fs) {j : Nat} {v : Value} (hv : cs[j]? = some v) (h1 : o ≤ j) (h2 : j < o + n) : v ∈ fs := by
  rw [← h]
  refine List.mem_iff_getElem?.2 ⟨j - o, ?_⟩
  rw [List.getElem?_take, if_pos (by omega), List.getElem?_drop, show o + (j - o) = j by omega]
  exact hv
theorem rows_one {fuel : Nat} {cs : List Value} {x : DataW H × List MemPlace} (h : DataW.trod enc Tryf.prog w 0 spare held fuel 25 cs = some x) : ∀ v ∈ cs, v.oneCell' = true := by
  obtain ⟨xs, m, rfl, rfl, hl, hxl, hx⟩ := DataW.trod_array Tryf.underlying25 h
  rw [Tryf.cells25] at hl
  intro v hv
  obtain ⟨j, hj⟩ := List.mem_iff_getElem?.1 hv
  have hj' : j < 192 := by have := (List.getElem?_eq_some_iff.1 hj).1; omega
  have h1 := hx (j / 48) (by omega)
  rw [Tryf.cells23, List.getElem?_eq_getElem (by omega)] at h1
  obtain ⟨zs, hz, _⟩ := bytes_open Tryf.underlying23 Tryf.cells23 h1
  exact B8_one zs v (field_mem hz hj (by omega) (by omega))

set_option maxRecDepth 100000 in
theorem rep_open {fuel : Nat} {cs : List Value} {x : DataW H × List MemPlace} (h : DataW.trod enc Tryf.prog w 0 spare held fuel 28 cs = some x) :
    ∃ svn sig att, RepAt cs svn sig att ∧ ∀ v ∈ cs, v.oneCell' = true := by
  obtain ⟨xs, m', rfl, rfl, hl, hxl, hx⟩ := DataW.trod_struct Tryf.underlying28 h
  have hxl : xs.length = 12 := hxl
  rw [Tryf.cells28] at hl
  match xs, hxl with
  | [y0, y1, y2, y3, y4, y5, y6, y7, y8, y9, y10, y11], _ =>
    have h0 : DataW.trod enc Tryf.prog w 0 spare held m' 22 ((cs.drop 0).take (Tryf.prog.cellsOf 22)) = some y0 := hx 0 _ rfl
    have h1 : DataW.trod enc Tryf.prog w 0 spare held m' 23 ((cs.drop 16).take (Tryf.prog.cellsOf 23)) = some y1 := hx 1 _ rfl
    have h2 : DataW.trod enc Tryf.prog w 0 spare held m' 23 ((cs.drop 64).take (Tryf.prog.cellsOf 23)) = some y2 := hx 2 _ rfl
    have h3 : DataW.trod enc Tryf.prog w 0 spare held m' 24 ((cs.drop 112).take (Tryf.prog.cellsOf 24)) = some y3 := hx 3 _ rfl
    have h4 : DataW.trod enc Tryf.prog w 0 spare held m' 24 ((cs.drop 120).take (Tryf.prog.cellsOf 24)) = some y4 := hx 4 _ rfl
    have h5 : DataW.trod enc Tryf.prog w 0 spare held m' 24 ((cs.drop 128).take (Tryf.prog.cellsOf 24)) = some y5 := hx 5 _ rfl
    have h6 : DataW.trod enc Tryf.prog w 0 spare held m' 23 ((cs.drop 136).take (Tryf.prog.cellsOf 23)) = some y6 := hx 6 _ rfl
    have h7 : DataW.trod enc Tryf.prog w 0 spare held m' 23 ((cs.drop 184).take (Tryf.prog.cellsOf 23)) = some y7 := hx 7 _ rfl
    have h8 : DataW.trod enc Tryf.prog w 0 spare held m' 23 ((cs.drop 232).take (Tryf.prog.cellsOf 23)) = some y8 := hx 8 _ rfl
    have h9 : DataW.trod enc Tryf.prog w 0 spare held m' 23 ((cs.drop 280).take (Tryf.prog.cellsOf 23)) = some y9 := hx 9 _ rfl
    have h10 : DataW.trod enc Tryf.prog w 0 spare held m' 25 ((cs.drop 328).take (Tryf.prog.cellsOf 25)) = some y10 := hx 10 _ rfl
    have h11 : DataW.trod enc Tryf.prog w 0 spare held m' 26 ((cs.drop 520).take (Tryf.prog.cellsOf 26)) = some y11 := hx 11 _ rfl
    simp only [Tryf.cells22, Tryf.cells23, Tryf.cells24, Tryf.cells25, Tryf.cells26] at h0 h1 h2 h3 h4 h5 h6 h7 h8 h9 h10 h11
    obtain ⟨z0, e0, b0⟩ := bytes_open Tryf.underlying22 Tryf.cells22 h0
    obtain ⟨z1, e1, b1⟩ := bytes_open Tryf.underlying23 Tryf.cells23 h1
    obtain ⟨z2, e2, b2⟩ := bytes_open Tryf.underlying23 Tryf.cells23 h2
    obtain ⟨z3, e3, b3⟩ := bytes_open Tryf.underlying24 Tryf.cells24 h3
    obtain ⟨z4, e4, b4⟩ := bytes_open Tryf.underlying24 Tryf.cells24 h4
    obtain ⟨z5, e5, b5⟩ := bytes_open Tryf.underlying24 Tryf.cells24 h5
    obtain ⟨z6, e6, b6⟩ := bytes_open Tryf.underlying23 Tryf.cells23 h6
    obtain ⟨z7, e7, b7⟩ := bytes_open Tryf.underlying23 Tryf.cells23 h7
    obtain ⟨z8, e8, b8⟩ := bytes_open Tryf.underlying23 Tryf.cells23 h8
    obtain ⟨z9, e9, b9⟩ := bytes_open Tryf.underlying23 Tryf.cells23 h9
    obtain ⟨z11, e11, b11⟩ := bytes_open Tryf.underlying26 Tryf.cells26 h11
    have o10 := rows_one h10
    refine ⟨z0, z2, z3, ⟨hl, b0, b2, b3, fun j v hv => ?_, fun j v hv => ?_, fun j v hv => ?_⟩, fun v hv => ?_⟩
    · rw [← e0] at hv; have := field_get hv; simpa using this
    · rw [← e2] at hv; exact field_get hv
    · rw [← e3] at hv; exact field_get hv
    · obtain ⟨j, hj⟩ := List.mem_iff_getElem?.1 hv
      have hj' : j < 584 := by have := (List.getElem?_eq_some_iff.1 hj).1; omega
      by_cases g11 : 520 ≤ j
      · exact B8_one z11 v (field_mem e11 hj g11 (by omega))
      by_cases g10 : 328 ≤ j
      · exact o10 v (field_mem rfl hj g10 (by omega))
      by_cases g9 : 280 ≤ j
      · exact B8_one z9 v (field_mem e9 hj g9 (by omega))
      by_cases g8 : 232 ≤ j
      · exact B8_one z8 v (field_mem e8 hj g8 (by omega))
      by_cases g7 : 184 ≤ j
      · exact B8_one z7 v (field_mem e7 hj g7 (by omega))
      by_cases g6 : 136 ≤ j
      · exact B8_one z6 v (field_mem e6 hj g6 (by omega))
      by_cases g5 : 128 ≤ j
      · exact B8_one z5 v (field_mem e5 hj g5 (by omega))
      by_cases g4 : 120 ≤ j
      · exact B8_one z4 v (field_mem e4 hj g4 (by omega))
      by_cases g3 : 112 ≤ j
      · exact B8_one z3 v (field_mem e3 hj g3 (by omega))
      by_cases g2 : 64 ≤ j
      · exact B8_one z2 v (field_mem e2 hj g2 (by omega))
      by_cases g1 : 16 ≤ j
      · exact B8_one z1 v (field_mem e1 hj g1 (by omega))
      by_cases g0 : 0 ≤ j
      · exact B8_one z0 v (field_mem e0 hj g0 (by omega))
      exact absurd (Nat.zero_le j) g0
end
end Go.Proofs.Qxb6609499aFmt
