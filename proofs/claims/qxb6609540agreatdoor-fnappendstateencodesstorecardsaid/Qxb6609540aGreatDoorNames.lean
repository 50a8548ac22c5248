/-
  databaseNames.
-/
import Derived.Test.Qxb6609540aGreatDoorIter
import Derived.Shelf.SlSortCmp.NoneTotal
import Derived.Shelf.Lay
import Derived.Ground.SlsfProg
import Derived.Test.Qxb6609540aGreatDoorOnto
namespace Go.Proofs.Qxb6609540aGreatDoor
open Go.RowKit Go.Maps Go.Sort Go.Shelf Go.Lib
set_option linter.unusedSimpArgs false
set_option maxRecDepth 1000000 in
set_option maxHeartbeats 4000000 in
shelf_lay_g SlLaysF.n6 Slsf 6 at Tryz 50 as Tryz.sort50

abbrev InD (D : List DbV) := { d : DbV // d ∈ D }
def encD {D : List DbV} (x : InD D) : Value := .string x.1.name
def cfO {D : List DbV} (x y : InD D) : Int := cmpI x.1.ord y.1.ord
theorem lt_cfO {D : List DbV} (x y : InD D) : ltOf cfO x y = decide (x.1.ord < y.1.ord) := by
  unfold ltOf cfO cmpI
  by_cases h1 : x.1.ord < y.1.ord
  · simp [h1]
  · by_cases h2 : y.1.ord < x.1.ord <;> simp [h1, h2]
theorem swoO (D : List DbV) : SWO (ltOf (cfO (D := D))) where
  irrefl x := by rw [lt_cfO]; simp
  trans x y z h1 h2 := by rw [lt_cfO] at *; simp at *; omega
  ntrans x y z h1 h2 := by rw [lt_cfO] at *; simp at *; omega
theorem apart_eq {D : List DbV} (hap : Apart D D.length) {x y : DbV} (hx : x ∈ D) (hy : y ∈ D) (h : x.ord = y.ord) : x = y := by
  obtain ⟨i, hi⟩ := List.mem_iff_getElem?.1 hx
  obtain ⟨j, hj⟩ := List.mem_iff_getElem?.1 hy
  have li := (List.getElem?_eq_some_iff.1 hi).1
  have lj := (List.getElem?_eq_some_iff.1 hj).1
  rcases Nat.lt_trichotomy i j with hlt | heq | hlt
  · have := (hap i j x y hlt lj hi hj).2
    simp [h] at this
  · subst heq
    rw [hi] at hj
    exact Option.some.inj hj
  · have := (hap j i y x hlt li hj hi).2
    simp [h] at this
theorem apart_pairwise {D : List DbV} (hap : Apart D D.length) : D.Pairwise (fun x y => x.ord ≠ y.ord) := by
  rw [List.pairwise_iff_getElem]
  intro i j hi hj hlt h
  have := (hap i j D[i] D[j] hlt hj (List.getElem?_eq_getElem hi) (List.getElem?_eq_getElem hj)).2
  simp [h] at this
theorem names_nodup {D : List DbV} {ML : List (ByteArray × Nat)} (hap : Apart D D.length) (hlen : ML.length = D.length) (hD : ∀ (k : Nat) d, D[k]? = some d → ∃ g, ML[k]? = some (d.name, g)) : (ML.map (·.1)).Nodup ∧ ML.map (·.1) = D.map (·.name) := by
  have e : ML.map (·.1) = D.map (·.name) := by
    apply List.ext_getElem?
    intro k
    rw [List.getElem?_map, List.getElem?_map]
    cases hk : D[k]? with
    | none => rw [List.getElem?_eq_none (by rw [List.getElem?_eq_none_iff] at hk; omega)]; rfl
    | some d =>
      obtain ⟨g, hg⟩ := hD k d hk
      rw [hg]; rfl
  refine ⟨?_, e⟩
  rw [e, List.Nodup, List.pairwise_map, List.pairwise_iff_getElem]
  intro i j hi hj hlt h
  have := (hap i j D[i] D[j] hlt hj (List.getElem?_eq_getElem hi) (List.getElem?_eq_getElem hj)).1
  simp [h] at this
theorem grownBy_sortW {α : Type} [Inhabited α] (enc : α → Value) {w : World} {g n : Nat} {os : Array Obj} (d : Array α) : w.grownBy (sortWorld enc w g 0 n d os) (some g) := by
  unfold sortWorld
  refine ⟨rfl, rfl, rfl, by simp, fun k hk hne => ?_⟩
  rw [heap_grow_old _ _ (by simpa using hk)]
  have : g ≠ k := fun e => hne (by rw [e])
  simp [putRow, mapBlock, Sort.ahead, Array.getElem?_modify, this]
/-- What the sort leaves. -/
def SortRet (D : List DbV) (v : Value) (w : World) (e : Ending) (w' : World) : Prop :=
  e = .returned (.tuple #[]) ∧ ∃ L : List DbV, L.Perm D ∧ L.Pairwise (fun x y => x.ord < y.ord) ∧ w.grownBy w' v.ownBlock ∧ ∀ (k : Nat) d, L[k]? = some d → ∃ g n c, v = .slice (some ⟨g, 0, none⟩) n c ∧ w'.cell? ⟨g, k, none⟩ = some (.string d.name)
set_option maxHeartbeats 1000000 in
theorem sort50_names (base bx st rm : Nat) (ML : List (ByteArray × Nat)) (D : List DbV) (v : Value) (ss : List (List UInt8)) (w : World) (h0 : w.cell? ⟨bx, 0, none⟩ = some (.pointer (some ⟨st, 0, none⟩))) (h1 : w.cell? ⟨st, 14, none⟩ = some (.map (some rm))) (hn : NamesAt w rm ML)
    (hbx : bx < base) (hst : st < base) (hrm : rm < base) (hlen : ML.length = D.length) (hD : ∀ (k : Nat) d, D[k]? = some d → ∃ g, ML[k]? = some (d.name, g) ∧ g < base ∧ w.cell? ⟨g, 0, none⟩ = some (.int .i64 d.ord)) (hap : Apart D D.length) (hl : D.length * 16 ≤ 140737488355328)
    (hp : ss.Perm (D.map fun d => d.name.data.toList)) (hrow : w.ownsRow base 9 1 v ss.length (ss.map encStr)) :
    Calls Tryz.prog 50 #[v, .func (.func 51) #[] #[.pointer (some ⟨bx, 0, none⟩)]] w fun e w' => SortRet D v w e w' := by
  obtain ⟨L0, hL0, rfl⟩ := perm_map_lift _ hp
  obtain ⟨hnd, _⟩ := names_nodup hap hlen (fun k d hk => by obtain ⟨g, h, _⟩ := hD k d hk; exact ⟨g, h⟩)
  cases L0 with
  | nil =>
    have hD0 : D = [] := hL0.nil_eq.symm
    subst hD0
    have hS := fun p c => AnyF.slices_SortFunc_none (P := Tryz.prog) (ρ := Tryz.sort50_ren) { Tryz.sort50 with } p c (.func (.func 51) #[] #[.pointer (some ⟨bx, 0, none⟩)]) w
    change ∀ p c, Calls Tryz.prog 50 _ _ _ at hS
    have fin : ∀ w', w' = w → SortRet [] v w (.returned (.tuple #[])) w' := fun w' h => by
      subst h
      exact ⟨rfl, [], .refl _, .nil, ⟨rfl, rfl, rfl, Nat.le_refl _, fun _ _ _ => rfl⟩, fun k d hk => by simp at hk⟩
    rcases hrow.2 with ⟨rfl, _⟩ | ⟨g, cap, cur, rfl, _⟩
    · exact (hS none 0).mono fun e w' ⟨he, hw⟩ => by rw [he]; exact fin w' hw
    · exact (hS (some ⟨g, 0, none⟩) cap).mono fun e w' ⟨he, hw⟩ => by rw [he]; exact fin w' hw
  | cons d0 L1 =>
    have hmem : ∀ x, x ∈ d0 :: L1 → x ∈ D := fun x hx => hL0.mem_iff.1 hx
    generalize hLL : d0 :: L1 = LL at *
    have hpos : 0 < LL.length := by rw [← hLL]; simp
    letI : Inhabited (InD D) := ⟨⟨d0, hmem d0 (by rw [← hLL]; simp)⟩⟩
    obtain ⟨T, hT⟩ : ∃ T : List (InD D), T.map (·.1) = LL := ⟨LL.attach.map fun x => ⟨x.1, hmem x.1 x.2⟩, by simp [List.map_map, Function.comp_def]⟩
    have hTl : T.length = LL.length := by rw [← hT, List.length_map]
    rcases hrow.2 with ⟨_, hz⟩ | ⟨g, cap, cur, rfl, hbg, hcur, hnc, hcm, hcs, htake⟩
    · rw [List.length_map] at hz; omega
    rw [Nat.mul_one] at hcs htake
    rw [List.length_map] at hnc htake ⊢
    have hgl : g < w.heap.size := block_lt hcur
    have hcell : ∀ j, w.cell? ⟨g, j, none⟩ = cur[j]? := fun j => by unfold World.cell?; rw [hcur]; simp
    have hH : Holds encD w g 0 T.toArray := fun j hj => by
      have hj' : j < T.length := by simpa using hj
      refine ⟨?_, frozen_zero hcur⟩
      rw [Nat.zero_add, hcell, ← Array.getElem?_toList]
      have e1 : cur.toList[j]? = (cur.toList.take LL.length)[j]? := by rw [List.getElem?_take, if_pos (by omega)]
      rw [e1, htake, List.getElem?_map, List.getElem?_map, ← hT, List.getElem?_map, List.getElem?_eq_getElem hj']
      simp [encD, encStr, hj']
    have hcmp : CmpReads Tryz.prog 51 #[.pointer (some ⟨bx, 0, none⟩)] (encD (D := D)) cfO g 0 T.toArray.size w := fun m os dk hs x y => by
      have hk : ∀ k, k < base → (sortWorld encD w g 0 m dk os).heap[k]? = w.heap[k]? := fun k hk => (grownBy_sortW encD (w := w) (g := g) (n := m) (os := os) dk).block k (by omega) (by simp; omega)
      have hc : ∀ (p : Addr) u, p.block < base → w.cell? p = some u → (sortWorld encD w g 0 m dk os).cell? p = some u := fun p u hp hu => (World.cell?_of_block (w := w) (hk p.block hp)).trans hu
      obtain ⟨i, hi⟩ := List.mem_iff_getElem?.1 x.2
      obtain ⟨j, hj⟩ := List.mem_iff_getElem?.1 y.2
      obtain ⟨gx, m1, m2, m3⟩ := hD i _ hi
      obtain ⟨gy, n1, n2, n3⟩ := hD j _ hj
      exact closure51 bx st rm ML x.1.name y.1.name gx gy x.1.ord y.1.ord _ (hc _ _ hbx h0) (hc _ _ hst h1) (hn.kept (hk rm hrm)) (nameAt_of hnd m1) (nameAt_of hnd n1) (hc _ _ m2 m3) (hc _ _ n2 n3)
    have eg : ∀ args w, (callFunc 51 args).run Tryz.prog w = .ok (.enter 51 args) w := enters_of Tryz.func51 (by kernel_rfl) rfl
    have hlt : T.toArray.size < 4611686018427387904 := by
      have := hL0.length_eq
      simp only [List.size_toArray]; omega
    have hS := Any.slices_SortFunc_total Tryz.sort50 encD (fun _ => rfl) cfO (swoO D) 51 #[.pointer (some ⟨bx, 0, none⟩)] g 0 cap T.toArray w eg hcmp.lays hH hgl hlt (fun x y h2 h3 => by
      rw [lt_cfO] at h2 h3
      simp only [decide_eq_false_iff_not] at h2 h3
      exact Subtype.ext (apart_eq hap x.2 y.2 (by omega)))
    change Calls Tryz.prog 50 _ _ _ at hS
    rw [List.size_toArray, hTl] at hS
    refine hS.mono ?_
    rintro e w' ⟨he, n, os, hw⟩
    obtain ⟨M, hM⟩ : ∃ M : List (InD D), M = T.mergeSort fun x y => !(ltOf cfO) y x := ⟨_, rfl⟩
    rw [← hM] at hw
    have hMT : M.Perm T := by rw [hM]; exact List.mergeSort_perm _ _
    have hML : (M.map (·.1)).Perm D := (hMT.map _).trans (by rw [hT]; exact hL0)
    have hpw : M.Pairwise (fun x y => (!(ltOf cfO) y x) = true) := by
      rw [hM]
      refine List.pairwise_mergeSort (fun a b c h2 h3 => ?_) (fun a b => ?_) _
      · rw [lt_cfO] at *; simp at *; omega
      · rw [lt_cfO, lt_cfO]; simp; omega
    refine ⟨he, M.map (·.1), hML, ?_, ?_, fun k d hk => ?_⟩
    · have h5 : (M.map (·.1)).Pairwise (fun x y => x.ord ≠ y.ord) := (hML.pairwise_iff (fun h => h.symm)).2 (apart_pairwise hap)
      have h6 : (M.map (·.1)).Pairwise (fun x y => x.ord ≤ y.ord) := by
        rw [List.pairwise_map, List.pairwise_iff_getElem]
        intro i j hi hj hij
        have h := (List.pairwise_iff_getElem.1 hpw) i j hi hj hij
        rw [lt_cfO] at h
        simpa using h
      rw [List.pairwise_iff_getElem]
      intro i j hi hj hij
      have t1 := (List.pairwise_iff_getElem.1 h5) i j hi hj hij
      have t2 := (List.pairwise_iff_getElem.1 h6) i j hi hj hij
      omega
    · rw [hw]; exact grownBy_sortW encD _
    · rw [List.getElem?_map] at hk
      cases hq : M[k]? with
      | none => rw [hq] at hk; cases hk
      | some x =>
        rw [hq] at hk
        have hx : x.1 = d := by simpa using hk
        have hkl : k < M.length := (List.getElem?_eq_some_iff.1 hq).1
        have hh : Holds encD w' g 0 M.toArray := SW.holds (w0 := w) ⟨n, os, hw⟩ hgl hH (by simp [hMT.length_eq])
        have := (hh k (by simpa using hkl)).1
        rw [Nat.zero_add] at this
        refine ⟨g, _, cap, rfl, this.trans ?_⟩
        have e2 : M.toArray[k]! = x := by
          rw [getElem!_pos _ k (by simpa using hkl)]
          have := (List.getElem?_eq_some_iff.1 hq).2
          simpa using this
        rw [e2, encD, hx]
/-- What databaseNames leaves. -/
def NamesRet (D : List DbV) (w : World) (e : Ending) (w' : World) : Prop :=
  ∃ (L : List DbV) (a : Option Addr) (c : Nat), e = .returned (.slice a L.length c) ∧ L.Perm D ∧ L.Pairwise (fun x y => x.ord < y.ord) ∧ Below w.heap.size w w' ∧ ∀ (k : Nat) d, L[k]? = some d → ∃ g off, a = some ⟨g, off, none⟩ ∧ w.heap.size ≤ g ∧ g < w'.heap.size ∧ w'.cell? ⟨g, off + k, none⟩ = some (.string d.name)
set_option maxRecDepth 100000 in
set_option maxHeartbeats 1000000 in
theorem dbNames_any (st rm : Nat) (ML : List (ByteArray × Nat)) (D : List DbV) (w : World) (h1 : w.cell? ⟨st, 14, none⟩ = some (.map (some rm))) (hn : NamesAt w rm ML) (hlen : ML.length = D.length)
    (hD : ∀ (k : Nat) d, D[k]? = some d → ∃ g, ML[k]? = some (d.name, g) ∧ w.cell? ⟨g, 0, none⟩ = some (.int .i64 d.ord)) (hap : Apart D D.length) (hsz : ∀ d ∈ D, d.name.size ≤ maxLen) (hl : D.length * 16 ≤ 140737488355328) :
    Calls Tryz.prog 38 #[.pointer (some ⟨st, 0, none⟩)] w fun e w' => NamesRet D w e w' := by
  obtain ⟨hnd, hnm⟩ := names_nodup hap hlen (fun k d hk => by obtain ⟨g, h, _⟩ := hD k d hk; exact ⟨g, h⟩)
  have hst : st < w.heap.size := World.block_lt_of_cell? _ _ h1
  have hrm : rm < w.heap.size := by obtain ⟨es, hb, _⟩ := hn; exact block_lt hb
  have hb1 : Below w.heap.size w (w.alloc (.cells #[.pointer (some ⟨st, 0, none⟩)] 30)) := (Below.refl _ w).alloc (Nat.le_refl _) _
  have q0 : (w.alloc (.cells #[.pointer (some ⟨st, 0, none⟩)] 30)).cell? ⟨w.heap.size, 0, none⟩ = some (.pointer (some ⟨st, 0, none⟩)) := by rw [World.cell?_alloc_at _ _ _ _ rfl]; rfl
  have z1 : w.heap.size < (w.alloc (.cells #[.pointer (some ⟨st, 0, none⟩)] 30)).heap.size := by simp
  have q1 := (hb1.cell (p := ⟨st, 14, none⟩) hst).trans h1
  obtain ⟨w1, hw1⟩ : ∃ w1, w1 = w.alloc (.cells #[.pointer (some ⟨st, 0, none⟩)] 30) := ⟨_, rfl⟩
  rw [← hw1] at hb1 q0 q1 z1
  have HN1 := hid (hn.kept (hb1.block rm hrm))
  have HB1 := hid hb1
  have HD1 : Hid (∀ (k : Nat) d, D[k]? = some d → ∃ g, ML[k]? = some (d.name, g) ∧ g < w.heap.size ∧ w1.cell? ⟨g, 0, none⟩ = some (.int .i64 d.ord)) := fun k d hk => by
    obtain ⟨g, h2, h3⟩ := hD k d hk
    have := World.block_lt_of_cell? _ _ h3
    exact ⟨g, h2, this, (hb1.cell (p := ⟨g, 0, none⟩) this).trans h3⟩
  have HS : Hid (∀ p ∈ ML, p.1.size ≤ maxLen) := fun p hp => by
    have : p.1 ∈ D.map (·.name) := by rw [← hnm]; exact List.mem_map.2 ⟨p, hp, rfl⟩
    obtain ⟨d, hd, e⟩ := List.mem_map.1 this
    rw [← e]; exact hsz d hd
  have HNM : Hid (ML.map (fun p => p.1.data.toList) = D.map fun d => d.name.data.toList) := by
    have := congrArg (List.map fun s : ByteArray => s.data.toList) hnm
    rw [List.map_map, List.map_map] at this
    exact this
  have HND := hid hnd
  have HAP := hid hap
  have HLN := hid hlen
  clear hn hD hap hsz hnd hnm h1 hb1 hlen
  go_enter Tryz.func38, Tryz.ntmps38
  go_upto_region 1 with fail
  rw [← hw1]
  have HW1 := hid hw1
  clear hw1
  go_upto_region 2 with (first
    | (go_at_call 49; refine (keys49_any _ _).mono ?_; rintro e w2 ⟨rfl, hw2⟩; have HW2 := hid hw2; clear hw2)
    | (go_at_call 48; rw [HW2.out]; refine (collect48_names HN1.out (by rw [HLN.out]; exact hl) HND.out HS.out).mono ?_; rintro e w3 ⟨v, ss, rfl, hp3, hr3, hb3⟩; have HP3 := hid hp3; have HR3 := hid hr3; have HB3 := hid hb3; clear hp3 hr3 hb3))
  have s12 : w2.heap.size = w1.heap.size + 1 := by rw [HW2.out]; simp
  have HB2 : Hid (Below w1.heap.size w1 w2) := by rw [HW2.out]; exact (Below.refl _ w1).alloc (Nat.le_refl _) _
  have HR3' : Hid (w3.ownsRow w2.heap.size 9 1 v ss.length (ss.map encStr)) := by rw [HW2.out]; exact HR3.out
  have HB3' : Hid (Below w2.heap.size w2 w3) := by rw [HW2.out]; exact HB3.out
  have HB13 : Hid (Below w1.heap.size w1 w3) := HB2.out.trans (HB3'.out.mono HB2.out.size)
  have hle : w1.heap.size ≤ w2.heap.size := HB2.out.size
  have hlo := HB1.out.size
  have HC : Hid (∀ W, W = w3 → Calls Tryz.prog 50 #[v, .func (.func 51) #[] #[.pointer (some ⟨w.heap.size, 0, none⟩)]] W fun e w' => SortRet D v w3 e w') := fun W hW => by
    subst hW
    exact sort50_names w2.heap.size w.heap.size st rm ML D v ss W ((HB13.out.cell (p := ⟨w.heap.size, 0, none⟩) z1).trans q0) ((HB13.out.cell (p := ⟨st, 14, none⟩) (by show st < w1.heap.size; omega)).trans q1) (HN1.out.kept (HB13.out.block rm (by omega)))
      (by omega) (by omega) (by omega) HLN.out (fun k d hk => by
        obtain ⟨g, h2, h3, h4⟩ := HD1.out k d hk
        exact ⟨g, h2, by omega, (HB13.out.cell (p := ⟨g, 0, none⟩) (by show g < w1.heap.size; omega)).trans h4⟩) HAP.out hl (by have := HP3.out; rwa [HNM.out] at this) HR3'.out
  have HP4 : Hid (ss.length = D.length) := by have := HP3.out.length_eq; rw [HNM.out, List.length_map] at this; exact this
  clear HR3 HB3 q0 q1
  go_wp2_with (go_at_call 50; refine (HC.out _ rfl).mono ?_; rintro e w4 ⟨rfl, hS⟩; have HS4 := hid hS; clear hS)
  go_ret
  obtain ⟨L, hL1, hL2, hg, hL3⟩ := HS4.out
  have hlen : L.length = ss.length := by rw [hL1.length_eq, HP4.out]
  have hB4 : Below w2.heap.size w2 w4 := HB3'.out.grown hg HB3'.out.size (fun k hk => (HR3'.out.lt k hk).1)
  have hB : Below w.heap.size w w4 := HB1.out.trans ((HB2.out.trans (hB4.mono hle)).mono hlo)
  rcases HR3'.out.2 with ⟨hv, h0⟩ | ⟨g, cap, cur, hv, hbg, hcur, _⟩
  · have hL0 : L = [] := List.eq_nil_of_length_eq_zero (by omega)
    subst hL0
    exact ⟨[], none, 0, by rw [hv]; rfl, hL1, hL2, hB, fun k d hk => by simp at hk⟩
  · refine ⟨L, some ⟨g, 0, none⟩, cap, by rw [hv, hlen]; rfl, hL1, hL2, hB, fun k d hk => ?_⟩
    obtain ⟨g', n', c', hv', hc'⟩ := hL3 k d hk
    rw [hv] at hv'
    simp only [Value.slice.injEq, Option.some.injEq, Addr.mk.injEq, and_true] at hv'
    obtain ⟨rfl, _, _⟩ := hv'
    exact ⟨g, 0, rfl, by omega, Nat.lt_of_lt_of_le (block_lt hcur) hg.size, by rw [Nat.zero_add]; exact hc'⟩
end Go.Proofs.Qxb6609540aGreatDoor
