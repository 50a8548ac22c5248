/-
  The map of names as the shelf's iterator reads it.
-/
import Derived.Test.Qxb6609540aGreatDoorCmp
import Derived.Shelf.SlIter.Nil
import Derived.Ground.GgzProg
namespace Go.Proofs.Qxb6609540aGreatDoor
open Go.RowKit Go.Maps Go.Sort Go.Shelf
open Go.WideElems (Fit rd rg)
open Go.WideShapes (sorted_perm)
set_option linter.unusedSimpArgs false
/-- How a value of the map is read: not at all. -/
def noRead (_ : Value) : Option (DataW Unit × List MemPlace) := some (.nil, [])
def nameD (ML : List (ByteArray × Nat)) : DataW Unit := .map ((ML.map fun p => (Lit.string p.1.data.toList, DataW.nil)).foldr DataW.insert [])
theorem nameD_size (ML : List (ByteArray × Nat)) : Maps.size (nameD ML) = ML.length := by
  show ((ML.map fun p => (Lit.string p.1.data.toList, (DataW.nil : DataW Unit))).foldr DataW.insert []).length = _
  rw [length_sorted]; simp
theorem nameD_keys (ML : List (ByteArray × Nat)) : (strKeys (nameD ML)).Perm (ML.map fun p => p.1.data.toList) := by
  show (((ML.map fun p => (Lit.string p.1.data.toList, (DataW.nil : DataW Unit))).foldr DataW.insert []).map fun p => strOf p.1).Perm _
  refine ((sorted_perm _).map _).trans ?_
  rw [List.map_map]
  exact .refl _
theorem names_owns {w : World} {r : Nat} {ML : List (ByteArray × Nat)} (h : NamesAt w r ML) (hl : ML.length ≤ maxLen) (hd : (ML.map (·.1)).Nodup) (hs : ∀ p ∈ ML, p.1.size ≤ maxLen) :
    w.ownsMap Tryz.prog 9 noRead r ML.length (nameD ML) := by
  obtain ⟨es, hb, he⟩ := h
  have hsz : es.size = ML.length := by rw [← Array.length_toList, he]; simp
  have hrd : ∀ x ∈ es.toList, ∃ p ∈ ML, x.key = .string p.1 ∧ rd Tryz.prog 9 noRead x = some (.string p.1.data.toList, .nil) := fun x hx => by
    rw [he] at hx
    obtain ⟨q, hq, rfl⟩ := List.mem_map.1 hx
    have hq1 : q.1 ∈ ML := by
      have := List.mem_zipIdx' hq
      rw [this.2]; exact List.getElem_mem _
    refine ⟨q.1, hq1, rfl, ?_⟩
    simp [rd, keyOf, mapKey, Tryz.underlying9, hs _ hq1, noRead]
  refine ⟨es, es.size, hb, ⟨by omega, ⟨?_, ?_, ?_⟩, ?_⟩, by omega, ?_⟩
  · intro x hx
    rw [he] at hx
    obtain ⟨q, hq, rfl⟩ := List.mem_map.1 hx
    have := List.mem_zipIdx' hq
    rw [hsz]
    exact this.1
  · rw [he, List.map_map]
    rw [show ((fun x : MapEntry => x.born) ∘ fun p : (ByteArray × Nat) × Nat => ({ key := .string p.1.1, val := .pointer (some ⟨p.1.2, 0, none⟩), born := p.2 } : MapEntry)) = fun p => p.2 from rfl]
    have : (ML.zipIdx.map fun p => p.2) = List.range' 0 ML.length := by simp
    rw [this]
    exact List.nodup_range'
  · rw [he, List.map_map]
    rw [show ((fun x : MapEntry => x.key) ∘ fun p : (ByteArray × Nat) × Nat => ({ key := .string p.1.1, val := .pointer (some ⟨p.1.2, 0, none⟩), born := p.2 } : MapEntry)) = (fun s => Value.string s) ∘ (·.1) ∘ (fun p => p.1) from rfl]
    rw [← List.map_map, ← List.map_map, List.zipIdx_map_fst]
    exact hd.map _ (fun a b hne e => hne (by simpa using e))
  · intro x hx
    obtain ⟨p, _, _, h3⟩ := hrd x hx
    exact ⟨_, h3⟩
  · unfold nameD
    congr 2
    rw [he, List.map_map]
    have e1 : ML.map (fun p => (Lit.string p.1.data.toList, (DataW.nil : DataW Unit))) = (ML.zipIdx.map (fun q => q.1)).map (fun p => (Lit.string p.1.data.toList, (DataW.nil : DataW Unit))) := by rw [List.zipIdx_map_fst]
    rw [e1, List.map_map]
    refine List.map_congr_left fun q hq => ?_
    obtain ⟨p, hp, h2, h3⟩ := hrd ({ key := .string q.1.1, val := .pointer (some ⟨q.1.2, 0, none⟩), born := q.2 }) (by rw [he]; exact List.mem_map.2 ⟨q, hq, rfl⟩)
    have hqp : q.1.1 = p.1 := by simpa using h2
    rw [← hqp] at h3
    simp only [Function.comp, rg, h3, Option.getD_some]
theorem perm_map_lift {α β : Type} (f : α → β) {ss : List β} {D : List α} (h : ss.Perm (D.map f)) : ∃ L : List α, L.Perm D ∧ ss = L.map f := by
  generalize hx : D.map f = T at h
  induction h generalizing D with
  | nil => exact ⟨[], by cases D <;> simp_all, rfl⟩
  | cons x h ih =>
    cases D with
    | nil => simp at hx
    | cons d D =>
      simp only [List.map_cons, List.cons.injEq] at hx
      obtain ⟨L, h1, rfl⟩ := ih hx.2
      exact ⟨d :: L, h1.cons d, by simp [hx.1]⟩
  | swap x y l =>
    cases D with
    | nil => simp at hx
    | cons d D =>
      cases D with
      | nil => simp at hx
      | cons c D =>
        simp only [List.map_cons, List.cons.injEq] at hx
        exact ⟨c :: d :: D, .swap _ _ _, by simp [hx.1, hx.2.1, hx.2.2]⟩
  | trans h1 h2 ih1 ih2 =>
    obtain ⟨L2, h3, e2⟩ := ih2 hx
    obtain ⟨L1, h4, e1⟩ := ih1 e2.symm
    exact ⟨L1, h4.trans h3, e1⟩
/-- A name's place in the map. -/
theorem nameAt_of {ML : List (ByteArray × Nat)} (hd : (ML.map (·.1)).Nodup) {k : Nat} {s : ByteArray} {g : Nat} (hk : ML[k]? = some (s, g)) : nameAt ML s = some g := by
  induction ML generalizing k with
  | nil => simp at hk
  | cons p ML ih =>
    rw [List.map_cons, List.nodup_cons] at hd
    cases k with
    | zero =>
      have : p = (s, g) := by simpa using hk
      subst this
      have : (s == s) = true := (MapKept.bytes_beq _ _).2 rfl
      simp [nameAt, this]
    | succ k =>
      have hk' : ML[k]? = some (s, g) := by simpa using hk
      have hne : ¬ (s = p.1) := fun e => hd.1 (by rw [← e]; exact List.mem_map.2 ⟨(s, g), List.mem_of_getElem? hk', rfl⟩)
      have hb : (s == p.1) = false := by
        cases hq : s == p.1
        · rfl
        · exact absurd ((MapKept.bytes_beq _ _).1 hq) hne
      have := ih hd.2 hk'
      unfold nameAt at this ⊢
      rw [List.find?_cons, hb]
      exact this
end Go.Proofs.Qxb6609540aGreatDoor
