/-
  The shapes of the data that the two laws are handed, said of cells alone.
-/
import Derived.Test.Qxb6609540aGreatDoorRows
import Derived.WalkKit
import Derived.WalkSpells
import Derived.ProofKit
import Derived.Deep.MidRow
namespace Go.Proofs.Qxb6609540aGreatDoor
open Go.RowKit

theorem hid {p : Prop} (h : p) : Hid p := h

/-- Below block B the memory is as it was ('Below' without the tape). -/
structure Kept (B : Nat) (w w' : World) : Prop where
  os : w'.os = w.os
  output : w'.output = w.output
  size : w.heap.size ≤ w'.heap.size
  block : ∀ k, k < B → w'.heap[k]? = w.heap[k]?
theorem Kept.of {B : Nat} {w w' : World} (h : Below B w w') : Kept B w w' := ⟨h.os, h.output, h.size, h.block⟩
theorem Kept.refl (B : Nat) (w : World) : Kept B w w := ⟨rfl, rfl, Nat.le_refl _, fun _ _ => rfl⟩
theorem Kept.trans {B : Nat} {a b c : World} (h : Kept B a b) (k : Kept B b c) : Kept B a c :=
  ⟨k.os.trans h.os, k.output.trans h.output, Nat.le_trans h.size k.size, fun i hi => (k.block i hi).trans (h.block i hi)⟩
theorem Kept.mono {B B' : Nat} {w w' : World} (h : Kept B w w') (hB : B' ≤ B) : Kept B' w w' := ⟨h.os, h.output, h.size, fun k hk => h.block k (Nat.lt_of_lt_of_le hk hB)⟩
theorem Kept.cell {B : Nat} {w w' : World} (h : Kept B w w') {p : Addr} (hp : p.block < B) : w'.cell? p = w.cell? p := World.cell?_of_block (w := w) (h.block p.block hp)

/-- A slice of strings. -/
def StrsAt (w : World) (a : Option Addr) (L : List ByteArray) : Prop :=
  L.length * 16 ≤ 140737488351232 ∧ ∀ k s, L[k]? = some s → ∃ b off, a = some ⟨b, off, none⟩ ∧ b < w.heap.size ∧ w.cell? ⟨b, off + k, none⟩ = some (.string s) ∧ s.size ≤ 9223372036854775807

structure SegV where
  id : Int
  size : Int
  ms : List ByteArray
structure GrpV where
  st : Int
  en : Int
  segs : List SegV
  planned : Bool
  plan : List SegV
structure PolV where
  name : ByteArray
  dur : Int
  sgd : Int
  rep : Int
  grps : List GrpV
structure DbV where
  name : ByteArray
  ord : Int
  dp : ByteArray
  pols : List PolV

def I64 (z : Int) : Prop := -9223372036854775808 ≤ z ∧ z ≤ 9223372036854775807
def U64 (z : Int) : Prop := 0 ≤ z ∧ z ≤ 18446744073709551615

/-- A slice of segments: three cells an element. -/
def SegsAt (w : World) (a : Option Addr) (L : List SegV) : Prop :=
  L.length * 40 ≤ 140737488351232 ∧ ∀ k s, L[k]? = some s → ∃ b off am cm, a = some ⟨b, off, none⟩ ∧ b < w.heap.size ∧ w.cell? ⟨b, off + k * 3, none⟩ = some (.int .u64 s.id) ∧ w.cell? ⟨b, off + k * 3 + 1, none⟩ = some (.int .i64 s.size) ∧
    w.cell? ⟨b, off + k * 3 + 2, none⟩ = some (.slice am s.ms.length cm) ∧ StrsAt w am s.ms ∧ U64 s.id ∧ I64 s.size

/-- A slice of groups: five cells an element. -/
def GrpsAt (w : World) (a : Option Addr) (L : List GrpV) : Prop :=
  L.length * 72 ≤ 140737488351232 ∧ ∀ k g, L[k]? = some g → ∃ b off sa sc pa pc, a = some ⟨b, off, none⟩ ∧ b < w.heap.size ∧ w.cell? ⟨b, off + k * 5, none⟩ = some (.int .i64 g.st) ∧ w.cell? ⟨b, off + k * 5 + 1, none⟩ = some (.int .i64 g.en) ∧
    w.cell? ⟨b, off + k * 5 + 2, none⟩ = some (.slice sa g.segs.length sc) ∧ w.cell? ⟨b, off + k * 5 + 3, none⟩ = some (.bool g.planned) ∧ w.cell? ⟨b, off + k * 5 + 4, none⟩ = some (.slice pa g.plan.length pc) ∧
    SegsAt w sa g.segs ∧ SegsAt w pa g.plan ∧ I64 g.st ∧ I64 g.en

/-- A slice of policies: five cells an element. -/
def PolsAt (w : World) (a : Option Addr) (L : List PolV) : Prop :=
  L.length * 64 ≤ 140737488351232 ∧ ∀ k p, L[k]? = some p → ∃ b off ga gc, a = some ⟨b, off, none⟩ ∧ b < w.heap.size ∧ w.cell? ⟨b, off + k * 5, none⟩ = some (.string p.name) ∧ w.cell? ⟨b, off + k * 5 + 1, none⟩ = some (.int .i64 p.dur) ∧
    w.cell? ⟨b, off + k * 5 + 2, none⟩ = some (.int .i64 p.sgd) ∧ w.cell? ⟨b, off + k * 5 + 3, none⟩ = some (.int .i64 p.rep) ∧ w.cell? ⟨b, off + k * 5 + 4, none⟩ = some (.slice ga p.grps.length gc) ∧
    GrpsAt w ga p.grps ∧ p.name.size ≤ 9223372036854775807 ∧ I64 p.dur ∧ I64 p.sgd ∧ I64 p.rep

/-- A slice of databases: four cells an element. -/
def DbsAt (w : World) (a : Option Addr) (L : List DbV) : Prop :=
  L.length * 64 ≤ 140737488351232 ∧ ∀ k d, L[k]? = some d → ∃ b off pa pc, a = some ⟨b, off, none⟩ ∧ b < w.heap.size ∧ w.cell? ⟨b, off + k * 4, none⟩ = some (.string d.name) ∧ w.cell? ⟨b, off + k * 4 + 1, none⟩ = some (.int .i64 d.ord) ∧
    w.cell? ⟨b, off + k * 4 + 2, none⟩ = some (.string d.dp) ∧ w.cell? ⟨b, off + k * 4 + 3, none⟩ = some (.slice pa d.pols.length pc) ∧
    PolsAt w pa d.pols ∧ d.name.size ≤ 9223372036854775807 ∧ d.dp.size ≤ 9223372036854775807 ∧ I64 d.ord

section
variable {w w' : World} {a : Option Addr}
theorem StrsAt.kept {L : List ByteArray} (h : StrsAt w a L) (hb : Kept w.heap.size w w') : StrsAt w' a L :=
  ⟨h.1, fun k s hk => by
    obtain ⟨b, off, h1, h2, h3, h4⟩ := h.2 k s hk
    exact ⟨b, off, h1, Nat.lt_of_lt_of_le h2 hb.size, (hb.cell (by exact h2)).trans h3, h4⟩⟩
theorem SegsAt.kept {L : List SegV} (h : SegsAt w a L) (hb : Kept w.heap.size w w') : SegsAt w' a L :=
  ⟨h.1, fun k s hk => by
    obtain ⟨b, off, am, cm, h1, h2, h3, h4, h5, h6, h7, h8⟩ := h.2 k s hk
    exact ⟨b, off, am, cm, h1, Nat.lt_of_lt_of_le h2 hb.size, (hb.cell (by exact h2)).trans h3, (hb.cell (by exact h2)).trans h4, (hb.cell (by exact h2)).trans h5, h6.kept hb, h7, h8⟩⟩
theorem GrpsAt.kept {L : List GrpV} (h : GrpsAt w a L) (hb : Kept w.heap.size w w') : GrpsAt w' a L :=
  ⟨h.1, fun k s hk => by
    obtain ⟨b, off, sa, sc, pa, pc, h1, h2, h3, h4, h5, h6, h7, h8, h9, h10⟩ := h.2 k s hk
    exact ⟨b, off, sa, sc, pa, pc, h1, Nat.lt_of_lt_of_le h2 hb.size, (hb.cell (by exact h2)).trans h3, (hb.cell (by exact h2)).trans h4, (hb.cell (by exact h2)).trans h5, (hb.cell (by exact h2)).trans h6, (hb.cell (by exact h2)).trans h7, h8.kept hb, h9.kept hb, h10⟩⟩
theorem PolsAt.kept {L : List PolV} (h : PolsAt w a L) (hb : Kept w.heap.size w w') : PolsAt w' a L :=
  ⟨h.1, fun k s hk => by
    obtain ⟨b, off, ga, gc, h1, h2, h3, h4, h5, h6, h7, h8, h9⟩ := h.2 k s hk
    exact ⟨b, off, ga, gc, h1, Nat.lt_of_lt_of_le h2 hb.size, (hb.cell (by exact h2)).trans h3, (hb.cell (by exact h2)).trans h4, (hb.cell (by exact h2)).trans h5, (hb.cell (by exact h2)).trans h6, (hb.cell (by exact h2)).trans h7, h8.kept hb, h9⟩⟩
theorem DbsAt.kept {L : List DbV} (h : DbsAt w a L) (hb : Kept w.heap.size w w') : DbsAt w' a L :=
  ⟨h.1, fun k s hk => by
    obtain ⟨b, off, pa, pc, h1, h2, h3, h4, h5, h6, h7, h8⟩ := h.2 k s hk
    exact ⟨b, off, pa, pc, h1, Nat.lt_of_lt_of_le h2 hb.size, (hb.cell (by exact h2)).trans h3, (hb.cell (by exact h2)).trans h4, (hb.cell (by exact h2)).trans h5, (hb.cell (by exact h2)).trans h6, h7.kept hb, h8⟩⟩
end
theorem get_of {α : Type} {L : List α} {k : Nat} (h : k < L.length) : ∃ x, L[k]? = some x := ⟨_, List.getElem?_eq_getElem h⟩
theorem take_next {α : Type} {L : List α} {k : Nat} {x : α} (h : L[k]? = some x) : L.take (k + 1) = L.take k ++ [x] := by
  rw [List.take_add_one, h]; rfl
/-- It returns a bool. -/
def RetBool (e : Ending) : Prop := ∃ r : Bool, e = .returned (.bool r)
end Go.Proofs.Qxb6609540aGreatDoor
