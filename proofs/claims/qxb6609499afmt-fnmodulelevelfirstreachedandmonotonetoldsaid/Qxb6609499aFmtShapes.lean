/-
  The shapes of the data that the law is handed, said of cells alone.
-/
import Derived.Test.Qxb6609499aFmtRows
import Derived.WalkKit
import Derived.WalkSpells
import Derived.ProofKit
import Derived.Deep.MidRow
namespace Go.Proofs.Qxb6609499aFmt
open Go.RowKit

theorem hid {p : Prop} (h : p) : Hid p := h

/-- A slice of strings, as far as a walk reads it: its length is within the reach; each element's cell holds a string. -/
def StrAt (w : World) (a : Option Addr) (n : Nat) : Prop :=
  n * 16 ≤ 140737488351232 ∧ ∀ k, k < n → ∃ b off s, a = some ⟨b, off, none⟩ ∧ b < w.heap.size ∧ w.cell? ⟨b, off + k, none⟩ = some (.string s) ∧ s.size ≤ 9223372036854775807

/-- A slice of levels (three cells an element). -/
def LvAt (w : World) (a : Option Addr) (n : Nat) (svn : Nat → Int) : Prop :=
  n * 48 ≤ 140737488351232 ∧ ∀ j, j < n → ∃ b off st adv na ca, a = some ⟨b, off, none⟩ ∧ b < w.heap.size ∧ w.cell? ⟨b, off + j * 3, none⟩ = some (.int .u16 (svn j)) ∧ 0 ≤ svn j ∧ svn j ≤ 65535 ∧
    w.cell? ⟨b, off + j * 3 + 1, none⟩ = some (.string st) ∧ st.size ≤ 9223372036854775807 ∧ w.cell? ⟨b, off + j * 3 + 2, none⟩ = some (.slice adv na ca) ∧ StrAt w adv na

theorem StrAt.below {w w' : World} {a : Option Addr} {n : Nat} (h : StrAt w a n) (hb : Below w.heap.size w w') : StrAt w' a n :=
  ⟨h.1, fun k hk => by
    obtain ⟨b, off, s, h1, h2, h3, h4⟩ := h.2 k hk
    exact ⟨b, off, s, h1, Nat.lt_of_lt_of_le h2 hb.size, (hb.cell (by exact h2)).trans h3, h4⟩⟩
theorem LvAt.below {w w' : World} {a : Option Addr} {n : Nat} {svn : Nat → Int} (h : LvAt w a n svn) (hb : Below w.heap.size w w') : LvAt w' a n svn :=
  ⟨h.1, fun k hk => by
    obtain ⟨b, off, st, adv, na, ca, h1, h2, h3, h4, h5, h6, h7, h8, h9⟩ := h.2 k hk
    exact ⟨b, off, st, adv, na, ca, h1, Nat.lt_of_lt_of_le h2 hb.size, (hb.cell (by exact h2)).trans h3, h4, h5, (hb.cell (by exact h2)).trans h6, h7, (hb.cell (by exact h2)).trans h8, h9.below hb⟩⟩

/-- Bytes as cells. -/
def B8 (zs : List Int) : List Value := zs.map (Value.int .u8)
/-- n numbers, each a byte. -/
def Byt (zs : List Int) (n : Nat) : Prop := zs.length = n ∧ ∀ z ∈ zs, 0 ≤ z ∧ z ≤ 255

theorem B8_length (zs : List Int) : (B8 zs).length = zs.length := by simp [B8]
theorem B8_get (zs : List Int) (j : Nat) (hj : j < zs.length) : (B8 zs)[j]? = some (.int .u8 (zs.getD j 0)) := by
  simp [B8, List.getD, List.getElem?_eq_getElem hj]
theorem B8_one (zs : List Int) : ∀ v ∈ B8 zs, v.oneCell' = true := ints_oneCell _ _

/-- A module: the 66 cells of a struct of an id, a signer, two byte arrays and a slice. -/
structure ModV where
  id : ByteArray
  sig : List Int
  att : List Int
  msk : List Int
  la : Option Addr
  ln : Nat
  lc : Nat

def ModV.lv (m : ModV) : Value := .slice m.la m.ln m.lc
def ModV.cells (m : ModV) : List Value := .string m.id :: (B8 m.sig ++ (B8 m.att ++ (B8 m.msk ++ [m.lv])))
def ModV.ok (m : ModV) : Prop := m.id.size ≤ 9223372036854775807 ∧ Byt m.sig 48 ∧ Byt m.att 8 ∧ Byt m.msk 8

section
variable {m : ModV}
theorem ModV.length (h : m.ok) : m.cells.length = 66 := by
  obtain ⟨_, ⟨h1, _⟩, ⟨h2, _⟩, ⟨h3, _⟩⟩ := h
  simp [ModV.cells, B8, h1, h2, h3]
theorem ModV.at0 : m.cells[0]? = some (.string m.id) := rfl
theorem ModV.at65 (h : m.ok) : m.cells[65]? = some m.lv := by
  obtain ⟨_, ⟨h1, _⟩, ⟨h2, _⟩, ⟨h3, _⟩⟩ := h
  have e : (B8 m.sig ++ (B8 m.att ++ (B8 m.msk ++ [m.lv])))[64]? = some m.lv := by
    rw [List.getElem?_append_right (by simp [B8, h1]), List.getElem?_append_right (by simp [B8, h1, h2]), List.getElem?_append_right (by simp [B8, h1, h2, h3])]
    simp [B8, h1, h2, h3]
  exact e
variable {w : World} {b o : Nat}
theorem rangeAt_left {xs ys : List Value} (h : w.rangeAt b o (xs ++ ys)) : w.rangeAt b o xs := fun j v hv =>
  h j v (by rw [List.getElem?_append_left (List.getElem?_eq_some_iff.1 hv).1]; exact hv)
theorem rangeAt_right {xs ys : List Value} (h : w.rangeAt b o (xs ++ ys)) (n : Nat) (hn : xs.length = n) : w.rangeAt b (o + n) ys := fun j v hv => by
  have := h (n + j) v (by rw [List.getElem?_append_right (by omega)]; rw [show n + j - xs.length = j by omega]; exact hv)
  rwa [show o + (n + j) = o + n + j by omega] at this
theorem rangeAt_below {w w' : World} {B : Nat} {xs : List Value} (h : w.rangeAt b o xs) (hb : Below B w w') (hlt : b < B) : w'.rangeAt b o xs := fun j v hv =>
  (hb.cell (p := ⟨b, o + j, none⟩) hlt).trans (h j v hv)
theorem ModV.sig_at (hr : w.rangeAt b o m.cells) : w.rangeAt b (o + 1) (B8 m.sig) :=
  rangeAt_left (rangeAt_right (xs := [.string m.id]) hr 1 rfl)
theorem ModV.att_at (h : m.ok) (hr : w.rangeAt b o m.cells) : w.rangeAt b (o + 49) (B8 m.att) := by
  have h1 := rangeAt_right (rangeAt_right (xs := [.string m.id]) hr 1 rfl) 48 (by rw [B8_length]; exact h.2.1.1)
  exact rangeAt_left h1
theorem ModV.msk_at (h : m.ok) (hr : w.rangeAt b o m.cells) : w.rangeAt b (o + 57) (B8 m.msk) := by
  have h1 := rangeAt_right (rangeAt_right (rangeAt_right (xs := [.string m.id]) hr 1 rfl) 48 (by rw [B8_length]; exact h.2.1.1)) 8 (by rw [B8_length]; exact h.2.2.1.1)
  exact rangeAt_left h1
theorem ModV.lv_at (h : m.ok) (hr : w.rangeAt b o m.cells) : w.cell? ⟨b, o + 65, none⟩ = some m.lv := hr 65 _ (ModV.at65 h)
theorem ModV.id_at (hr : w.rangeAt b o m.cells) : w.cell? ⟨b, o, none⟩ = some (.string m.id) := hr 0 _ rfl
end

/-- A slice of modules (66 cells an element). -/
def IdsAt (w : World) (a : Option Addr) (n : Nat) (ms : Nat → ModV) (svn : Nat → Nat → Int) : Prop :=
  n * 104 ≤ 140737488351232 ∧ ∀ i, i < n → ∃ b off, a = some ⟨b, off, none⟩ ∧ b < w.heap.size ∧ (ms i).ok ∧ w.rangeAt b (off + i * 66) (ms i).cells ∧ LvAt w (ms i).la (ms i).ln (svn i)

theorem IdsAt.below {w w' : World} {a : Option Addr} {n : Nat} {ms : Nat → ModV} {svn : Nat → Nat → Int} (h : IdsAt w a n ms svn) (hb : Below w.heap.size w w') : IdsAt w' a n ms svn :=
  ⟨h.1, fun i hi => by
    obtain ⟨b, off, h1, h2, h3, h4, h5⟩ := h.2 i hi
    exact ⟨b, off, h1, Nat.lt_of_lt_of_le h2 hb.size, h3, rangeAt_below h4 hb h2, h5.below hb⟩⟩
theorem Tryf.size31 : (Tryf.prog.info? 31).map (·.size) = some 66 := by kernel_rfl
theorem Tryf.size28 : (Tryf.prog.info? 28).map (·.size) = some 584 := by kernel_rfl
theorem Tryf.size42 : (Tryf.prog.info? 42).map (·.size) = some 66 := by kernel_rfl
theorem Tryf.size22 : (Tryf.prog.info? 22).map (·.size) = some 16 := by kernel_rfl
theorem Tryf.size23 : (Tryf.prog.info? 23).map (·.size) = some 48 := by kernel_rfl
theorem Tryf.size24 : (Tryf.prog.info? 24).map (·.size) = some 8 := by kernel_rfl
theorem Tryf.size25 : (Tryf.prog.info? 25).map (·.size) = some 192 := by kernel_rfl
theorem Tryf.size26 : (Tryf.prog.info? 26).map (·.size) = some 64 := by kernel_rfl
theorem Tryf.size76 : (Tryf.prog.info? 76).map (·.size) = some 3 := by kernel_rfl
theorem size31_of {m : ModV} (h : m.ok) : (Tryf.prog.info? 31).map (·.size) = some m.cells.length := by rw [ModV.length h]; exact Tryf.size31
theorem size42_of {m : ModV} (h : m.ok) : (Tryf.prog.info? 42).map (·.size) = some m.cells.length := by rw [ModV.length h]; exact Tryf.size42
end Go.Proofs.Qxb6609499aFmt
