/-
  A row that grows behind all that was; the appenders in that form.
-/
import Derived.Test.Qxb6609540aGreatDoorStateLen
namespace Go.Proofs.Qxb6609540aGreatDoor
open Go.RowKit Go.ChangeMaps Go.Shelf
set_option linter.unusedSimpArgs false
/-- sv owns X, behind all that w holds, which is as it was; a row of names lies aside. -/
structure Here (w : World) (NM : List ByteArray) (na : Option Addr) (X : List Value) (sv : Value) (wr : World) : Prop where
  own : wr.ownsRow w.heap.size 5 1 sv X.length X
  kept : Kept w.heap.size w wr
  names : ∀ k s, NM[k]? = some s → ∃ g off, na = some ⟨g, off, none⟩ ∧ g < wr.heap.size ∧ sv.ownBlock ≠ some g ∧ wr.cell? ⟨g, off + k, none⟩ = some (.string s)
section
variable {w wr w' : World} {NM : List ByteArray} {na : Option Addr} {X : List Value} {sv : Value} {e : Ending}
theorem Here.app (h : Here w NM na X sv wr) {add : List Value} (ha : App w.heap.size sv X add wr e w') : ∃ v', e = .returned v' ∧ Here w NM na (X ++ add) v' w' := by
  obtain ⟨v', he, ho, hb⟩ := ha
  refine ⟨v', he, ho, h.kept.trans (hb.kept h.kept.size (fun k hk => (h.own.lt k hk).1)), fun k s hk => ?_⟩
  obtain ⟨g, off, h1, h2, h3, h4⟩ := h.names k s hk
  have hbl := hb.block g h2 h3
  refine ⟨g, off, h1, Nat.lt_of_lt_of_le h2 hb.size, fun hq => ?_, (World.cell?_of_block (w := wr) hbl).trans h4⟩
  rcases hb.moved g hq with hq | hq
  · exact h3 hq
  · omega
theorem Here.drew (h : Here w NM na X sv wr) : Here w NM na X sv wr.drew := ⟨h.own, ⟨h.kept.os, h.kept.output, h.kept.size, h.kept.block⟩, h.names⟩
theorem Here.cell (h : Here w NM na X sv wr) {p : Addr} {u : Value} (hp : w.cell? p = some u) : wr.cell? p = some u := (h.kept.cell (World.block_lt_of_cell? _ _ hp)).trans hp
theorem Here.heap (h : Here w NM na X sv wr) {k : Nat} (hk : k < w.heap.size) : wr.heap[k]? = w.heap[k]? := h.kept.block k hk
theorem Here.ck (h : Here w NM na X sv wr) (lo : Nat) : CK lo w wr := CK.of_kept h.kept
/-- What an appender leaves. -/
def HApp (w : World) (NM : List ByteArray) (na : Option Addr) (X : List Value) (e : Ending) (w' : World) : Prop := ∃ v', e = .returned v' ∧ Here w NM na X v' w'
theorem uvarint_here (h : Here w NM na X sv wr) (x : Nat) (hx : x < 18446744073709551616) (hlim : X.length + 10 ≤ 140737488355328) : Calls Tryz.prog 37 #[sv, .int .u64 x] wr fun e w' => HApp w NM na (X ++ eU x) e w' :=
  (uvarint_any w.heap.size x hx sv X wr h.own h.kept.size hlim).mono fun _ _ ha => h.app ha
theorem varint_here (h : Here w NM na X sv wr) (x : Int) (hx : I64 x) (hlim : X.length + 10 ≤ 140737488355328) : Calls Tryz.prog 41 #[sv, .int .i64 x] wr fun e w' => HApp w NM na (X ++ eV x) e w' :=
  (varint_any w.heap.size x hx sv X wr h.own h.kept.size hlim).mono fun _ _ ha => h.app ha
theorem appendString_here (h : Here w NM na X sv wr) (s : ByteArray) (hlim : X.length + s.size + 20 ≤ 140737488355328) : Calls Tryz.prog 39 #[sv, .string s] wr fun e w' => HApp w NM na (X ++ eS s) e w' :=
  (appendString_any w.heap.size s sv X wr h.own h.kept.size hlim).mono fun _ _ ha => h.app ha
theorem appendPolicy_here (h : Here w NM na X sv wr) (p : PolV) (hd : I64 p.dur) (hs : I64 p.sgd) (hlim : X.length + p.name.size + 100 ≤ 140737488355328) : Calls Tryz.prog 40 #[sv, .agg #[.string p.name, .int .i64 p.dur, .int .i64 p.sgd, .int .i64 p.rep]] wr fun e w' => HApp w NM na (X ++ ePol p) e w' :=
  (appendPolicy_any w.heap.size p hd hs sv X wr h.own h.kept.size hlim).mono fun _ _ ha => h.app ha
end
/-- Nothing to append but the count. -/
theorem appendStrings_none (B : Nat) (a : Option Addr) (c : Nat) (sv : Value) (xs : List Value) (w : World) (hBw : B ≤ w.heap.size) (hown : w.ownsRow B 5 1 sv xs.length xs) (hlim : xs.length + 10 ≤ 140737488355328) :
    Calls Tryz.prog 42 #[sv, .slice a 0 c] w fun e w' => App B sv xs (eStrs []) w e w' := by
  have h := uvarint_any B 0 (by omega) sv xs w hown hBw hlim
  have H := hid h
  clear h
  go_enter Tryz.func42, Tryz.ntmps42
  go_wp2_with (go_at_call 37; refine H.out.mono ?_; rintro e w1 ⟨v1, rfl, ho1, hb1⟩; have HO1 := hid ho1; have HB1 := hid hb1; clear ho1 hb1)
  refine wp_loop_once ?_
  go_wp2_with fail
  go_ret
  refine ⟨_, rfl, ?_, HB1.out⟩
  have h1 := HO1.out
  simpa [eStrs] using h1
section
variable {w wr w' : World} {NM : List ByteArray} {na : Option Addr} {X : List Value} {sv : Value} {e : Ending}
theorem appendStrings_here (h : Here w NM na X sv wr) (lo : Nat) (a : Option Addr) (c : Nat) (L : List ByteArray) (hst : StrsL lo w a L) (hlim : X.length + (eStrs L).length + 40 ≤ 140737488355328) :
    Calls Tryz.prog 42 #[sv, .slice a L.length c] wr fun e w' => HApp w NM na (X ++ eStrs L) e w' := by
  cases L with
  | nil => exact (appendStrings_none w.heap.size a c sv X wr h.kept.size h.own (by omega)).mono fun _ _ ha => h.app ha
  | cons s L =>
    refine (appendStrings_any lo w.heap.size a c (s :: L) sv X wr (hst.ck (h.ck lo)) (fun k hk off ha => ?_) h.kept.size h.own hlim).mono fun _ _ ha => h.app ha
    obtain ⟨b, off', h1, h2, h3, h4⟩ := hst.2 0 s rfl
    have t1 := World.block_lt_of_cell? _ _ h3
    have t2 := (h.own.lt k hk).1
    rw [ha] at h1
    cases h1
    dsimp only at t1
    omega
/-- The first append: onto nothing, or onto a row without room. -/
theorem uvarint_first {xs : List Value} {B : Nat} (hown : wr.ownsRow B 5 1 sv xs.length xs) (hfull : sv = .slice none 0 0 ∨ ∃ g, sv = .slice (some ⟨g, 0, none⟩) xs.length xs.length) (x : Nat) (hx : x < 18446744073709551616) (hlim : xs.length + 10 ≤ 140737488355328) :
    Calls Tryz.prog 37 #[sv, .int .u64 x] wr fun e w' => HApp wr [] none (xs ++ eU x) e w' := by
  obtain ⟨ao, g, cap, hsv, hc, hk⟩ := came_of_own hown
  have hcap : cap = xs.length := by
    rcases hfull with h | ⟨g', h⟩ <;> (rw [h] at hsv; simp only [Value.slice.injEq] at hsv; omega)
  rw [hsv]
  refine (Any.binary_AppendUvarint_arg Tryz.lays47 wr ao g 0 xs.length cap xs hc x hx _ 0 [] wr (Onto.start hc) (by omega)).mono ?_
  rintro e w' ⟨v', rfl, ho⟩
  rw [Nat.zero_add, List.nil_append] at ho
  have hpos : 0 < (Lib.uvarint x).length := Lib.uvarint_pos x
  have hb : ∀ k, k < wr.heap.size → w'.heap[k]? = wr.heap[k]? := fun k hk => by
    refine keptBut_block ho.kept hk (fun j hj => ?_) (fun hj => ?_)
    · obtain ⟨q, h1, h2, h3⟩ := hj
      omega
    · obtain ⟨q, h1, h2, h3⟩ := hj
      omega
  rcases ho.val with ⟨h1, _⟩ | ⟨_, h1⟩
  · omega
  · exact ⟨v', rfl, ⟨by rw [List.length_append, eU_length]; exact h1, ⟨ho.kept.1, ho.kept.2.1, ho.kept.size, hb⟩, fun k s hk => by simp at hk⟩⟩
end
end Go.Proofs.Qxb6609540aGreatDoor
