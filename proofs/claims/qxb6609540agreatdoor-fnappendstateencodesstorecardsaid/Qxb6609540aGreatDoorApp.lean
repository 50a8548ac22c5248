/-
  The appenders: AppendUvarint, AppendVarint (the shelf's), appendString, appendStrings, appendPolicy.
-/
import Derived.Test.Qxb6609540aGreatDoorOnto
import Derived.Shelf.Bin.AppendUvarintArg
import Derived.Shelf.Bin.AppendVarintArg
import Derived.Shelf.Lay
import Derived.Ground.MnProg
import Derived.Lib.AppendStr
namespace Go.Proofs.Qxb6609540aGreatDoor
open Go.RowKit Go.ChangeMaps Go.Shelf
set_option linter.unusedSimpArgs false
set_option linter.unnecessarySimpa false
shelf_lay LaysBin.n47 Mn 47 at Tryz as Tryz.lays47
shelf_lay LaysBin.n50 Mn 50 at Tryz as Tryz.lays50

def eU (x : Nat) : List Value := Lib.byteCells (Lib.uvarint x)
def eV (x : Int) : List Value := Lib.byteCells (Lib.uvarint (Lib.zigzag x))
def eS (s : ByteArray) : List Value := eU s.size ++ Lib.strCells s
def eStrs (L : List ByteArray) : List Value := eU L.length ++ L.flatMap eS
/-- What an appender leaves: the row, longer by 'add'; else all is as it was. -/
def App (B : Nat) (sv : Value) (xs add : List Value) (w : World) (e : Ending) (w' : World) : Prop :=
  ∃ v', e = .returned v' ∧ w'.ownsRow B 5 1 v' (xs ++ add).length (xs ++ add) ∧ Apd sv v' w w'
theorem eU_length (x : Nat) : (eU x).length = (Lib.uvarint x).length := by simp [eU, Lib.byteCells]
theorem eV_length (x : Int) : (eV x).length = (Lib.uvarint (Lib.zigzag x)).length := by simp [eV, Lib.byteCells]

theorem uvarint_row (B : Nat) (x : Nat) (hx : x < 18446744073709551616) (sv : Value) (xs : List Value) (w : World) (hown : w.ownsRow B 5 1 sv xs.length xs) (hBw : B ≤ w.heap.size) (hlim : xs.length + 10 ≤ 140737488355328) :
    Calls Tryz.prog 37 #[sv, .int .u64 x] w fun e w' => App B sv xs (eU x) w e w' ∧ ∀ g n c j, sv = .slice (some ⟨g, 0, none⟩) n c → j < n → w'.cell? ⟨g, j, none⟩ = w.cell? ⟨g, j, none⟩ := by
  obtain ⟨ao, g, cap, rfl, hc, hk⟩ := came_of_own hown
  refine (Any.binary_AppendUvarint_arg Tryz.lays47 w ao g 0 xs.length cap xs hc x hx _ 0 [] w (Onto.start hc) (by omega)).mono ?_
  rintro e w' ⟨v', rfl, ho⟩
  rw [Nat.zero_add, List.nil_append] at ho
  obtain ⟨h1, h2, h3⟩ := apd_of_onto hc rfl hk hBw ho.kept.size ho
  exact ⟨⟨v', rfl, by rw [List.length_append, eU_length]; exact h1, h2⟩, h3⟩
theorem uvarint_any (B : Nat) (x : Nat) (hx : x < 18446744073709551616) (sv : Value) (xs : List Value) (w : World) (hown : w.ownsRow B 5 1 sv xs.length xs) (hBw : B ≤ w.heap.size) (hlim : xs.length + 10 ≤ 140737488355328) :
    Calls Tryz.prog 37 #[sv, .int .u64 x] w fun e w' => App B sv xs (eU x) w e w' :=
  (uvarint_row B x hx sv xs w hown hBw hlim).mono fun _ _ h => h.1
theorem varint_any (B : Nat) (x : Int) (hx : I64 x) (sv : Value) (xs : List Value) (w : World) (hown : w.ownsRow B 5 1 sv xs.length xs) (hBw : B ≤ w.heap.size) (hlim : xs.length + 10 ≤ 140737488355328) :
    Calls Tryz.prog 41 #[sv, .int .i64 x] w fun e w' => App B sv xs (eV x) w e w' := by
  obtain ⟨ao, g, cap, rfl, hc, hk⟩ := came_of_own hown
  refine (Any.binary_AppendVarint_arg Tryz.lays50 w ao g 0 xs.length cap xs hc x hx.1 hx.2 _ 0 [] w (Onto.start hc) (by omega)).mono ?_
  rintro e w' ⟨v', rfl, ho⟩
  rw [Nat.zero_add, List.nil_append] at ho
  obtain ⟨h1, h2, _⟩ := apd_of_onto hc rfl hk hBw ho.kept.size ho
  exact ⟨v', rfl, by rw [List.length_append, eV_length]; exact h1, h2⟩
theorem eU_le (x : Nat) (hx : x < 18446744073709551616) : (eU x).length ≤ 10 := by rw [eU_length]; exact Lib.uvarint_length64 hx
theorem strCells_length (s : ByteArray) : (Lib.strCells s).length = s.size := by simp [Lib.strCells]
set_option maxRecDepth 100000 in
theorem appendString_any (B : Nat) (s : ByteArray) (sv : Value) (xs : List Value) (w : World) (hown : w.ownsRow B 5 1 sv xs.length xs) (hBw : B ≤ w.heap.size) (hlim : xs.length + s.size + 20 ≤ 140737488355328) :
    Calls Tryz.prog 39 #[sv, .string s] w fun e w' => App B sv xs (eS s) w e w' := by
  have HO := hid hown
  clear hown
  have hsz : IntKind.u64.wrap (s.size : Int) = (s.size : Int) := by simp [IntKind.wrap, IntKind.signed, IntKind.bits]; omega
  have hl := eU_le s.size (by omega)
  have hp := Lib.uvarint_pos s.size
  have hle := eU_length s.size
  go_enter Tryz.func39, Tryz.ntmps39
  go_wp2_with (first
    | (go_at_call 37; refine (uvarint_any B s.size (by omega) _ xs _ HO.out hBw (by omega)).mono ?_; rintro e w1 ⟨v1, rfl, ho1, hb1⟩; have HO1 := hid ho1; clear ho1)
    | (at_builtin; refine wpList_append_string_apd rfl (.tmp 9) (.tmp 10) rfl B v1 _ rfl HO1.out (by rw [List.length_append]; omega) s rfl (by rw [List.length_append]; omega) (Nat.le_trans hBw hb1.size) ?_; intro v2 w2 ho2 hb2))
  go_ret
  refine ⟨v2, rfl, ?_, hb1.trans hb2⟩
  have e1 : xs ++ eS s = xs ++ eU s.size ++ Lib.strCells s := by rw [eS, List.append_assoc]
  have e2 : (xs ++ eS s).length = (xs ++ eU s.size).length + s.size := by rw [e1, List.length_append, strCells_length]
  rw [e2, e1]
  exact ho2

theorem flat_next {α : Type} (f : α → List Value) {L : List α} {k : Nat} {x : α} (h : L[k]? = some x) : (L.take (k + 1)).flatMap f = (L.take k).flatMap f ++ f x := by
  rw [take_next h]; simp
theorem eS_length (s : ByteArray) : (eS s).length = (Lib.uvarint s.size).length + s.size := by rw [eS, List.length_append, eU_length, strCells_length]
/-- The parts are no longer than the whole. -/
theorem flat_take_le {α : Type} (f : α → List Value) (L : List α) (k : Nat) : ((L.take k).flatMap f).length ≤ (L.flatMap f).length := by
  conv => rhs; rw [← List.take_append_drop k L]
  rw [List.flatMap_append, List.length_append]; omega
theorem flat_at_le {α : Type} (f : α → List Value) {L : List α} {k : Nat} {x : α} (h : L[k]? = some x) : ((L.take k).flatMap f).length + (f x).length ≤ (L.flatMap f).length := by
  have := flat_take_le f L (k + 1)
  rw [flat_next f h, List.length_append] at this
  exact this
set_option maxRecDepth 100000 in
set_option maxHeartbeats 1000000 in
theorem appendStrings_any (lo B : Nat) (a : Option Addr) (c : Nat) (L : List ByteArray) (sv : Value) (xs : List Value) (w : World) (hst : StrsL lo w a L) (hsb : ∀ k, sv.ownBlock = some k → ∀ off, a ≠ some ⟨k, off, none⟩) (hBw : B ≤ w.heap.size) (hown : w.ownsRow B 5 1 sv xs.length xs) (hlim : xs.length + (eStrs L).length + 40 ≤ 140737488355328) :
    Calls Tryz.prog 42 #[sv, .slice a L.length c] w fun e w' => App B sv xs (eStrs L) w e w' := by
  have HO := hid hown
  have HS := hid hst
  have HN := hid hsb
  have hl := hst.1
  clear hown hst hsb
  have hsz : IntKind.u64.wrap (L.length : Int) = (L.length : Int) := by simp [IntKind.wrap, IntKind.signed, IntKind.bits]; omega
  have hlen : (eStrs L).length = (eU L.length).length + (L.flatMap eS).length := by rw [eStrs, List.length_append]
  go_enter Tryz.func42, Tryz.ntmps42
  go_wp2_with (go_at_call 37; refine (uvarint_any B L.length (by omega) _ xs _ HO.out hBw (by omega)).mono ?_; rintro e w1 ⟨v1, rfl, ho1, hb1⟩; have HO1 := hid ho1; have HB1 := hid hb1; clear ho1 hb1)
  go_loopw [0, 14] (fun v i wr => ∃ k : Nat, k ≤ L.length ∧ i = .int .i64 k ∧ Hid (wr.ownsRow B 5 1 v ((xs ++ eU L.length) ++ (L.take k).flatMap eS).length ((xs ++ eU L.length) ++ (L.take k).flatMap eS)) ∧ Hid (Apd sv v w wr)) (fun _ i _ => L.length - (intOf i).toNat)
  case atStart => exact ⟨0, Nat.zero_le _, rfl, by rw [Hid, List.take_zero, List.flatMap_nil, List.append_nil]; exact HO1.out, HB1.out⟩
  case round =>
    obtain ⟨k, hk, rfl, HR, HB⟩ := hrel
    by_cases hlt : k < L.length
    · obtain ⟨s, hs⟩ := get_of hlt
      obtain ⟨b, off, ea, _, c0, hss⟩ := HS.out.2 k s hs
      have hbl : b < w.heap.size := World.block_lt_of_cell? _ _ c0
      have c1 : wr.cell? ⟨b, off + k, none⟩ = some (.string s) := (World.cell?_of_block (w := w) (HB.out.block b hbl (fun e => HN.out b e off ea))).trans c0
      subst ea
      have hat := flat_at_le eS hs
      have hesl := eS_length s
      have HJ := hid hs
      have lk : ((xs ++ eU L.length) ++ (L.take k).flatMap eS).length = xs.length + (eU L.length).length + ((L.take k).flatMap eS).length := by rw [List.length_append, List.length_append]
      have HL := hid lk
      clear hs c0 lk
      go_wp2_with (go_at_call 39; refine (appendString_any B s _ _ _ HR.out (Nat.le_trans hBw HB.out.size) (by rw [HL.out]; omega)).mono ?_; rintro e w2 ⟨v2, rfl, ho2, hb2⟩; have HO2 := hid ho2; have HB2 := hid hb2; clear ho2 hb2)
      go_roundw
      case rel =>
        refine ⟨k + 1, by omega, by go_num, ?_, HB.out.trans HB2.out⟩
        rw [flat_next eS HJ.out, ← List.append_assoc]
        exact HO2.out
      case measure => simp [intOf]; omega
    · have hke : k = L.length := by omega
      subst hke
      go_wp2_with fail
      go_ret
      have h1 := HR.out
      rw [List.take_length, List.append_assoc] at h1
      exact ⟨_, rfl, h1, HB.out⟩

/-- A number of 64 bits, as it is when it is read without a sign. -/
def uN (z : Int) : Nat := (IntKind.u64.wrap z).toNat
theorem uN_wrap (z : Int) : IntKind.u64.wrap z = (uN z : Int) := by
  unfold uN
  have : 0 ≤ IntKind.u64.wrap z := by simp [IntKind.wrap, IntKind.signed, IntKind.bits]; omega
  omega
theorem uN_lt (z : Int) : uN z < 18446744073709551616 := by
  unfold uN
  have : IntKind.u64.wrap z < 18446744073709551616 := by simp [IntKind.wrap, IntKind.signed, IntKind.bits]; omega
  omega
def ePol (p : PolV) : List Value := eS p.name ++ (eV p.dur ++ (eV p.sgd ++ eU (uN p.rep)))
theorem eV_le (x : Int) (hx : I64 x) : (eV x).length ≤ 10 := by
  rw [eV_length]
  refine Lib.uvarint_length64 ?_
  obtain ⟨h1, h2⟩ := hx
  unfold Lib.zigzag
  split <;> omega
set_option maxRecDepth 100000 in
set_option maxHeartbeats 1000000 in
theorem appendPolicy_any (B : Nat) (p : PolV) (hd : I64 p.dur) (hs : I64 p.sgd) (sv : Value) (xs : List Value) (w : World) (hown : w.ownsRow B 5 1 sv xs.length xs) (hBw : B ≤ w.heap.size) (hlim : xs.length + p.name.size + 100 ≤ 140737488355328) :
    Calls Tryz.prog 40 #[sv, .agg #[.string p.name, .int .i64 p.dur, .int .i64 p.sgd, .int .i64 p.rep]] w fun e w' => App B sv xs (ePol p) w e w' := by
  obtain ⟨w1, hw1⟩ : ∃ w1, w1 = w.alloc (.cells #[.string p.name, .int .i64 p.dur, .int .i64 p.sgd, .int .i64 p.rep] 87) := ⟨_, rfl⟩
  have a1 : Apd sv sv w w1 := by rw [hw1]; exact Apd.of_grown (World.grownBy_alloc w _ _) (fun _ h => .inl h)
  have hne : sv.ownBlock ≠ some w.heap.size := fun e => by have := (hown.lt _ e).2; omega
  have HO := hid (show w1.ownsRow B 5 1 sv xs.length xs by rw [hw1]; exact hown.alloc _)
  have q : ∀ i v, (#[Value.string p.name, .int .i64 p.dur, .int .i64 p.sgd, .int .i64 p.rep] : Array Value)[i]? = some v → w1.cell? ⟨w.heap.size, i, none⟩ = some v := fun i v h => by rw [hw1, World.cell?_alloc_at _ _ _ _ rfl]; exact h
  have hz : w.heap.size < w1.heap.size := by rw [hw1]; simp
  have HQ := hid q
  have HD := hid hd
  have HS := hid hs
  have HA1 := hid a1
  have HN := hid hne
  have u1 := eV_le p.dur hd
  have u2 := eV_le p.sgd hs
  have l1 := eS_length p.name
  have l2 := Lib.uvarint_length64 (x := p.name.size) (by omega)
  have hw := uN_wrap p.rep
  have hlt := uN_lt p.rep
  have r0 := q 0 _ rfl
  clear q hd hs a1 hne hown
  go_enter Tryz.func40, Tryz.ntmps40
  go_upto_region 1 with fail
  rw [← hw1]
  clear hw1
  go_upto_region 2 with (go_at_call 39; refine (appendString_any B p.name _ _ _ HO.out (by omega) (by omega)).mono ?_; rintro e w2 ⟨v2, rfl, ho2, hb2⟩; have HO2 := hid ho2; have HB2 := hid hb2; clear ho2 hb2)
  have st : ∀ (v : Value) (wz : World), Apd sv v w1 wz → ∀ i u, w1.cell? ⟨w.heap.size, i, none⟩ = some u → wz.cell? ⟨w.heap.size, i, none⟩ = some u := fun v wz h i u hu => (World.cell?_of_block (w := w1) (h.block _ hz HN.out)).trans hu
  have ST := hid st
  clear st
  have r1 := ST.out _ _ HB2.out 1 _ (HQ.out 1 _ rfl)
  have hs2 := HB2.out.size
  go_upto_region 3 with (go_at_call 41; refine (varint_any B p.dur HD.out _ _ _ HO2.out (by omega) (by rw [List.length_append]; omega)).mono ?_; rintro e w3 ⟨v3, rfl, ho3, hb3⟩; have HO3 := hid ho3; have HB3 := hid (HB2.out.trans hb3); clear ho3 hb3)
  have r2 := ST.out _ _ HB3.out 2 _ (HQ.out 2 _ rfl)
  have hs3 := HB3.out.size
  go_upto_region 4 with (go_at_call 41; refine (varint_any B p.sgd HS.out _ _ _ HO3.out (by omega) (by rw [List.length_append, List.length_append]; omega)).mono ?_; rintro e w4 ⟨v4, rfl, ho4, hb4⟩; have HO4 := hid ho4; have HB4 := hid (HB3.out.trans hb4); clear ho4 hb4)
  have r3 := ST.out _ _ HB4.out 3 _ (HQ.out 3 _ rfl)
  have hs4 := HB4.out.size
  go_wp2_with (go_at_call 37; refine (uvarint_any B (uN p.rep) hlt _ _ _ HO4.out (by omega) (by rw [List.length_append, List.length_append, List.length_append]; omega)).mono ?_; rintro e w5 ⟨v5, rfl, ho5, hb5⟩; have HO5 := hid ho5; have HB5 := hid (HB4.out.trans hb5); clear ho5 hb5)
  go_ret
  refine ⟨v5, rfl, ?_, HA1.out.trans HB5.out⟩
  have h := HO5.out
  simp only [ePol, ← List.append_assoc]
  exact h
end Go.Proofs.Qxb6609540aGreatDoor
