/-
  Copies of slices: zzCloneBytes, zzCloneStrings.
-/
import Derived.Test.Qxb6609540aGreatDoorReach
import Derived.Laws.CopyOwn
import Derived.OwnWalk
import Derived.Lib.Slices
namespace Go.Proofs.Qxb6609540aGreatDoor
open Go.RowKit
theorem Tryz.info9 : (Tryz.prog.info? 9).map (fun i => (i.zero, i.size, i.bytes)) = some (some (.string ByteArray.empty), 1, 16) := by kernel_rfl
theorem Tryz.info5 : (Tryz.prog.info? 5).map (fun i => (i.zero, i.size, i.bytes)) = some (some (.int .u8 0), 1, 1) := by kernel_rfl
theorem Tryz.size9 : (Tryz.prog.info? 9).map (·.size) = some 1 := by kernel_rfl
theorem Tryz.size5 : (Tryz.prog.info? 5).map (·.size) = some 1 := by kernel_rfl
theorem splice_whole {α : Type} (L cs : List α) (h : cs.length = L.length) : splice L 0 cs = cs := by
  unfold splice; rw [List.take_zero, Nat.zero_add, List.drop_of_length_le (by omega)]; simp
theorem ownsRow_block {w : World} {base e n cap : Nat} {xs : List Value} {g : Nat} (h : w.ownsRow base e 1 (.slice (some ⟨g, 0, none⟩) n cap) n xs) : ∃ cur, w.heap[g]? = some (.cells cur e (0, 0)) ∧ cur.size = cap ∧ cur.toList.take n = xs := by
  rcases h.2 with ⟨h1, _⟩ | ⟨g', cap', cur, h1, _, h2, _, _, h3, h4⟩
  · cases h1
  · simp only [Value.slice.injEq, Option.some.injEq, Addr.mk.injEq, and_true] at h1
    obtain ⟨rfl, _, rfl⟩ := h1
    exact ⟨cur, h2, by omega, by simpa using h4⟩
theorem cell_row {w : World} {g : Nat} {cs : List Value} {t : TypeId} {fz : Nat × Nat} (h : w.heap[g]? = some (.cells cs.toArray t fz)) (j : Nat) : w.cell? ⟨g, j, none⟩ = cs[j]? := by
  unfold World.cell?; rw [h]; simp
theorem block_lt {w : World} {g : Nat} {o : Obj} (h : w.heap[g]? = some o) : g < w.heap.size := (Array.getElem?_eq_some_iff.1 h).1

theorem StrsAt.of_row {w : World} {g : Nat} {L : List ByteArray} {t : TypeId} {fz : Nat × Nat} (h : w.heap[g]? = some (.cells (L.map Value.string).toArray t fz)) (h1 : L.length * 16 ≤ 140737488351232) (h2 : ∀ s ∈ L, s.size ≤ 9223372036854775807) : StrsAt w (some ⟨g, 0, none⟩) L :=
  ⟨h1, fun k s hk => ⟨g, 0, rfl, block_lt h, by rw [cell_row h]; simp [hk], h2 s (List.mem_of_getElem? hk)⟩⟩
theorem StrsAt.small {w : World} {a : Option Addr} {L : List ByteArray} (h : StrsAt w a L) : ∀ s ∈ L, s.size ≤ 9223372036854775807 := fun s hs => by
  obtain ⟨k, hk⟩ := List.mem_iff_getElem?.1 hs
  obtain ⟨_, _, _, _, _, h4⟩ := h.2 k s hk
  exact h4

set_option maxRecDepth 100000 in
theorem cloneStrings_any (a : Option Addr) (c : Nat) (L : List ByteArray) (w : World) (hs : StrsAt w a L) :
    Calls Tryz.prog 36 #[.slice a L.length c] w fun e w' => ∃ a' c', e = .returned (.slice a' L.length c') ∧ StrsAt w' a' L ∧ (∀ b off, a' = some ⟨b, off, none⟩ → w.heap.size ≤ b) ∧ Below w.heap.size w w' := by
  have e1 := fun (W : World) (a : Option Addr) (n c n' c' : Nat) => Lib.run_eql_slice_nil (P := Tryz.prog) W 45 9 a n c n' c' Tryz.underlying45
  by_cases ha : a = none
  · subst ha
    have hL : L = [] := by
      cases L with
      | nil => rfl
      | cons x L => obtain ⟨_, _, h, _⟩ := hs.2 0 x rfl; cases h
    subst hL
    go_enter Tryz.func36, Tryz.ntmps36
    go_wp2
    go_ret
    exact ⟨none, 0, rfl, hs, fun _ _ h => by (cases h), Below.refl _ _⟩
  · have ha' : a.isNone = false := by cases a with
      | none => exact absurd rfl ha
      | some x => rfl
    obtain ⟨i0, hi, hz0, hs0, hy0⟩ := info_parts Tryz.info9
    have h1 := hs.1
    have hb1 : i0.bytes * L.length ≤ 281474976710656 := by rw [hy0]; omega
    have hm1 : L.length ≤ maxLen := by unfold maxLen; omega
    have HS := hid hs
    clear hs ha
    obtain ⟨X, hX⟩ : ∃ X, X = L.map Value.string := ⟨_, rfl⟩
    have HX := hid hX
    have hXl : X.length = L.length := by rw [hX]; simp
    have hX1 : ∀ v ∈ X, v.oneCell' = true := by rw [hX]; intro v hv; simp only [List.mem_map] at hv; obtain ⟨s, _, rfl⟩ := hv; rfl
    clear hX
    go_enter Tryz.func36, Tryz.ntmps36
    go_upto_region 4 with (at_make; refine wpList_make_full _ rfl (.tmp 7) (.tmp 7) 45 rfl w.heap.size 9 i0 (.string ByteArray.empty) 1 Tryz.underlying45 hi hz0 hs0 .i64 .i64 _ _ L.length rfl rfl rfl rfl hb1 hm1 (Nat.le_refl _) ?_; intro w1 hown hgrow)
    have hB : Below w.heap.size w w1 := (Below.refl _ _).grown hgrow (Nat.le_refl _) (fun k h => by cases h)
    obtain ⟨cur, hcur, hcs, _⟩ := ownsRow_block hown
    obtain ⟨CL, hCL⟩ : ∃ CL, CL = cur.toList := ⟨_, rfl⟩
    have hcur' : w1.heap[w.heap.size]? = some (.cells CL.toArray 9 (0, 0)) := by rw [hCL]; simpa using hcur
    have hCLl : CL.length = L.length := by rw [hCL]; simpa using hcs
    have hn : X.length = Nat.min L.length L.length := by rw [hXl]; exact (Nat.min_self _).symm
    have hpos : 0 < X.length → ∃ ad, a = some ad ∧ ∀ j v, X[j]? = some v → w1.cell? (ad.add j) = some v := fun hp => by
      obtain ⟨x, hx⟩ := get_of (show 0 < L.length by omega)
      obtain ⟨b, off, ea, hbl, _⟩ := HS.out.2 0 x hx
      refine ⟨⟨b, off, none⟩, ea, fun j v hv => ?_⟩
      rw [HX.out, List.getElem?_map] at hv
      cases hl : L[j]? with
      | none => rw [hl] at hv; cases hv
      | some s =>
        rw [hl] at hv
        obtain ⟨b', off', ea', _, hc, _⟩ := HS.out.2 j s hl
        rw [ea] at ea'
        simp only [Option.some.injEq, Addr.mk.injEq, and_true] at ea'
        obtain ⟨rfl, rfl⟩ := ea'
        have e2 : Addr.add ⟨b, off, none⟩ j = ⟨b, off + j, none⟩ := by
          unfold Addr.add; split
          · rename_i h0; rw [h0]; rfl
          · rfl
        rw [e2, hB.cell (p := ⟨b, off + j, none⟩) hbl, hc]
        simpa using hv
    have HP := hid hpos
    clear hpos hown hgrow hcur hcs hCL
    go_wp2_with (refine wpList_copy_splice rfl (.tmp 9) (.tmp 10) 45 45 rfl 9 Tryz.underlying45 Tryz.size9 _ _ _ _ _ _ rfl rfl w.heap.size 0 CL 9 hcur' X hn (fun hp => ⟨rfl, HP.out hp⟩) (by omega) hX1 w.heap.size w hB (Nat.le_refl _) ?_; intro w2 HG hB2)
    go_ret
    have hrow := HG.out
    rw [splice_whole _ _ (by omega), HX.out] at hrow
    exact ⟨_, _, rfl, StrsAt.of_row hrow h1 HS.out.small, fun b off h => by (simp only [Option.some.injEq, Addr.mk.injEq, and_true] at h; omega), hB2⟩

/-- The bytes of a slice. -/
def BytesAt (w : World) (a : Option Addr) (bs : List Value) : Prop :=
  bs.length ≤ 140737488351232 ∧ (∀ v ∈ bs, v.oneCell' = true) ∧ ∀ k v, bs[k]? = some v → ∃ b off, a = some ⟨b, off, none⟩ ∧ b < w.heap.size ∧ w.cell? ⟨b, off + k, none⟩ = some v
theorem BytesAt.kept {w w' : World} {a : Option Addr} {L : List Value} (h : BytesAt w a L) (hb : Kept w.heap.size w w') : BytesAt w' a L :=
  ⟨h.1, h.2.1, fun k s hk => by
    obtain ⟨b, off, h1, h2, h3⟩ := h.2.2 k s hk
    exact ⟨b, off, h1, Nat.lt_of_lt_of_le h2 hb.size, (hb.cell (by exact h2)).trans h3⟩⟩

set_option maxRecDepth 100000 in
theorem cloneBytes_any (a : Option Addr) (c : Nat) (X : List Value) (w : World) (hs : BytesAt w a X) :
    Calls Tryz.prog 8 #[.slice a X.length c] w fun e w' => Below w.heap.size w w' ∧ ((X = [] ∧ e = .returned (.slice none 0 0)) ∨ ∃ g, e = .returned (.slice (some ⟨g, 0, none⟩) X.length X.length) ∧ w.heap.size ≤ g ∧ w'.heap[g]? = some (.cells X.toArray 5 (0, 0))) := by
  have e1 := fun (W : World) (a : Option Addr) (n c n' c' : Nat) => Lib.run_eql_slice_nil (P := Tryz.prog) W 22 5 a n c n' c' Tryz.underlying22
  by_cases ha : a = none
  · subst ha
    have hL : X = [] := by
      cases X with
      | nil => rfl
      | cons x L => obtain ⟨_, _, h, _⟩ := hs.2.2 0 x rfl; cases h
    subst hL
    go_enter Tryz.func8, Tryz.ntmps8
    go_wp2
    go_ret
    exact ⟨Below.refl _ _, .inl (by simp)⟩
  · have ha' : a.isNone = false := by cases a with
      | none => exact absurd rfl ha
      | some x => rfl
    obtain ⟨i0, hi, hz0, hs0, hy0⟩ := info_parts Tryz.info5
    have h1 := hs.1
    have hb1 : i0.bytes * X.length ≤ 281474976710656 := by rw [hy0]; omega
    have hm1 : X.length ≤ maxLen := by unfold maxLen; omega
    have HS := hid hs
    have hX1 := hs.2.1
    clear hs ha
    go_enter Tryz.func8, Tryz.ntmps8
    go_upto_region 4 with (at_make; refine wpList_make_full _ rfl (.tmp 7) (.tmp 7) 22 rfl w.heap.size 5 i0 (.int .u8 0) 1 Tryz.underlying22 hi hz0 hs0 .i64 .i64 _ _ X.length rfl rfl rfl rfl hb1 hm1 (Nat.le_refl _) ?_; intro w1 hown hgrow)
    have hB : Below w.heap.size w w1 := (Below.refl _ _).grown hgrow (Nat.le_refl _) (fun k h => by cases h)
    obtain ⟨cur, hcur, hcs, _⟩ := ownsRow_block hown
    obtain ⟨CL, hCL⟩ : ∃ CL, CL = cur.toList := ⟨_, rfl⟩
    have hcur' : w1.heap[w.heap.size]? = some (.cells CL.toArray 5 (0, 0)) := by rw [hCL]; simpa using hcur
    have hCLl : CL.length = X.length := by rw [hCL]; simpa using hcs
    have hpos : 0 < X.length → ∃ ad, a = some ad ∧ ∀ j v, X[j]? = some v → w1.cell? (ad.add j) = some v := fun hp => by
      obtain ⟨x, hx⟩ := get_of hp
      obtain ⟨b, off, ea, hbl, _⟩ := HS.out.2.2 0 x hx
      refine ⟨⟨b, off, none⟩, ea, fun j v hv => ?_⟩
      obtain ⟨b', off', ea', _, hc⟩ := HS.out.2.2 j v hv
      rw [ea] at ea'
      simp only [Option.some.injEq, Addr.mk.injEq, and_true] at ea'
      obtain ⟨rfl, rfl⟩ := ea'
      have e2 : Addr.add ⟨b, off, none⟩ j = ⟨b, off + j, none⟩ := by
        unfold Addr.add; split
        · rename_i h0; rw [h0]; rfl
        · rfl
      rw [e2, hB.cell (p := ⟨b, off + j, none⟩) hbl, hc]
    have HP := hid hpos
    clear hpos hown hgrow hcur hcs hCL
    go_wp2_with (refine wpList_copy_splice rfl (.tmp 9) (.tmp 10) 22 22 rfl 5 Tryz.underlying22 Tryz.size5 _ _ _ _ _ _ rfl rfl w.heap.size 0 CL 5 hcur' X (Nat.min_self _).symm (fun hp => ⟨rfl, HP.out hp⟩) (by omega) hX1 w.heap.size w hB (Nat.le_refl _) ?_; intro w2 HG hB2)
    go_ret
    have hrow := HG.out
    rw [splice_whole _ _ (by omega)] at hrow
    exact ⟨hB2, .inr ⟨_, rfl, Nat.le_refl _, hrow⟩⟩
end Go.Proofs.Qxb6609540aGreatDoor
