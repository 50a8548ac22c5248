/-
  maps.Keys and slices.Collect at the map of names; slices.Sorted at the nil map.
-/
import Derived.Test.Qxb6609540aGreatDoorNameMap
import Derived.Shelf.SlIter.Nil
import Derived.Shelf.SortM.SortNone
import Derived.Ground.GgzProg
import Derived.Ground.SlgmProg
namespace Go.Proofs.Qxb6609540aGreatDoor
open Go.RowKit Go.Maps Go.Sort Go.Shelf
set_option maxRecDepth 1000000
set_option maxHeartbeats 4000000
shelf_lay_g SlLaysZ.n7 Ggz 7 at Tryz 49 as Tryz.keys49
shelf_lay_g SlLaysZ.n8 Ggz 8 at Tryz 48 as Tryz.collect48
shelf_lay_g SlLaysZ.n7 Ggz 7 at Tryz 44 as Tryz.keys44
shelf_lay_g SlLaysM.n6 Slgm 6 at Tryz 53 as Tryz.sort53
theorem keys49_any (mb : Option Nat) (w : World) : Calls Tryz.prog 49 #[.map mb] w fun e w' => e = .returned (.func (.func 60) #[] #[.pointer (some ⟨w.heap.size, 0, none⟩)]) ∧ w' = w.alloc (.cells #[.map mb] 53) :=
  callsIn_wide.1 (AnyZ.keys_in Tryz.keys49 Fence.wide 5 trivial rfl mb w)
theorem keys44_any (mb : Option Nat) (w : World) : Calls Tryz.prog 44 #[.map mb] w fun e w' => e = .returned (.func (.func 54) #[] #[.pointer (some ⟨w.heap.size, 0, none⟩)]) ∧ w' = w.alloc (.cells #[.map mb] 88) :=
  callsIn_wide.1 (AnyZ.keys_in Tryz.keys44 Fence.wide 5 trivial rfl mb w)
theorem collect48_names {r : Nat} {ML : List (ByteArray × Nat)} {w : World} (h : NamesAt w r ML) (hl : ML.length * 16 ≤ 140737488355328) (hd : (ML.map (·.1)).Nodup) (hs : ∀ p ∈ ML, p.1.size ≤ maxLen) :
    Calls Tryz.prog 48 #[.func (.func 60) #[] #[.pointer (some ⟨w.heap.size, 0, none⟩)]] (w.alloc (.cells #[.map (some r)] 53)) fun e w' => ∃ (v : Value) (ss : List (List UInt8)), e = .returned v ∧ ss.Perm (ML.map fun p => p.1.data.toList) ∧
      w'.ownsRow (w.alloc (.cells #[.map (some r)] 53)).heap.size 9 1 v ss.length (ss.map encStr) ∧ Below (w.alloc (.cells #[.map (some r)] 53)).heap.size (w.alloc (.cells #[.map (some r)] 53)) w' := by
  have hmax : (maxLen : Nat) = 9223372036854775807 := rfl
  have hown := names_owns h (by omega) hd hs
  have hbl := hown.lt
  have hseq : SeqGives Fence.wide 3 Tryz.prog 60 #[.pointer (some ⟨w.heap.size, 0, none⟩)] encStr (fun ss => ss.Perm (strKeys (nameD ML))) (Maps.size (nameD ML)) (w.alloc (.cells #[.map (some r)] 53)) :=
    AnyZ.keys_gives (ρ := Tryz.keys49_ren) { Tryz.keys49 with } Fence.wide _ trivial rfl (by omega) w.heap.size r ML.length (nameD ML) _ (by simp) (by simp) (by
      obtain ⟨es, clock, hb, Ft, hs, hD⟩ := hown
      exact ⟨es, clock, (Below.heap_alloc _ _ r hbl).trans hb, Ft, hs, hD⟩)
  have hc := AnyZ.collect_in Tryz.collect48 Fence.wide 5 trivial trivial rfl (by omega) 60 #[.pointer (some ⟨w.heap.size, 0, none⟩)] trivial (enters_of Tryz.func60 (by kernel_rfl) rfl) _ _ (by rw [nameD_size]; omega) (by rw [nameD_size]; omega) _ hseq
  refine (callsIn_wide.1 hc).mono ?_
  rintro e w' ⟨v, ss, h1, h2, h3, _, h5⟩
  exact ⟨v, ss, h1, h2.trans (nameD_keys ML), h3, h5⟩
theorem collect48_nil (w : World) :
    Calls Tryz.prog 48 #[.func (.func 54) #[] #[.pointer (some ⟨w.heap.size, 0, none⟩)]] (w.alloc (.cells #[.map none] 88)) fun e w' => e = .returned (.slice none 0 0) ∧ Below w.heap.size w w' := by
  have hseq : SeqGives Fence.wide 3 Tryz.prog 54 #[.pointer (some ⟨w.heap.size, 0, none⟩)] encStr (fun ss : List (List UInt8) => ss = []) 0 (w.alloc (.cells #[.map none] 88)) :=
    AnyZ.keys_gives_nil (ρ := Tryz.keys44_ren) { Tryz.keys44 with } Fence.wide _ trivial rfl w.heap.size _ (by simp) (by simp)
  have hc := AnyZ.collect_in Tryz.collect48 Fence.wide 5 trivial trivial rfl (by omega) 54 #[.pointer (some ⟨w.heap.size, 0, none⟩)] trivial (enters_of Tryz.func54 (by kernel_rfl) rfl) _ 0 (Nat.zero_le _) (by omega) _ hseq
  refine (callsIn_wide.1 hc).mono ?_
  rintro e w' ⟨v, ss, h1, h2, h3, h4, h5⟩
  have hB : Below w.heap.size w (w.alloc (.cells #[.map none] 88)) := (Below.refl _ w).alloc (Nat.le_refl _) _
  exact ⟨by rw [h1, h4.2 h2], hB.trans (h5.mono (by simp))⟩
theorem sorted43_nil (w : World) :
    Calls Tryz.prog 43 #[.func (.func 54) #[] #[.pointer (some ⟨w.heap.size, 0, none⟩)]] (w.alloc (.cells #[.map none] 88)) fun e w' => e = .returned (.slice none 0 0) ∧ Below w.heap.size w w' := by
  have h1 := collect48_nil w
  have h2 := fun W => AnyM.slices_Sort_string_none Tryz.sort53 none 0 W
  change ∀ W, Calls Tryz.prog 53 _ _ _ at h2
  have H1 := hid h1
  have H2 := hid h2
  clear h1 h2
  go_enter Tryz.func43, Tryz.ntmps43
  go_wp2_with (first | (go_at_call 48; refine (H1.out).mono ?_; rintro e w1 ⟨rfl, HB⟩) | (go_at_call 53; refine (H2.out _).mono ?_; rintro e w2 ⟨rfl, hw⟩))
  subst w2
  go_ret
  exact ⟨rfl, HB⟩
end Go.Proofs.Qxb6609540aGreatDoor
