/-
  zzBuildModules: the slice of modules.
-/
import Derived.Test.Qxb6609499aFmtBuild
namespace Go.Proofs.Qxb6609499aFmt
open Go.RowKit
section
variable {P : Program}
theorem wpList_buildSlice1 {ops : Array Oper} {rest : List Oper} {op : Oper} {a : Act} {w : World} {Q : Exit → Act → World → Prop} (hgd : op.guard = none) (t : TypeId) (x : Operand) (ho : op.op = .buildSlice t 1 #[(0, x)])
    (A : Array Value) (hx : a.eval x = .agg A) (e : TypeId) (i : TypeInfo) (z : Value) (hu : P.underlying t = some (.slice e)) (hi : P.info? e = some i) (hz : i.zero = some z) (hA : A.size = i.size) (h0 : 0 < i.size) (h24 : i.size ≤ 16777216)
    (h : wpList P ops Q rest (a.put op.dst (.slice (some ⟨w.heap.size, 0, none⟩) 1 1)) (w.alloc (.cells A e))) : wpList P ops Q (op :: rest) a w := by
  refine wpList_plain hgd fun K hK => ?_
  have hrun := run_buildSlice1 (P := P) (w := w) hu hi hz hA h0 h24
  unfold Oper.wp execOp
  simp only [ho, List.map_toArray, List.map_cons, List.map_nil, hx, Sem.run_bind, hrun, Result.andThen_ok, Sem.run_pure]
  exact hK _ _ h
end
theorem Tryf.info42 : (Tryf.prog.info? 42).map (fun i => (i.zero.map (fun z => z.cells.size), i.size, i.bytes)) = some (some 66, 66, 104) := by kernel_rfl
theorem Tryf.info42' : ∃ i z, Tryf.prog.info? 42 = some i ∧ i.zero = some z ∧ i.size = 66 ∧ i.bytes = 104 ∧ z.cells.size = 66 := by
  have h := Tryf.info42
  cases hq : Tryf.prog.info? 42 with
  | none => rw [hq] at h; cases h
  | some i =>
    rw [hq] at h
    simp only [Option.map_some, Option.some.injEq, Prod.mk.injEq] at h
    cases hz : i.zero with
    | none => rw [hz] at h; simp at h
    | some z => rw [hz] at h; exact ⟨i, z, rfl, hz, h.2.1, h.2.2, by simpa using h.1⟩

/-- The cells of modules one behind the other. -/
def ModsX (xs : List Value) (k : Nat) (ms : Nat → ModV) : Prop := ∀ i, i < k → ∀ j v, (ms i).cells[j]? = some v → xs[i * 66 + j]? = some v
theorem ModsX.congr {xs : List Value} {k : Nat} {ms ms' : Nat → ModV} (h : ModsX xs k ms) (he : ∀ i, i < k → ms' i = ms i) : ModsX xs k ms' := fun i hi j v hv => h i hi j v (by rw [← he i hi]; exact hv)
theorem ModsX.snoc {xs : List Value} {k : Nat} {ms : Nat → ModV} (h : ModsX xs k ms) (hl : xs.length = k * 66) : ModsX (xs ++ (ms k).cells) (k + 1) ms := by
  intro i hi j v hv
  by_cases hik : i = k
  · subst hik
    rw [List.getElem?_append_right (by omega), show i * 66 + j - xs.length = j by omega]; exact hv
  · have := h i (by omega) j v hv
    have hj := (List.getElem?_eq_some_iff.1 this).1
    rw [List.getElem?_append_left hj]; exact this

set_option maxRecDepth 100000 in
set_option maxHeartbeats 4000000 in
theorem buildModules_any (a : Option Addr) (n c : Nat) (ms : Nat → ModV) (svns : Nat → Nat → Int) (w : World) (hi : IdsAt w a n ms svns) :
    Calls Tryf.prog 6 #[.slice a n c] w fun e w' => ∃ (gs caps : Nat → Nat), e = .returned (.slice (some ⟨w.heap.size, 0, none⟩) n n) ∧
      (∀ i, i < n → w'.rangeAt w.heap.size (i * 66) ((ms i).with (gs i) (caps i)).cells ∧ NewLv w' (gs i) (ms i).ln (svns i) ∧ w.heap.size < gs i ∧ gs i < w'.heap.size) ∧ w.heap.size < w'.heap.size ∧ Below w.heap.size w w' := by
  obtain ⟨i0, z0, hi0, hz0, hz1, hz2, hz3⟩ := Tryf.info42'
  have hn := hi.1
  have hb1 : i0.bytes * n ≤ 281474976710656 := by rw [hz2]; omega
  have hm1 : n ≤ maxLen := by unfold maxLen; omega
  have HI := hid hi
  clear hi
  go_enter Tryf.func6, Tryf.ntmps6
  go_wp2_with (at_make; refine wpList_make_own _ rfl _ _ 35 rfl w.heap.size 42 i0 z0 66 Tryf.underlying35 hi0 hz0 hz1 .i64 .i64 _ n rfl rfl rfl hb1 hm1 (Nat.le_refl _) ?_; intro w1 hown hgrow)
  have hB : Below w.heap.size w w1 := (Below.refl _ _).grown hgrow (Nat.le_refl _) (fun k h => by cases h)
  have HO := hid hown
  clear hown hgrow
  go_loopw [3, 4] (fun ls i wr => ∃ (k : Nat) (xs : List Value) (gs caps : Nat → Nat), k ≤ n ∧ i = .int .i64 k ∧ ls = .slice (some ⟨w.heap.size, 0, none⟩) k n ∧ wr.ownsRow w.heap.size 42 66 (.slice (some ⟨w.heap.size, 0, none⟩) k n) k xs ∧
      ModsX xs k (fun i => (ms i).with (gs i) (caps i)) ∧ (∀ i, i < k → NewLv wr (gs i) (ms i).ln (svns i) ∧ w.heap.size < gs i ∧ gs i < wr.heap.size) ∧ Below w.heap.size w wr)
    (fun _ i _ => n - (intOf i).toNat)
  case atStart => exact ⟨0, [], fun _ => 0, fun _ => 0, Nat.zero_le _, rfl, rfl, HO.out, fun i hi => by omega, fun i hi => by omega, hB⟩
  case round =>
    obtain ⟨k, xs, gs, caps, hk, rfl, rfl, hownr, hX, hG, hBr⟩ := hrel
    by_cases hlt : k < n
    · obtain ⟨b, off, rfl, hbw, hok, hrg, hlv⟩ := (HI.out.below hBr).2 k hlt
      have HR := hid hrg
      have HK := hid hok
      have HV := hid hlv
      have Z1 : (Tryf.prog.info? 31).map (·.size) = some (ms k).cells.length := size31_of hok
      have HOr := hid hownr
      have HXr := hid hX
      have HGr := hid hG
      have wlt : w.heap.size < wr.heap.size := (hownr.lt w.heap.size rfl).2
      clear hrg hok hlv hownr hX hG hb1 hm1 hB HO
      go_wp2_with (first
        | (refine wpList_load_mid rfl 31 (.tmp 17) rfl b (off + k * 66) rfl (ms k).cells _ (by exact HR.out) Tryf.underlying31 rfl Z1 ?_)
        | (go_at_call 8; refine (buildModule_any (ms k) (svns k) _ HK.out HV.out).mono ?_; rintro e w2 ⟨g, cap, rfl, hN, hg1, hg2, hb2⟩)
        | (refine wpList_buildSlice1 rfl 35 (.tmp 19) rfl ((ms k).with g cap).cells.toArray rfl 42 i0 z0 Tryf.underlying35 hi0 hz0 (by rw [hz1, List.size_toArray, ModV.length (ModV.with_ok HK.out g cap)]) (by omega) (by omega) ?_)
        | (at_builtin; refine wpList_append_fits _ rfl (.tmp 14) (.tmp 20) 35 rfl w.heap.size 42 i0 66 Tryf.underlying35 hi0 hz1 w.heap.size k n xs rfl ((ownsRow_below HOr.out hb2).alloc _) ⟨w2.heap.size, 0, none⟩ 1 1 ((ms k).with g cap).cells rfl (by rw [ModV.length (ModV.with_ok HK.out g cap)]) (World.news_of_block (cs := ((ms k).with g cap).cells.toArray) (t := 42) (fr := (0, 0)) (heap_alloc_new w2 _)) (ModV.one _) (by omega) ?_; intro w3 hown3 hgrow3))
      go_roundw
      case rel =>
        have s2 : wr.heap.size ≤ w2.heap.size := hb2.size
        have s3 : w2.heap.size + 1 ≤ w3.heap.size := by have := hgrow3.size; simpa using this
        refine ⟨k + 1, xs ++ ((ms k).with g cap).cells, fun i => if i = k then g else gs i, fun i => if i = k then cap else caps i, by omega, by go_num, rfl, hown3, ?_, ?_, ?_⟩
        · have h1 : ModsX xs k (fun i => (ms i).with (if i = k then g else gs i) (if i = k then cap else caps i)) := HXr.out.congr (fun i hi => by rw [if_neg (by omega), if_neg (by omega)])
          have h2 := h1.snoc HOr.out.1
          simp only [if_true] at h2
          exact h2
        · intro i hi
          by_cases hik : i = k
          · subst hik
            simp only [if_true]
            refine ⟨fun j hj => ?_, by omega, by omega⟩
            obtain ⟨h1, ⟨s, h2⟩, a, q, c, h3⟩ := hN j hj
            have f : ∀ o, w3.cell? ⟨g, o, none⟩ = w2.cell? ⟨g, o, none⟩ := fun o => by
              rw [hgrow3.cell_far ⟨g, o, none⟩ (by simp; omega) (by simp; omega), World.cell?_alloc_past _ _ _ hg2]
            exact ⟨(f _).trans h1, ⟨s, (f _).trans h2⟩, a, q, c, (f _).trans h3⟩
          · simp only [if_neg hik]
            obtain ⟨hN', g1, g2⟩ := HGr.out i (by omega)
            refine ⟨fun j hj => ?_, by omega, by omega⟩
            obtain ⟨h1, ⟨s, h2⟩, a, q, c, h3⟩ := hN' j hj
            have f : ∀ o, w3.cell? ⟨gs i, o, none⟩ = wr.cell? ⟨gs i, o, none⟩ := fun o => by
              rw [hgrow3.cell_far ⟨gs i, o, none⟩ (by simp; omega) (by simp; omega), World.cell?_alloc_past _ _ _ (by omega)]
              exact hb2.cell (p := ⟨gs i, o, none⟩) g2
            exact ⟨(f _).trans h1, ⟨s, (f _).trans h2⟩, a, q, c, (f _).trans h3⟩
        · have t1 : Below w.heap.size w (w2.alloc (.cells ((ms k).with g cap).cells.toArray 42)) := (hBr.trans (hb2.mono (by omega))).alloc (by omega) _
          exact t1.grown hgrow3 (by simp; omega) (fun q h => by simp at h; omega)
      case measure => simp [intOf]; omega
    · have hke : n = k := by omega
      subst hke
      have wlt : w.heap.size < wr.heap.size := (hownr.lt w.heap.size rfl).2
      have HOr := hid hownr
      have HXr := hid hX
      have HGr := hid hG
      clear hownr hX hG hb1 hm1 hB HO
      go_wp2
      go_ret
      refine ⟨gs, caps, rfl, fun i hi => ⟨fun j v hv => ?_, HGr.out i hi⟩, wlt, hBr⟩
      have h1 := HXr.out i hi j v hv
      have hj := (List.getElem?_eq_some_iff.1 h1).1
      rw [HOr.out.1] at hj
      rw [HOr.out.cellAt _ hj]
      exact h1
end Go.Proofs.Qxb6609499aFmt
