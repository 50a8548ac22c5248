/-
  zzBuildModule: a module of the data turned into a module of the package, its levels copied into memory of its own.
-/
import Derived.Test.Qxb6609499aFmtMake
import Derived.Deep.RegionHeld3
import Derived.Deep.AppendLies
import Derived.Deep.DrawnRows
namespace Go.Proofs.Qxb6609499aFmt
open Go.RowKit
attribute [local go_sem] Go.wp_at_zero Go.wp_at_succ

/-- What the levels' cells hold. -/
def LvX (xs : List Value) (j : Nat) (svn : Nat → Int) : Prop :=
  ∀ i, i < j → xs[i * 3]? = some (.int .u16 (svn i)) ∧ (∃ s, xs[i * 3 + 1]? = some (.string s)) ∧ ∃ a n c, xs[i * 3 + 2]? = some (.slice a n c)
theorem LvX.snoc {xs : List Value} {j : Nat} {svn : Nat → Int} (h : LvX xs j svn) (hl : xs.length = j * 3) (s : ByteArray) (a : Option Addr) (n c : Nat) :
    LvX (xs ++ [.int .u16 (svn j), .string s, .slice a n c]) (j + 1) svn := by
  intro i hi
  by_cases hij : i = j
  · subst hij
    rw [List.getElem?_append_right (by omega), List.getElem?_append_right (by omega), List.getElem?_append_right (by omega)]
    rw [show i * 3 - xs.length = 0 by omega, show i * 3 + 1 - xs.length = 1 by omega, show i * 3 + 2 - xs.length = 2 by omega]
    exact ⟨rfl, ⟨s, rfl⟩, a, n, c, rfl⟩
  · have := h i (by omega)
    rw [List.getElem?_append_left (by omega), List.getElem?_append_left (by omega), List.getElem?_append_left (by omega)]
    exact this
theorem ownsRow_below {w w' : World} {base : Nat} {e : TypeId} {size : Nat} {v : Value} {n : Nat} {xs : List Value} (h : w.ownsRow base e size v n xs) (hb : Below w.heap.size w w') : w'.ownsRow base e size v n xs := by
  refine ⟨h.1, ?_⟩
  rcases h.2 with hn | ⟨g, cap, cur, rfl, hbg, hgg, rest⟩
  · exact .inl hn
  · exact .inr ⟨g, cap, cur, rfl, hbg, by rw [hb.block g (Array.getElem?_eq_some_iff.1 hgg).1]; exact hgg, rest⟩

/-- The levels that a module was given: in block g. -/
def NewLv (w : World) (g n : Nat) (svn : Nat → Int) : Prop :=
  ∀ j, j < n → w.cell? ⟨g, j * 3, none⟩ = some (.int .u16 (svn j)) ∧ (∃ s, w.cell? ⟨g, j * 3 + 1, none⟩ = some (.string s)) ∧ ∃ a n c, w.cell? ⟨g, j * 3 + 2, none⟩ = some (.slice a n c)
theorem NewLv.below {w w' : World} {g n : Nat} {svn : Nat → Int} {B : Nat} (h : NewLv w g n svn) (hb : Below B w w') (hg : g < B) : NewLv w' g n svn := fun j hj => by
  obtain ⟨h1, ⟨s, h2⟩, a, k, c, h3⟩ := h j hj
  exact ⟨(hb.cell (p := ⟨g, j * 3, none⟩) hg).trans h1, ⟨s, (hb.cell (p := ⟨g, j * 3 + 1, none⟩) hg).trans h2⟩, a, k, c, (hb.cell (p := ⟨g, j * 3 + 2, none⟩) hg).trans h3⟩
theorem newLv_of {w : World} {base g n cap : Nat} {xs : List Value} {svn : Nat → Int} (h : w.ownsRow base 76 3 (.slice (some ⟨g, 0, none⟩) n cap) n xs) (hX : LvX xs n svn) : NewLv w g n svn := fun j hj => by
  obtain ⟨h1, ⟨s, h2⟩, a, k, c, h3⟩ := hX j hj
  exact ⟨by rw [h.cellAt _ (by omega)]; exact h1, ⟨s, by rw [h.cellAt _ (by omega)]; exact h2⟩, a, k, c, by rw [h.cellAt _ (by omega)]; exact h3⟩
/-- The module with its levels in block g. -/
def ModV.with (m : ModV) (g cap : Nat) : ModV := { id := m.id, sig := m.sig, att := m.att, msk := m.msk, la := some ⟨g, 0, none⟩, ln := m.ln, lc := cap }
theorem ModV.with_ok {m : ModV} (h : m.ok) (g cap : Nat) : (m.with g cap).ok := h

theorem Tryf.info76 : (Tryf.prog.info? 76).map (fun i => (i.zero, i.size, i.bytes)) = some (some (.agg #[.int .u16 0, .string ByteArray.empty, .slice none 0 0]), 3, 48) := by kernel_rfl

set_option maxRecDepth 100000 in
set_option maxHeartbeats 4000000 in
theorem buildModule_core (mc : Array Value) (m : ModV) (svn : Nat → Int) (w : World) (hm : m.ok) (hmc : mc = m.cells.toArray) (hl : LvAt w m.la m.ln svn) :
    Calls Tryf.prog 8 #[.agg mc] w fun e w' => ∃ (g cap : Nat), e = .returned (.agg (m.with g cap).cells.toArray) ∧ NewLv w' g m.ln svn ∧ w.heap.size ≤ g ∧ g < w'.heap.size ∧ Below w.heap.size w w' := by
  obtain ⟨i0, hi0, hz0, hz1, hz2⟩ := info_parts Tryf.info76
  have e65 : mc[65]? = some (.slice m.la m.ln m.lc) := by rw [hmc]; simpa [ModV.lv] using ModV.at65 hm
  have hl1 := hl.1
  have HL := hid hl
  have HC := hid hmc
  have hb1 : i0.bytes * m.ln ≤ 281474976710656 := by rw [hz2]; omega
  have hm1 : m.ln ≤ maxLen := by unfold maxLen; omega
  generalize hla : m.la = la at e65 HL
  generalize hln : m.ln = ln at e65 HL hl1 hb1 hm1
  generalize hlc : m.lc = lc at e65
  have HX := hid (And.intro hla (And.intro hln hlc))
  have HM := hid hm
  clear hla hln hlc hl hmc hm
  go_enter Tryf.func8, Tryf.ntmps8
  go_wp2_with (first
    | (refine wpList_alloc_z rfl 42 rfl 66 Tryf.zero42 ?_; intro Z hZ)
    | (at_make; refine wpList_make_own _ rfl _ _ 40 rfl (w.heap.size + 2) 76 i0 _ 3 Tryf.underlying40 hi0 hz0 hz1 .i64 .i64 _ ln rfl rfl rfl hb1 hm1 (by simp) ?_; intro w1 hown hgrow))
  have W2b : Below w.heap.size w ((w.alloc (.cells mc 31)).alloc (.cells Z 42)) := ((Below.refl _ _).alloc (Nat.le_refl _) _).alloc (by simp) _
  have W2s : ((w.alloc (.cells mc 31)).alloc (.cells Z 42)).heap.size = w.heap.size + 2 := by simp
  have W2c : ((w.alloc (.cells mc 31)).alloc (.cells Z 42)).cell? ⟨w.heap.size, 65, none⟩ = some (.slice la ln lc) := by
    rw [World.cell?_alloc_past _ _ _ (by simp), World.cell?_alloc_at _ _ _ _ rfl]; exact e65
  have hB : Below (w.heap.size + 2) ((w.alloc (.cells mc 31)).alloc (.cells Z 42)) w1 := (Below.refl _ _).grown hgrow (by omega) (fun k h => by cases h)
  have HL2 := hid (HL.out.below W2b)
  have HW0 : Hid (w.heap.size + 2 = w.heap.size + 1 + 1) := rfl
  generalize hW2 : (w.alloc (.cells mc 31)).alloc (.cells Z 42) = W2 at W2b W2s W2c hB HL2
  have HW2 := hid hW2
  clear hW2 hgrow
  go_loopw [3, 4] (fun ls i wr => ∃ (j g cap : Nat) (xs : List Value), j ≤ ln ∧ i = .int .i64 j ∧ ls = .slice (some ⟨g, 0, none⟩) j cap ∧ wr.ownsRow (w.heap.size + 2) 76 3 (.slice (some ⟨g, 0, none⟩) j cap) j xs ∧ LvX xs j svn ∧ Below (w.heap.size + 2) W2 wr)
    (fun _ i _ => ln - (intOf i).toNat)
  case atStart => exact ⟨0, w.heap.size + 1 + 1, ln, [], Nat.zero_le _, rfl, rfl, by simpa using hown, fun i hi => by omega, hB⟩
  case round =>
    obtain ⟨j, g, cap, xs, hj, rfl, rfl, hownr, hX, hBr⟩ := hrel
    have hc65 : wr.cell? ⟨w.heap.size, 65, none⟩ = some (.slice la ln lc) := (hBr.cell (p := ⟨w.heap.size, 65, none⟩) (by simp)).trans W2c
    by_cases hlt : j < ln
    · obtain ⟨b, off, st, adv, na, ca, rfl, hbw, c0, _, _, c1, hst, c2, hS⟩ := HL2.out.2 j hlt
      have hbw2 : b < w.heap.size + 2 := by omega
      have k0 := (hBr.cell (p := ⟨b, off + j * 3, none⟩) hbw2).trans c0
      have k1 := (hBr.cell (p := ⟨b, off + j * 3 + 1, none⟩) hbw2).trans c1
      have k2 := (hBr.cell (p := ⟨b, off + j * 3 + 2, none⟩) hbw2).trans c2
      have hBr' : Below W2.heap.size W2 wr := by rw [W2s]; exact hBr
      have HS := hid (hS.below hBr')
      have hsz : w.heap.size + 2 ≤ wr.heap.size := by rw [← W2s]; exact hBr.size
      have j0 : (0 : Int) ≤ (j : Int) := Int.natCast_nonneg _
      have j1 : (j : Int) < (ln : Int) := by omega
      have hg2 : w.heap.size + 2 ≤ g := (hownr.lt g rfl).1
      have HO := hid hownr
      have HXX := hid hX
      have hB2 := hid hBr
      clear c0 c1 c2 hS hBr hBr' hownr hX hB hown W2c HL2
      go_wp2_with fail
      go_region_held3 (fun w' => w'.cell? ⟨w.heap.size, 65, none⟩ = some (.slice (some ⟨b, off, none⟩) ln lc) ∧ w'.cell? ⟨b, off + j * 3, none⟩ = some (.int .u16 (svn j)) ∧
          w'.cell? ⟨b, off + j * 3 + 1, none⟩ = some (.string st) ∧ w'.cell? ⟨b, off + j * 3 + 2, none⟩ = some (.slice adv na ca))
        (first
          | go_keep
          | (go_split_ands; refine ⟨?_, ?_, ?_, ?_⟩ <;> (rw [hb2'.cell (by simp; omega)]; assumption))
          | (go_split_ands; refine ⟨?_, ?_, ?_, ?_⟩ <;> (rw [hb1'.cell (by simp; omega)]; assumption))
          | (go_split_ands; refine ⟨?_, ?_, ?_, ?_⟩ <;> (rw [hgrow'.cell_far _ (by simp; omega) (by simp [Value.ownBlock]; omega)]; assumption)))
        (first
          | (go_at_call 17; refine (clone_any adv na ca _ (by exact HS.out.below ((Below.refl _ _).drew))).mono ?_; rintro e w2 ⟨⟨a', n', c', rfl⟩, hb1'⟩; have s2 : w.heap.size + 2 ≤ w2.heap.size := by (have t := hb1'.size; simp at t; omega))
          | (go_at_call 16; refine (isvLevel_any _ _ _ _ _ _).mono ?_; rintro e w3 ⟨rfl, hb2'⟩; have s3 : w.heap.size + 2 ≤ w3.heap.size := by (have t := hb2'.size; omega))
          | (refine step_append_lies _ (by rfl) _ _ _ (by rfl) (w.heap.size + 2) 76 i0 _ 3 48 Tryf.underlying40 hi0 hz0 hz1 hz2 rfl (by omega) _ j xs (by rfl) ((ownsRow_below HO.out (((Below.refl _ _).drew.trans hb1').trans (hb2'.mono hb1'.size))).alloc _)
              ⟨w3.heap.size, 0, none⟩ 1 1 [.int .u16 (svn j), .string st, .slice a' n' c'] (by rfl) (by rfl) (World.news_of_block (cs := #[.int .u16 (svn j), .string st, .slice a' n' c']) (t := 76) (fr := (0, 0)) (heap_alloc_new w3 _)) (by simp [Value.oneCell'])
              (by omega) (by unfold maxLen; omega) (by omega) (by simp; omega) (w3.heap.size + 1) (by simp) ?_; intro gg cap' w4 hown4 hgrow' hat hlt4))
      go_wp2
      go_roundw
      case rel =>
        refine ⟨j + 1, gg, cap', xs ++ [.int .u16 (svn j), .string st, .slice a' n' c'], by omega, by go_num, rfl, hown4, HXX.out.snoc HO.out.1 st a' n' c', ?_⟩
        have t1 : Below (w.heap.size + 2) W2 (w3.alloc (.cells #[.int .u16 (svn j), .string st, .slice a' n' c'] 76)) :=
          (((hB2.out.drew.trans (hb1'.mono (by simpa using hsz))).trans (hb2'.mono s2))).alloc s3 _
        exact t1.grown hgrow' (by simp; omega) (fun k h => by simp [Value.ownBlock] at h; omega)
      case measure => simp [intOf]; omega
    · have hje : ln = j := by omega
      subst hje
      obtain ⟨x1, x2, x3⟩ := HX.out
      have hok := HM.out
      have b0 : W2.heap[w.heap.size]? = some (.cells mc 31 (0, 0)) := by
        rw [← HW2.out, Below.heap_alloc _ _ _ (by simp), heap_alloc_new]
      have b1 : W2.heap[w.heap.size + 1]? = some (.cells Z 42 (0, 0)) := by
        rw [← HW2.out, ← size_alloc w (.cells mc 31), heap_alloc_new]
      have r0 : wr.heap[w.heap.size]? = some (.cells mc 31 (0, 0)) := by rw [hBr.block _ (by omega)]; exact b0
      have r1 : wr.heap[w.heap.size + 1]? = some (.cells Z 42 (0, 0)) := by rw [hBr.block _ (by omega)]; exact b1
      have hrg : wr.rangeAt w.heap.size 0 m.cells := fun q v hv => by
        rw [cell_of_row wr w.heap.size _ mc 31 (0, 0) r0, HC.out]; simpa using hv
      have q0 : wr.cell? ⟨w.heap.size, 0, none⟩ = some (.string m.id) := ModV.id_at hrg
      have q1 := hid (ModV.sig_at hrg)
      have q2 := hid (ModV.att_at hok hrg)
      have q3 := hid (ModV.msk_at hok hrg)
      have z23 : (Tryf.prog.info? 23).map (·.size) = some (B8 m.sig).length := by rw [B8_length, hok.2.1.1]; exact Tryf.size23
      have z24 : (Tryf.prog.info? 24).map (·.size) = some (B8 m.att).length := by rw [B8_length, hok.2.2.1.1]; exact Tryf.size24
      have z24' : (Tryf.prog.info? 24).map (·.size) = some (B8 m.msk).length := by rw [B8_length, hok.2.2.2.1]; exact Tryf.size24
      have HR1 := hid r1
      have hsz : w.heap.size + 2 ≤ wr.heap.size := by rw [← W2s]; exact hBr.size
      have hm' := hid (ModV.with_ok hok g cap)
      have hz42 : Z.size = (m.with g cap).cells.toArray.size := by rw [hZ, List.size_toArray, ModV.length (ModV.with_ok hok g cap)]
      have z42 : (Tryf.prog.info? 42).map (·.size) = some (m.with g cap).cells.toArray.size := by rw [List.size_toArray]; exact size42_of (ModV.with_ok hok g cap)
      have glt := hownr.lt g rfl
      have HN := hid (newLv_of hownr hX)
      have HBr := hid hBr
      have Hx2 := hid x2
      have CON : Hid (Calls Tryf.prog 18 #[.string m.id, .agg (B8 m.sig).toArray, .agg (B8 m.att).toArray, .agg (B8 m.msk).toArray, .slice (some ⟨g, 0, none⟩) ln cap] wr
          fun e w' => e = .returned (.agg (m.with g cap).cells.toArray) ∧ Below wr.heap.size wr w') := by
        have t := newModule_any (m.with g cap) (ModV.with_ok hok g cap) wr
        rw [show (m.with g cap).ln = ln from x2] at t
        exact t
      clear r0 r1 b0 b1 hrg x1 x2 x3 hok hownr hX hBr hB hown W2c HL2
      go_wp2_with (first
        | (refine wpList_load_mid rfl 23 (.tmp 41) rfl w.heap.size (0 + 1) rfl (B8 m.sig) _ (by exact q1.out) Tryf.underlying23 rfl z23 ?_)
        | (refine wpList_load_mid rfl 24 (.tmp 43) rfl w.heap.size (0 + 49) rfl (B8 m.att) _ (by exact q2.out) Tryf.underlying24 rfl z24 ?_)
        | (refine wpList_load_mid rfl 24 (.tmp 45) rfl w.heap.size (0 + 57) rfl (B8 m.msk) _ (by exact q3.out) Tryf.underlying24 rfl z24' ?_))
      refine CON.out.mono ?_
      rintro e w5 ⟨rfl, hb5⟩
      have r5 : w5.heap[w.heap.size + 1]? = some (.cells Z 42 (0, 0)) := by rw [hb5.block _ (by omega)]; exact HR1.out
      have HR5 := hid r5
      clear r5
      go_wp2_with (refine wpList_store_row rfl 42 (.tmp 2) (.tmp 48) rfl (w.heap.size + 1) (m.with g cap).cells.toArray Z 42 rfl rfl (by exact HR5.out) hz42 z42 (by simpa using ModV.one (m.with g cap)) ?_)
      have hbF : Below w.heap.size w w5 := (W2b.trans (HBr.out.mono (by omega))).trans (hb5.mono (by omega))
      refine bodyPost_ret (v := .agg (m.with g cap).cells.toArray) (results_cell_row rfl _ _ (w.heap.size + 1) 42 _ (0, 0) _ rfl (setRow_heap _ _ _ _ _ _ HR5.out) Tryf.underlying42 rfl z42) rfl ⟨g, cap, rfl, ?_, by omega, ?_, ?_⟩
      · have n1 : NewLv w5 g ln svn := HN.out.below hb5 glt.2
        intro j hj
        obtain ⟨h1, ⟨s, h2⟩, a, k, c, h3⟩ := n1 j hj
        have hne : g ≠ w.heap.size + 1 := by omega
        exact ⟨(cell_setRow_other w5 _ _ ⟨g, j * 3, none⟩ hne).trans h1, ⟨s, (cell_setRow_other w5 _ _ ⟨g, j * 3 + 1, none⟩ hne).trans h2⟩, a, k, c, (cell_setRow_other w5 _ _ ⟨g, j * 3 + 2, none⟩ hne).trans h3⟩
      · have := hb5.size
        simp
        omega
      · exact below_setRow hbF (by omega) _

theorem buildModule_any (m : ModV) (svn : Nat → Int) (w : World) (hm : m.ok) (hl : LvAt w m.la m.ln svn) :
    Calls Tryf.prog 8 #[.agg m.cells.toArray] w fun e w' => ∃ (g cap : Nat), e = .returned (.agg (m.with g cap).cells.toArray) ∧ NewLv w' g m.ln svn ∧ w.heap.size ≤ g ∧ g < w'.heap.size ∧ Below w.heap.size w w' :=
  buildModule_core _ m svn w hm rfl hl
end Go.Proofs.Qxb6609499aFmt
