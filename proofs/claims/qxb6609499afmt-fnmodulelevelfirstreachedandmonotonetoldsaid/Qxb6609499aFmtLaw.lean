/-
  The law (function 3), whole.
-/
import Derived.Test.Qxb6609499aFmtTailE
import Derived.Test.Qxb6609499aFmtTailF
import Derived.Test.Qxb6609499aFmtOpen
import Derived.Outline
import Derived.Deep.DeepCutAuto
import Derived.Deep.Cut
namespace Go.Proofs.Qxb6609499aFmt
open Go.RowKit Go.Extern.Stop Go.Stop Go.Extern
theorem Tryf.zero28 : (Tryf.prog.info? 28).map (fun i => i.zero.map (fun z => z.cells.size)) = some (some 584) := by kernel_rfl

theorem heap_two (w : World) (o o' : Obj) : ((w.alloc o).alloc o').heap[w.heap.size + 1]? = some o' := by
  have e : ((w.alloc o).alloc o').heap = (w.heap.push o).push o' := rfl
  rw [e, Array.getElem?_push, if_pos (by simp)]
theorem RepAt.r0 {C : List Value} {svn sig att : List Int} (h : RepAt C svn sig att) {w : World} {b : Nat} (hr : w.rangeAt b 0 C) : w.rangeAt b 0 (B8 svn) := fun j v hv => by
  have := hr j v (h.2.2.2.2.1 j v hv); simpa using this
theorem RepAt.r64 {C : List Value} {svn sig att : List Int} (h : RepAt C svn sig att) {w : World} {b : Nat} (hr : w.rangeAt b 0 C) : w.rangeAt b 64 (B8 sig) := fun j v hv => by
  have := hr (64 + j) v (h.2.2.2.2.2.1 j v hv); simpa using this
theorem RepAt.r112 {C : List Value} {svn sig att : List Int} (h : RepAt C svn sig att) {w : World} {b : Nat} (hr : w.rangeAt b 0 C) : w.rangeAt b 112 (B8 att) := fun j v hv => by
  have := hr (112 + j) v (h.2.2.2.2.2.2 j v hv); simpa using this

theorem MlRes.shape {base : ModV} {n : Nat} {ms : Nat → ModV} {gs : Nat → Nat} {svns : Nat → Nat → Int} {x0 x1 : Int} {sig att : List Int} {e : Ending} (h : MlRes base n ms gs svns x0 x1 sig att e) : ∃ p q, e = .returned (.tuple #[p, q]) := by
  rcases h with ⟨_, _, _, _, _, _, _, rfl⟩ | ⟨_, _, _, _, _, _, _, _, _, _, _, rfl⟩ | ⟨⟨_, _, rfl⟩, _⟩
  · exact ⟨_, _, rfl⟩
  · exact ⟨_, _, rfl⟩
  · exact ⟨_, _, rfl⟩
theorem RepAt.set {C : List Value} {svn sig att : List Int} (h : RepAt C svn sig att) (x : Int) (hx : 0 ≤ x ∧ x ≤ 255) : RepAt (C.set 0 (.int .u8 x)) (svn.set 0 x) sig att := by
  obtain ⟨h1, h2, h3, h4, h5, h6, h7⟩ := h
  refine ⟨by simpa using h1, ⟨by simpa using h2.1, fun z hz => ?_⟩, h3, h4, fun j v hv => ?_, fun j v hv => ?_, fun j v hv => ?_⟩
  · rcases List.mem_or_eq_of_mem_set hz with hz | rfl
    · exact h2.2 z hz
    · exact hx
  · by_cases hj : j = 0
    · subst hj
      simp [B8, h2.1] at hv
      simp [h1, hv]
    · rw [List.getElem?_set_ne (by omega)]
      refine h5 j v ?_
      simp only [B8, List.getElem?_map] at hv ⊢
      rwa [List.getElem?_set_ne (by omega)] at hv
  · rw [List.getElem?_set_ne (by omega)]; exact h6 j v hv
  · rw [List.getElem?_set_ne (by omega)]; exact h7 j v hv
theorem ModsAt.of_built {w0 w : World} {a : Option Addr} {M n : Nat} {ms : Nat → ModV} {gs caps : Nat → Nat} {svns : Nat → Nat → Int} (hi : IdsAt w0 a n ms svns)
    (hg : ∀ i, i < n → w.rangeAt M (i * 66) ((ms i).with (gs i) (caps i)).cells ∧ NewLv w (gs i) (ms i).ln (svns i) ∧ M < gs i ∧ gs i < w.heap.size) :
    ModsAt w M n (fun i => (ms i).with (gs i) (caps i)) gs svns := fun i hin => by
  obtain ⟨_, _, _, _, hok, _, hlv⟩ := hi.2 i hin
  obtain ⟨h1, h2, _, h4⟩ := hg i hin
  exact ⟨hok, h1, rfl, by have := hlv.1; show (ms i).ln ≤ _; omega, h2, h4⟩

theorem outcome {base : ModV} {n : Nat} {ms : Nat → ModV} {gs : Nat → Nat} {svns : Nat → Nat → Int} {x0 h x1 : Int} {sig att : List Int} {p1 q1 p2 q2 : Value}
    (h1 : MlRes base n ms gs svns x0 x1 sig att (.returned (.tuple #[p1, q1]))) (h2 : MlRes base n ms gs svns h x1 sig att (.returned (.tuple #[p2, q2]))) (hx : x0 ≤ h) :
    (x1 = 0 ∧ p1 = .pointer none ∧ ((q1 = .nilIface ∧ sig = base.sig ∧ meq att base.att base.msk 8 = true) ∨ ((∃ t v, q1 = .iface t v) ∧ (sig ≠ base.sig ∨ meq att base.att base.msk 8 = false)))) ∨
    (x1 ≠ 0 ∧ p1 = .pointer none ∧ ∃ t v, q1 = .iface t v) ∨
    (x1 ≠ 0 ∧ ∃ i j j2 : Nat, i < n ∧ (ms i).id.data.toList = tdxName x1 ∧ (∀ k, k < i → (ms k).id.data.toList ≠ tdxName x1) ∧ sig = (ms i).sig ∧ meq att (ms i).att (ms i).msk 8 = true ∧ j < (ms i).ln ∧
      svns i j ≤ x0 ∧ (∀ k, k < j → x0 < svns i k) ∧ j2 ≤ j ∧ p1 = .pointer (some ⟨gs i, j * 3 + 1, none⟩) ∧ q1 = .nilIface ∧ p2 = .pointer (some ⟨gs i, j2 * 3 + 1, none⟩) ∧ q2 = .nilIface) := by
  rcases h1 with ⟨m, g, sv, hs, hx1, ha, hq, he⟩ | ⟨m, g, sv, hs, hx1, ha, hq, j, hj, hj1, hj2, he⟩ | ⟨⟨t, v, he⟩, hn⟩
  · simp at he
    obtain ⟨rfl, rfl⟩ := he
    rcases hs with ⟨_, rfl⟩ | ⟨h0, _⟩
    · exact .inl ⟨hx1, rfl, .inl ⟨rfl, ha, hq⟩⟩
    · exact absurd hx1 h0
  · simp at he
    obtain ⟨rfl, rfl⟩ := he
    rcases hs with ⟨h0, _⟩ | ⟨_, i, hi, hid1, hid2, rfl, rfl, rfl⟩
    · exact absurd h0 hx1
    refine .inr (.inr ⟨hx1, i, j, ?_⟩)
    have same : ∀ {m g sv}, Sel base n ms gs svns x1 m g sv → m = ms i ∧ g = gs i ∧ sv = svns i := fun {m g sv} hs => by
      rcases hs with ⟨h0, _⟩ | ⟨_, i', hi', hid1', hid2', rfl, rfl, rfl⟩
      · exact absurd h0 hx1
      · have : i' = i := by
          rcases Nat.lt_trichotomy i' i with hl | hl | hl
          · exact absurd hid1' (hid2 i' hl)
          · exact hl
          · exact absurd hid1 (hid2' i hl)
        subst this; exact ⟨rfl, rfl, rfl⟩
    rcases h2 with ⟨m, g, sv, hs, h0, _⟩ | ⟨m, g, sv, hs, _, _, _, j2, hk, hk1, hk2, he⟩ | ⟨⟨t, v, he⟩, hn⟩
    · exact absurd h0 hx1
    · simp at he
      obtain ⟨rfl, rfl⟩ := he
      obtain ⟨rfl, rfl, rfl⟩ := same hs
      refine ⟨j2, hi, hid1, hid2, ha, hq, hj, hj1, hj2, ?_, rfl, rfl, rfl, rfl⟩
      rcases Nat.lt_or_ge j j2 with hl | hl
      · have := hk2 j hl; omega
      · exact hl
    · exfalso
      rcases hn with ⟨_, hno⟩ | ⟨m, g, sv, hs, hn⟩
      · exact hno i hi hid1
      · obtain ⟨rfl, rfl, rfl⟩ := same hs
        rcases hn with hn | hn | ⟨_, hn⟩
        · exact hn ha
        · rw [hq] at hn; cases hn
        · have := hn j hj; omega
  · simp at he
    obtain ⟨rfl, rfl⟩ := he
    by_cases hx1 : x1 = 0
    · refine .inl ⟨hx1, rfl, .inr ⟨⟨t, v, rfl⟩, ?_⟩⟩
      rcases hn with ⟨h0, _⟩ | ⟨m, g, sv, hs, hn⟩
      · exact absurd hx1 h0
      · rcases hs with ⟨_, rfl⟩ | ⟨h0, _⟩
        · rcases hn with hn | hn | ⟨h0, _⟩
          · exact .inl hn
          · exact .inr hn
          · exact absurd hx1 h0
        · exact absurd hx1 h0
    · exact .inr (.inl ⟨hx1, rfl, t, v, rfl⟩)
set_option maxRecDepth 100000 in
set_option maxHeartbeats 4000000 in
theorem law_any (F : Interp) (C : List Value) (svn sig att : List Int) (base : ModV) (bsvn : Nat → Int) (a : Option Addr) (n c : Nat) (ms : Nat → ModV) (svns : Nat → Nat → Int) (h : Int) (w : World) (hF : F.told.answers w.tape)
    (hC : RepAt C svn sig att) (h1 : ∀ v ∈ C, v.oneCell' = true) (hb : base.ok) (hl : LvAt w base.la base.ln bsvn) (hi : IdsAt w a n ms svns) (hh : 0 ≤ h ∧ h ≤ 255) :
    Calls Tryf.prog 3 #[.agg C.toArray, .agg base.cells.toArray, .slice a n c, .int .u8 h] w fun e w' => e = .returned (.bool true) ∧ Below w.heap.size w w' := by
  have Z28 : (Tryf.prog.info? 28).map (·.size) = some C.length := by rw [hC.1]; exact Tryf.size28
  have Z31 := size31_of hb
  obtain ⟨W2, hW2⟩ : ∃ W2, W2 = (w.alloc (.cells C.toArray 28)).alloc (.cells base.cells.toArray 31) := ⟨_, rfl⟩
  have b2 : Below w.heap.size w W2 := by rw [hW2]; exact ((Below.refl _ _).alloc (Nat.le_refl _) _).alloc (by simp) _
  have s2 : W2.heap.size = w.heap.size + 2 := by rw [hW2]; simp
  have RC : Hid (W2.rangeAt w.heap.size 0 C) := fun j v hv => by
    rw [hW2, World.cell?_alloc_past _ _ _ (by simp), World.cell?_alloc_at _ _ _ _ rfl]; simpa using hv
  have RB : Hid (W2.rangeAt (w.heap.size + 1) 0 base.cells) := fun j v hv => by
    rw [hW2, World.cell?_alloc_at _ _ _ _ (by simp)]; simpa using hv
  have HI := hid (hi.below b2)
  have HL := hid (hl.below b2)
  have HF := hid hF
  have HC := hid hC
  have H1 := hid h1
  have HB := hid hb
  clear hi hl hF hC h1 hb
  go_enter Tryf.func3, Tryf.ntmps3
  go_wp2_with (first
    | (rw [← hW2]; clear hW2; refine wpList_load_mid rfl 28 (.tmp 4) rfl w.heap.size 0 rfl C _ (by exact RC.out) Tryf.underlying28 rfl Z28 ?_)
    | (refine wpList_load_mid rfl 31 (.tmp 5) rfl (w.heap.size + 1) 0 rfl base.cells _ (by exact RB.out) Tryf.underlying31 rfl Z31 ?_))
  refine (bytes_any C.toArray base bsvn a n c ms svns h W2 HB.out HL.out HI.out).mono ?_
  rintro e w3 ⟨⟨r, rfl⟩, b3⟩
  cases r
  · go_wp2
    go_ret
    exact ⟨rfl, b2.trans (b3.mono b2.size)⟩
  go_wp2_with (first
    | (refine wpList_load_mid rfl 31 (.tmp 5) rfl (w.heap.size + 1) 0 rfl base.cells _ (by exact rangeAt_below RB.out b3 (by rw [s2]; omega)) Tryf.underlying31 rfl Z31 ?_))
  refine (infoBytes_any base bsvn a n c ms svns _ HB.out (HL.out.below b3) (HI.out.below b3)).mono ?_
  rintro e w4 ⟨r, rfl, b4'⟩
  have b4 : Below W2.heap.size W2 w4 := b3.trans (b4'.mono b3.size)
  clear b4' b3
  by_cases g1 : 1048576 < r
  · go_wp2
    go_ret
    exact ⟨rfl, b2.trans (b4.mono b2.size)⟩
  obtain ⟨x0, hx0⟩ : ∃ x0, x0 = svn.getD 0 0 := ⟨_, rfl⟩
  obtain ⟨x1, hx1⟩ : ∃ x1, x1 = svn.getD 1 0 := ⟨_, rfl⟩
  have x0b : 0 ≤ x0 ∧ x0 ≤ 255 := by rw [hx0]; exact HC.out.2.1.get 0 (by omega)
  have x1b : 0 ≤ x1 ∧ x1 ≤ 255 := by rw [hx1]; exact HC.out.2.1.get 1 (by omega)
  have hx0c : Hid (W2.cell? ⟨w.heap.size, 0, none⟩ = some (.int .u8 x0)) := by
    have := HC.out.r0 RC.out 0 _ (B8_get svn 0 (by rw [HC.out.2.1.1]; omega)); rw [hx0]; exact this
  have hx1c : Hid (W2.cell? ⟨w.heap.size, 1, none⟩ = some (.int .u8 x1)) := by
    have := HC.out.r0 RC.out 1 _ (B8_get svn 1 (by rw [HC.out.2.1.1]; omega)); rw [hx1]; exact this
  have c0 := (b4.cell (p := ⟨w.heap.size, 0, none⟩) (by rw [s2]; show w.heap.size < _; omega)).trans hx0c.out
  have HX0 := hid hx0
  have HX1 := hid hx1
  clear hx0 hx1
  by_cases g2 : h < x0
  · go_wp2
    go_ret
    exact ⟨rfl, b2.trans (b4.mono b2.size)⟩
  go_wp2_with fail
  refine (buildModules_any a n c ms svns w4 (HI.out.below b4)).mono ?_
  rintro e w5 ⟨gs, caps, rfl, hg, hM5, b5'⟩
  have b5 : Below W2.heap.size W2 w5 := b4.trans (b5'.mono b4.size)
  have HG := hid hg
  clear c0 hg b5'
  have hM4 : W2.heap.size ≤ w4.heap.size := b4.size
  generalize w4.heap.size = M at HG hM5 hM4
  clear b4
  go_wp2_with (first
    | (refine wpList_load_mid rfl 31 (.tmp 5) rfl (w.heap.size + 1) 0 rfl base.cells _ (by exact rangeAt_below RB.out b5 (by rw [s2]; omega)) Tryf.underlying31 rfl Z31 ?_))
  refine (buildModule_any base bsvn w5 HB.out (HL.out.below b5)).mono ?_
  rintro e w6 ⟨g0, cap0, rfl, _, _, _, b6'⟩
  have b6 : Below W2.heap.size W2 w6 := b5.trans (b6'.mono b5.size)
  have MS6 := hid ((ModsAt.of_built HI.out HG.out).below hM5 b6')
  have hM6 : M < w6.heap.size := Nat.lt_of_lt_of_le hM5 b6'.size
  clear HG b6' b5 hM5
  go_wp2_with fail
  refine (newTCB_any (base.with g0 cap0) (ModV.with_ok HB.out g0 cap0) (some ⟨M, 0, none⟩) n n w6).mono ?_
  rintro e w7 ⟨A, rfl, rT', rI', hw7⟩
  have b7' : Below w6.heap.size w6 w7 := by rw [hw7]; exact ((Below.refl _ _).alloc (Nat.le_refl _) _).alloc (by simp) _
  have s7 : w6.heap.size + 1 < w7.heap.size := by rw [hw7]; simp
  have RT := hid rT'
  have RI := hid rI'
  have MS7 := hid (MS6.out.below hM6 b7')
  have hM7 : M < w7.heap.size := Nat.lt_of_lt_of_le hM6 b7'.size
  have b7 : Below W2.heap.size W2 w7 := b6.trans (b7'.mono b6.size)
  clear rT' rI' hw7 MS6 b7' b6
  generalize w6.heap.size + 1 = T at RT RI s7
  have RC7 := hid (rangeAt_below RC.out b7 (by rw [s2]; omega))
  go_wp2_with (first
    | (refine wpList_load_mid rfl 28 (.tmp 4) rfl w.heap.size 0 rfl C _ (by exact RC7.out) Tryf.underlying28 rfl Z28 ?_))
  refine (report_any C.toArray (by rw [List.size_toArray]; exact HC.out.1) w7).mono ?_
  rintro e w8 ⟨rfl, hw8⟩
  have b8' : Below w7.heap.size w7 w8 := by rw [hw8]; exact ((Below.refl _ _).alloc (Nat.le_refl _) _).alloc (by simp) _
  have RR : Hid (w8.rangeAt (w7.heap.size + 1) 0 C) := fun j v hv => by
    rw [hw8, World.cell?_alloc_at _ _ _ _ (by simp)]; simpa using hv
  have s8 : w7.heap.size + 1 < w8.heap.size := by rw [hw8]; simp
  have b8 : Below W2.heap.size W2 w8 := b7.trans (b8'.mono b7.size)
  have MS8 := hid (MS7.out.below hM7 b8')
  have RT8 := hid (rangeAt_below RT.out b8' s7)
  have RI8 := hid ((b8'.cell (p := ⟨T, 82, none⟩) s7).trans RI.out)
  have HF8 : Hid (F.told.answers w8.tape) := by rw [Hid, b8.tape, b2.tape]; exact HF.out
  have hM8 : M < w8.heap.size := Nat.lt_of_lt_of_le hM7 b8'.size
  have hT8 : T < w8.heap.size := Nat.lt_of_lt_of_le s7 b8'.size
  have hn : n ≤ 9223372036854775806 := by have := HI.out.1; omega
  clear hw8 b8' RT RI MS7 hM7 RC7 b7 s7
  generalize w7.heap.size + 1 = R1 at RR s8
  go_wp2_with fail
  refine (zzlevel_any F T R1 M n n (base.with g0 cap0) _ gs svns svn sig att w8 HF8.out (ModV.with_ok HB.out g0 cap0) HC.out.2.1 HC.out.2.2.1 HC.out.2.2.2.1 hn RT8.out RI8.out (HC.out.r0 RR.out) (HC.out.r64 RR.out) (HC.out.r112 RR.out) hT8 s8 hM8 MS8.out).mono ?_
  rintro e w9 ⟨hr1, b9'⟩
  obtain ⟨p1, q1, rfl⟩ := hr1.shape
  have RES1 := hid hr1
  have b9 : Below W2.heap.size W2 w9 := b8.trans (b9'.mono b8.size)
  have MS9 := hid (MS8.out.below hM8 b9')
  have RT9 := hid (rangeAt_below RT8.out b9' hT8)
  have RI9 := hid ((b9'.cell (p := ⟨T, 82, none⟩) hT8).trans RI8.out)
  have hM9 : M < w9.heap.size := Nat.lt_of_lt_of_le hM8 b9'.size
  have hT9 : T < w9.heap.size := Nat.lt_of_lt_of_le hT8 b9'.size
  clear hr1 RR s8 HF8 MS8 RT8 RI8 hT8 hM8 b8 b9'
  have RC9 := hid (rangeAt_below RC.out b9 (by rw [s2]; omega))
  have e00 : C.toArray[0]? = some (.int .u8 x0) := by
    have := HC.out.2.2.2.2.1 0 _ (B8_get svn 0 (by rw [HC.out.2.1.1]; omega)); rw [HX0.out]; simpa using this
  go_upto_region 12 with (first
    | (refine wpList_load_mid rfl 28 (.tmp 4) rfl w.heap.size 0 rfl C _ (by exact RC9.out) Tryf.underlying28 rfl Z28 ?_)
    | (refine wpList_alloc_z rfl 28 rfl 584 Tryf.zero28 ?_; intro Z hZ)
    | (refine wpList_store_new rfl 28 (.tmp 13) (.tmp 54) rfl w9 C.toArray Z 28 rfl rfl (by rw [hZ, List.size_toArray]; exact HC.out.1.symm) (by rw [List.size_toArray]; exact Z28) (by simpa using H1.out) ?_))
  have hr1 := RES1.out
  rw [← HX0.out, ← HX1.out] at hr1
  have HR1 := hid hr1
  clear hr1 RES1
  go_cut [14, 15] (fun p2 q2 wc => MlRes (base.with g0 cap0) n (fun i => (ms i).with (gs i) (caps i)) gs svns h x1 sig att (.returned (.tuple #[p2, q2])) ∧ Below W2.heap.size W2 wc ∧ ModsAt wc M n (fun i => (ms i).with (gs i) (caps i)) gs svns ∧ M < wc.heap.size)
  case first =>
    clear e00 RC9
    have HC2 := hid (HC.out.set h hh)
    have Y0 : Hid ((svn.set 0 h).getD 0 0 = h) := by
      have : 0 < svn.length := by rw [HC.out.2.1.1]; omega
      simp [Hid, List.getD, this]
    have Y1 : Hid ((svn.set 0 h).getD 1 0 = x1) := by
      have e : (svn.set 0 h)[1]? = svn[1]? := List.getElem?_set_ne (by omega)
      show ((svn.set 0 h)[1]?).getD 0 = x1
      rw [e, HX1.out]; rfl
    have sC2 : (C.set 0 (.int .u8 h)).length = 584 := by rw [List.length_set]; exact HC.out.1
    have Z28' : (Tryf.prog.info? 28).map (·.size) = some (C.set 0 (.int .u8 h)).length := by rw [sC2]; exact Tryf.size28
    generalize C.set 0 (.int .u8 h) = C2 at HC2 sC2 Z28' ⊢
    generalize svn.set 0 h = svn2 at HC2 Y0 Y1
    have RU : Hid ((w9.alloc (.cells C2.toArray 28)).rangeAt w9.heap.size 0 C2) := fun j v hv => by
      rw [World.cell?_alloc_at _ _ _ _ rfl]; simpa using hv
    have b10' : Below w9.heap.size w9 (w9.alloc (.cells C2.toArray 28)) := (Below.refl _ _).alloc (Nat.le_refl _) _
    generalize w9.alloc (.cells C2.toArray 28) = w10 at RU b10' ⊢
    go_wp2_with (first
      | (refine wpList_load_mid rfl 28 (.tmp 13) rfl w9.heap.size 0 rfl C2 _ (by exact RU.out) Tryf.underlying28 rfl Z28' ?_))
    refine (report_any C2.toArray (by rw [List.size_toArray]; exact sC2) w10).mono ?_
    rintro e w11 ⟨rfl, hw11⟩
    have b11' : Below w10.heap.size w10 w11 := by rw [hw11]; exact ((Below.refl _ _).alloc (Nat.le_refl _) _).alloc (by simp) _
    have RR : Hid (w11.rangeAt (w10.heap.size + 1) 0 C2) := fun j v hv => by
      rw [hw11, World.cell?_alloc_at _ _ _ _ (by simp)]; simpa using hv
    have s11 : w10.heap.size + 1 < w11.heap.size := by rw [hw11]; simp
    have b911 : Below w9.heap.size w9 w11 := b10'.trans (b11'.mono b10'.size)
    have b11 : Below W2.heap.size W2 w11 := b9.trans (b911.mono b9.size)
    have MS11 := hid (MS9.out.below hM9 b911)
    have RT11 := hid (rangeAt_below RT9.out b911 hT9)
    have RI11 := hid ((b911.cell (p := ⟨T, 82, none⟩) hT9).trans RI9.out)
    have HF11 : Hid (F.told.answers w11.tape) := by rw [Hid, b11.tape, b2.tape]; exact HF.out
    have hM11 : M < w11.heap.size := Nat.lt_of_lt_of_le hM9 b911.size
    have hT11 : T < w11.heap.size := Nat.lt_of_lt_of_le hT9 b911.size
    clear hw11 b11' b911 b10' RU RT9 RI9 MS9 hM9 hT9 b9 Z28' sC2
    generalize w10.heap.size + 1 = R2 at RR s11
    go_wp2_with fail
    refine (zzlevel_any F T R2 M n n (base.with g0 cap0) _ gs svns svn2 sig att w11 HF11.out (ModV.with_ok HB.out g0 cap0) HC2.out.2.1 HC2.out.2.2.1 HC2.out.2.2.2.1 hn RT11.out RI11.out (HC2.out.r0 RR.out) (HC2.out.r64 RR.out) (HC2.out.r112 RR.out) hT11 s11 hM11 MS11.out).mono ?_
    rintro e w12 ⟨hr2, b12'⟩
    rw [Y0.out, Y1.out] at hr2
    obtain ⟨p2, q2, rfl⟩ := hr2.shape
    have HR2 := hid hr2
    clear hr2
    have b12 : Below W2.heap.size W2 w12 := b11.trans (b12'.mono b11.size)
    have MS12 := hid (MS11.out.below hM11 b12')
    have hM12 : M < w12.heap.size := Nat.lt_of_lt_of_le hM11 b12'.size
    clear RR s11 HF11 MS11 RT11 RI11 hM11 hT11 b11 b12' Y0 Y1 HC2 HF HX0 HX1
    go_wp2
    go_meet
    exact ⟨HR2.out, b12, MS12.out, hM12⟩
  case rest =>
    obtain ⟨hr2, b12, hms12, hM12⟩ := hcut
    have hout := outcome HR1.out hr2 g2
    have RV := rangeAt_below (HC.out.r0 RC.out) b12 (by rw [s2]; omega)
    have RB12 := rangeAt_below RB.out b12 (by rw [s2]; omega)
    have h12 : W2.heap.size ≤ wc.heap.size := b12.size
    refine (‹∀ (a : Act) (w : World), Code.wp Tryf.prog _ _ a w → _›) _ _ ?_
    refine t13 w.heap.size (w.heap.size + 1) svn base wc HC.out.2.1 HB.out RV RB12 ?_
    intro t65 t66 t67 V U w14 hV hU hw14
    have bc14 : Below wc.heap.size wc w14 := by rw [hw14]; exact ((Below.refl _ _).alloc (Nat.le_refl _) _).alloc (by simp) _
    have B14 : Below W2.heap.size W2 w14 := b12.trans (bc14.mono b12.size)
    have hs14 : w14.heap.size = wc.heap.size + 2 := by rw [hw14]; simp
    have RV14 : w14.rangeAt V 0 (B8 svn) := fun j v hv => by
      rw [hw14, World.cell?_alloc_past _ _ _ (by rw [hV]; simp), World.cell?_alloc_at _ _ _ _ hV]; simpa using hv
    have V0 : w14.cell? ⟨V, 0, none⟩ = some (.int .u8 x0) := by
      have := RV14 0 _ (B8_get svn 0 (by rw [HC.out.2.1.1]; omega)); rw [HX0.out]; simpa using this
    have V1 : w14.cell? ⟨V, 1, none⟩ = some (.int .u8 x1) := by
      have := RV14 1 _ (B8_get svn 1 (by rw [HC.out.2.1.1]; omega)); rw [HX1.out]; simpa using this
    have hhp : w14.heap[U]? = some (.cells base.cells.toArray 31) := by
      rw [hw14, hU]; exact heap_two _ _ _
    have HIW := HI.out
    refine tail_all a n c w.heap.size M U V w.heap.size x0 x1 sig att base ms (fun i => (ms i).with (gs i) (caps i)) gs svns p1 q1 _ _ w w14 HC.out.2.2.1 HC.out.2.2.2.1 HB.out x0b x1b (HIW.below B14) (hms12.below hM12 bc14) (fun _ _ => rfl) V0 V1
      (rangeAt_below (HC.out.r64 RC.out) B14 (by rw [s2]; omega)) (rangeAt_below (HC.out.r112 RC.out) B14 (by rw [s2]; omega)) hhp (by omega) (by omega) (by omega) (fun hn0 b off hab => ?_) (fun i hin b off hab hpos => ?_) (by omega) (b2.trans (B14.mono b2.size)) (by omega) hout
    · obtain ⟨b', off', e, hlt, _⟩ := HIW.2 0 hn0
      rw [hab] at e
      simp only [Option.some.injEq, Addr.mk.injEq, and_true] at e
      obtain ⟨rfl, rfl⟩ := e
      omega
    · obtain ⟨_, _, _, _, _, _, hlv⟩ := HIW.2 i hin
      obtain ⟨b', off', _, _, _, _, e, hlt, _⟩ := hlv.2 0 hpos
      rw [hab] at e
      simp only [Option.some.injEq, Addr.mk.injEq, and_true] at e
      obtain ⟨rfl, rfl⟩ := e
      omega
end Go.Proofs.Qxb6609499aFmt
