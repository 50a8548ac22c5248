/-
  zzBuild: the store and the plan.
-/
import Derived.Test.Qxb6609540aGreatDoorPolFor
namespace Go.Proofs.Qxb6609540aGreatDoor
open Go.RowKit Go.ChangeMaps
set_option linter.unusedSimpArgs false
theorem Tryz.info60 : (Tryz.prog.info? 60).map (fun i => (i.zero, i.size, i.bytes)) = some (some (.pointer none), 1, 8) := by kernel_rfl
theorem nameAt_none {ML : List (ByteArray × Nat)} {s : ByteArray} (h : ∀ p ∈ ML, (p.1.toList == s.toList) = false) : nameAt ML s = none := by
  unfold nameAt
  rw [List.find?_eq_none.2 (fun p hp => ?_)]
  · rfl
  · intro hq
    have e : s = p.1 := (MapKept.bytes_beq _ _).1 hq
    have := h p hp
    rw [e] at this
    simp at this

theorem PlanIs.turn2 {B rm : Nat} {w w' : World} {v : Value} {PE : List (Nat × Value)} (h : PlanIs B rm w v PE) (hp : ∀ k, Plain w k → Plain w' k) (hm : ∀ (k : Nat) es clock, k ≠ rm → w.heap[k]? = some (Obj.map es clock) → w'.heap[k]? = w.heap[k]?) : PlanIs B rm w' v PE := by
  refine ⟨?_, fun p hq => hp _ (h.2 p hq)⟩
  rcases h.1 with h0 | ⟨r, h1, h2, h3, es, clock, h4, h5⟩
  · exact .inl h0
  · exact .inr ⟨r, h1, h2, h3, es, clock, by rw [hm r es clock h3 h4]; exact h4, h5⟩
theorem turned_other {w w' : World} {r k : Nat} (h : w.mapTurned w' r) (hk : k ≠ r) : w'.heap[k]? = w.heap[k]? := by
  obtain ⟨es, cl, es', cl', hb, rfl⟩ := h
  exact heap_setBlock_other hb _ hk
theorem turned_below {w w' : World} {r B : Nat} (h : w.mapTurned w' r) (hB : B ≤ r) : Below B w w' := by
  obtain ⟨es, cl, es', cl', hb, rfl⟩ := h
  exact ⟨rfl, rfl, rfl, by simp [setBlock], fun k hk => heap_setBlock_other hb _ (by omega)⟩
/-- What the building leaves. -/
def Built (B : Nat) (nx cr : Int) (D : List DbV) (w : World) (e : Ending) : Prop :=
  ∃ st pv rm ML PE, e = .returned (.tuple #[.pointer (some ⟨st, 0, none⟩), pv]) ∧ w.cell? ⟨st, 14, none⟩ = some (.map (some rm)) ∧ w.cell? ⟨st, 15, none⟩ = some (.int .i64 cr) ∧ w.cell? ⟨st, 17, none⟩ = some (.int .u64 nx) ∧
    NamesAt w rm ML ∧ PlanIs B rm w pv PE ∧ ML.length = D.length ∧ ∀ (k : Nat) d, D[k]? = some d → ∃ g, ML[k]? = some (d.name, g) ∧ DbP B w PE g d
set_option maxRecDepth 1000000 in
set_option maxHeartbeats 16000000 in
theorem build_any (nx cr : Int) (a : Option Addr) (c : Nat) (D : List DbV) (sa : Option Addr) (sc : Nat) (S : List SegV) (w : World) (hd : DbsAt w a D) (hs : SegsAt w sa S) (hap : Apart D D.length) :
    Calls Tryz.prog 9 #[.int .u64 nx, .int .i64 cr, .slice a D.length c, .slice sa S.length sc] w fun e w' => Built w.heap.size nx cr D w' e ∧ Below w.heap.size w w' := by
  have HD := hid hd
  have HS := hid hs
  have HA := hid hap
  have hl := hd.1
  clear hd hs hap
  have hmm := @run_makeMap Tryz.prog
  obtain ⟨i0, hi0, hz0, hs0, hy0⟩ := info_parts Tryz.info60
  go_enter Tryz.func9, Tryz.ntmps9
  go_wp2_with fail
  go_loopw [10, 12] (fun v10 v12 wr => ∃ (i : Nat) (PE : List (Nat × Value)) (ML : List (ByteArray × Nat)), i ≤ D.length ∧ v12 = .int .i64 i ∧ Hid (PlanIs w.heap.size w.heap.size wr v10 PE) ∧ Hid (NamesAt wr w.heap.size ML) ∧ ML.length = i ∧
      Hid (∀ (k : Nat) d, k < i → D[k]? = some d → ∃ g, ML[k]? = some (d.name, g) ∧ DbP (w.heap.size + 1) wr PE g d) ∧ Hid (Below w.heap.size w wr) ∧ w.heap.size < wr.heap.size) (fun _ v12 _ => D.length - (intOf v12).toNat)
  case atStart =>
    refine ⟨0, [], [], Nat.zero_le _, rfl, ⟨.inl ⟨rfl, rfl⟩, fun _ h => by cases h⟩, ⟨#[], heap_alloc_new _ _, rfl⟩, rfl, fun k d h => absurd h (Nat.not_lt_zero _), (Below.refl _ _).alloc (Nat.le_refl _) _, by simp⟩
  case round =>
    obtain ⟨i, PE, ML, hil, rfl, HP, HN, hml, HX, HB, hsz⟩ := hrel
    by_cases hlt : i < D.length
    · obtain ⟨d, hdi⟩ := get_of hlt
      obtain ⟨b, off, pa, pc, rfl, hbw, m0, m1, m2, m3, hPo, hn1, hn2, hn3⟩ := (HD.out.kept (Kept.of HB.out)).2 i d hdi
      have HJ := hid hdi
      have HI := hid (And.intro hn2 hn3)
      have HPo := hid hPo
      have hpl := hPo.1
      clear hdi hn3 hPo
      have hb1 : i0.bytes * d.pols.length ≤ 281474976710656 := by rw [hy0]; omega
      have hm1 : d.pols.length ≤ maxLen := by unfold maxLen; omega
      go_upto_region 6 with fail
      rename_i K6 h6
      have k6 := hid h6
      clear h6
      go_wp2_with fail
      refine k6.out _ _ ?_
      obtain ⟨w1, hw1⟩ : ∃ w1, w1 = wr.alloc (.cells #[.string d.name, .int .i64 d.ord, .string d.dp, .slice pa d.pols.length pc] 39) := ⟨_, rfl⟩
      have HB1 : Below wr.heap.size wr w1 := by rw [hw1]; exact (Below.refl _ _).alloc (Nat.le_refl _) _
      have q0 : w1.cell? ⟨wr.heap.size, 0, none⟩ = some (.string d.name) := by rw [hw1, World.cell?_alloc_at _ _ _ _ rfl]; rfl
      have q1 : w1.cell? ⟨wr.heap.size, 1, none⟩ = some (.int .i64 d.ord) := by rw [hw1, World.cell?_alloc_at _ _ _ _ rfl]; rfl
      have q2 : w1.cell? ⟨wr.heap.size, 2, none⟩ = some (.string d.dp) := by rw [hw1, World.cell?_alloc_at _ _ _ _ rfl]; rfl
      have q3 : w1.cell? ⟨wr.heap.size, 3, none⟩ = some (.slice pa d.pols.length pc) := by rw [hw1, World.cell?_alloc_at _ _ _ _ rfl]; rfl
      have z1 : wr.heap.size < w1.heap.size := by rw [hw1]; simp
      rw [← hw1]
      clear hw1 m0 m1 m2 m3
      have HPo1 := hid (HPo.out.kept (Kept.of HB1))
      refine wp_seq_k fun K7 h7 => ?_
      have k7 := hid h7
      clear h7
      go_wp2_with fail
      refine k7.out _ _ ?_
      refine wp_seq_k fun K8 h8 => ?_
      have k8 := hid h8
      clear h8
      have nq := fun (W : World) (a : Option Addr) (l c : Nat) => run_neq_slice_nil (P := Tryz.prog) W 37 42 a l c Tryz.underlying37
      by_cases hpa : pa = none
      · have hps : d.pols = [] := by
          cases hp : d.pols with
          | nil => rfl
          | cons x L => obtain ⟨_, _, _, _, h, _⟩ := HPo.out.2 0 x (by rw [hp]; rfl); rw [hpa] at h; cases h
        have hlen0 : d.pols.length = 0 := by rw [hps]; rfl
        subst hpa
        rw [hlen0] at q3
        go_wp2_with fail
        refine k8.out _ _ ?_
        refine wp_seq_k fun K10 h10 => ?_
        have k10 := hid h10
        clear h10
        go_wp2_with fail
        obtain ⟨wR, hR⟩ : ∃ wR, wR = wr := ⟨wr, rfl⟩
        subst hR
        obtain ⟨U10, hU⟩ : ∃ U, U = u10 := ⟨u10, rfl⟩
        subst hU
        go_loopw [10, 15] (fun vv v wq => U10 = vv ∧ v = .int .i64 0 ∧ w1 = wq) (fun _ _ _ => 0)
        case atStart => exact ⟨rfl, rfl, rfl⟩
        case round =>
          obtain ⟨rfl, rfl, rfl⟩ := hrel
          go_wp2_with fail
          refine k10.out _ _ ?_
          have P5 := hid (HP.out.kept (CK.of_below HB1) (fun k es cl hk => HB1.block k (block_lt hk)))
          have G5 : Hid (Grow wR.heap.size PE PE) := Grow.refl _ _
          have PP5 : Hid (PolPs (w.heap.size + 1) w1 PE none d.pols) := ⟨by omega, fun k G hk => by rw [hps] at hk; simp at hk⟩
          have C5 : Hid (CK 0 w1 w1) := CK.refl _ _
          have N5 : Hid (NamesAt w1 w.heap.size ML) := HN.out.kept (HB1.block _ hsz)
          have B5 : Hid (Below w.heap.size w w1) := HB.out.trans (HB1.mono (by omega))
          have cwr5 : CK 0 wR w1 := (CK.of_below HB1).trans C5.out
          have v0 := C5.out.2.1 _ _ (Nat.zero_le _) q0
          have v1 := C5.out.2.1 _ _ (Nat.zero_le _) q1
          have v2 := C5.out.2.1 _ _ (Nat.zero_le _) q2
          have z5 : wR.heap.size < w1.heap.size := World.block_lt_of_cell? _ _ v0
          have HNo : Hid (nameAt ML d.name = none) := nameAt_none fun p hp => by
            obtain ⟨k, hk⟩ := List.mem_iff_getElem?.1 hp
            have hkl : k < i := by have := (List.getElem?_eq_some_iff.1 hk).1; omega
            obtain ⟨x, hx⟩ := get_of (show k < D.length by omega)
            obtain ⟨g, e1, _⟩ := HX.out k x hkl hx
            rw [hk] at e1
            cases e1
            exact (HA.out k i x d hkl hlt hx HJ.out).1
          go_region_held3 (fun w' => w'.cell? ⟨wR.heap.size, 0, none⟩ = some (.string d.name) ∧ w'.cell? ⟨wR.heap.size, 1, none⟩ = some (.int .i64 d.ord) ∧ w'.cell? ⟨wR.heap.size, 2, none⟩ = some (.string d.dp))
            (first
              | go_keep
              | (go_split_ands; refine ⟨?_, ?_, ?_⟩ <;> exact (CK.turned (lo := 0) HT7.out).2.1 _ _ (Nat.zero_le _) (by assumption))
              | (go_split_ands; refine ⟨?_, ?_, ?_⟩ <;> (rw [hb6.cell (by simp; omega)]; assumption)))
            (first
              | (go_at_call 22; refine (newDb_any _ _ _ _ _ _).mono ?_; rintro e w6 ⟨rfl, hw6⟩
                 have hb6 : Below w1.heap.size w1 w6 := (by rw [hw6]; exact ((Below.refl _ _).drew).alloc (by simp) _)
                 obtain ⟨w7, hrun7, hN7, hT7⟩ := names_store (N5.out.kept (hb6.block _ (by omega))) d.name w1.heap.size HNo.out
                 have HN7 := hid hN7
                 have HT7 := hid hT7
                 have HW6 := hid hw6
                 clear hN7 hT7 hw6))
          go_wp2_with fail
          go_roundw
          case rel =>
            have c67 : ∀ lo, CK lo w6 w7 := fun lo => CK.turned HT7.out
            have c57 : ∀ lo, CK lo w1 w7 := fun lo => (CK.of_below hb6).trans (c67 lo)
            have far : ∀ q v, w6.cell? ⟨w1.heap.size, q, none⟩ = some v → w7.cell? ⟨w1.heap.size, q, none⟩ = some v := fun q v h => (c67 0).2.1 _ _ (Nat.zero_le _) h
            refine ⟨i + 1, PE, ML ++ [(d.name, w1.heap.size)], by omega, by go_num, P5.out.turn2 (fun k hk => (c57 0).2.2 k (Nat.zero_le _) hk) (fun k es cl hne hk => (turned_other HT7.out hne).trans (hb6.block k (block_lt hk))), HN7.out, by simp [hml], fun k x hk hx => ?_, B5.out.trans ((hb6.mono (by omega)).trans (turned_below HT7.out (Nat.le_refl _))), by have := (c57 0).1; omega⟩
            by_cases hki : k < i
            · obtain ⟨g, e1, e2⟩ := HX.out k x hki hx
              exact ⟨g, by rw [List.getElem?_append_left (by omega)]; exact e1, e2.ck ((cwr5.mono (Nat.zero_le _)).trans (c57 _)) G5.out⟩
            · have : k = i := by omega
              subst this
              rw [HJ.out] at hx
              cases hx
              refine ⟨w1.heap.size, by rw [List.getElem?_append_right (by omega), hml]; simp, by omega, far 0 _ ?_, ⟨none, 0, far 1 _ ?_, PP5.out.ck (c57 _) (Grow.refl _ _)⟩, far 2 _ ?_, HI.out⟩
              · rw [HW6.out]; exact (World.cell?_alloc_at (w := World.drew w1) _ _ _ _ (by rfl)).trans rfl
              · rw [HW6.out]; exact (World.cell?_alloc_at (w := World.drew w1) _ _ _ _ (by rfl)).trans (by rw [hlen0]; rfl)
              · rw [HW6.out]; exact (World.cell?_alloc_at (w := World.drew w1) _ _ _ _ (by rfl)).trans rfl
          case measure => simp [intOf]; omega
      · have ha' : pa.isNone = false := by cases pa with
          | none => exact absurd rfl hpa
          | some x => rfl
        clear hpa
        go_wp2_with (at_make; refine wpList_make_full _ rfl (.tmp 37) (.tmp 37) 54 rfl w1.heap.size 60 i0 (.pointer none) 1 Tryz.underlying54 hi0 hz0 hs0 .i64 .i64 _ _ d.pols.length rfl rfl rfl rfl hb1 hm1 (Nat.le_refl _) ?_; intro wM hownM hgrowM)
        refine k8.out _ _ ?_
        have bM1 : Below w1.heap.size w1 wM := (Below.refl _ _).grown hgrowM (Nat.le_refl _) (fun k h => by cases h)
        have bM : Below wr.heap.size wr wM := HB1.trans (bM1.mono HB1.size)
        refine polFor w.heap.size w.heap.size wr.heap.size w1.heap.size d pa pc u10 PE _ w w1 wM q3 HPo1.out (HP.out.kept (CK.of_below bM) (fun k es cl hk => bM.block k (block_lt hk))) (by omega) (by omega) (by omega) (Nat.le_refl _) hownM bM1 (HB.out.trans (bM.mono (by omega))) ?_
        intros
        rename_i pv5 PE5 ys5 w5 hP5 hG5 hO5 hX5 hC5 hS5 hB5 hSA5 hNW5
        have P5 := hid hP5
        have G5 := hid (hG5.mono bM.size)
        have PP5 : Hid (PolPs (w.heap.size + 1) w5 PE5 (some ⟨w1.heap.size, 0, none⟩) d.pols) := ⟨by omega, fun k G hk => by
          obtain ⟨g, e1, e2⟩ := hX5 k G hk
          have hkl := (List.getElem?_eq_some_iff.1 hk).1
          exact ⟨_, _, g, rfl, by omega, by rw [Nat.zero_add, hO5.cellAt k (by omega)]; exact e1, e2.mono (by omega)⟩⟩
        have C5 := hid hC5
        have N5 : Hid (NamesAt w5 w.heap.size ML) := HN.out.kept ((hS5 w.heap.size (by omega) (fun r hr => by
          rcases HP.out.1 with ⟨h0, _⟩ | ⟨r', h0, _, h3, _⟩
          · rw [h0] at hr; cases hr
          · rw [h0] at hr; cases hr; exact fun e => h3 e.symm)).trans (bM.block _ hsz))
        have B5 := hid hB5
        clear hP5 hG5 hO5 hX5 hC5 hS5 hB5 hSA5 hNW5 hownM hgrowM nq hb1 hm1
        obtain ⟨gv, hgv⟩ : ∃ gv : Option Addr, gv = some ⟨w1.heap.size, 0, none⟩ := ⟨_, rfl⟩
        obtain ⟨gn, hgn⟩ : ∃ gn, gn = d.pols.length := ⟨_, rfl⟩
        rw [← hgv] at PP5
        have HGV := hid hgv
        have HGN := hid hgn
        dsimp only
        conv => arg 2; whnf
        have cwr5 : CK 0 wr w5 := (CK.of_below HB1).trans C5.out
        have v0 := C5.out.2.1 _ _ (Nat.zero_le _) q0
        have v1 := C5.out.2.1 _ _ (Nat.zero_le _) q1
        have v2 := C5.out.2.1 _ _ (Nat.zero_le _) q2
        have z5 : wr.heap.size < w5.heap.size := World.block_lt_of_cell? _ _ v0
        have HNo : Hid (nameAt ML d.name = none) := nameAt_none fun p hp => by
          obtain ⟨k, hk⟩ := List.mem_iff_getElem?.1 hp
          have hkl : k < i := by have := (List.getElem?_eq_some_iff.1 hk).1; omega
          obtain ⟨x, hx⟩ := get_of (show k < D.length by omega)
          obtain ⟨g, e1, _⟩ := HX.out k x hkl hx
          rw [hk] at e1
          cases e1
          exact (HA.out k i x d hkl hlt hx HJ.out).1
        go_region_held3 (fun w' => w'.cell? ⟨wr.heap.size, 0, none⟩ = some (.string d.name) ∧ w'.cell? ⟨wr.heap.size, 1, none⟩ = some (.int .i64 d.ord) ∧ w'.cell? ⟨wr.heap.size, 2, none⟩ = some (.string d.dp))
          (first
            | go_keep
            | (go_split_ands; refine ⟨?_, ?_, ?_⟩ <;> exact (CK.turned (lo := 0) HT7.out).2.1 _ _ (Nat.zero_le _) (by assumption))
            | (go_split_ands; refine ⟨?_, ?_, ?_⟩ <;> (rw [hb6.cell (by simp; omega)]; assumption)))
          (first
            | (go_at_call 22; refine (newDb_any _ _ _ _ _ _).mono ?_; rintro e w6 ⟨rfl, hw6⟩
               have hb6 : Below w5.heap.size w5 w6 := (by rw [hw6]; exact ((Below.refl _ _).drew).alloc (by simp) _)
               obtain ⟨w7, hrun7, hN7, hT7⟩ := names_store (N5.out.kept (hb6.block _ (by omega))) d.name w5.heap.size HNo.out
               have HN7 := hid hN7
               have HT7 := hid hT7
               have HW6 := hid hw6
               clear hN7 hT7 hw6))
        go_wp2_with fail
        go_roundw
        case rel =>
          have c67 : ∀ lo, CK lo w6 w7 := fun lo => CK.turned HT7.out
          have c57 : ∀ lo, CK lo w5 w7 := fun lo => (CK.of_below hb6).trans (c67 lo)
          have far : ∀ q v, w6.cell? ⟨w5.heap.size, q, none⟩ = some v → w7.cell? ⟨w5.heap.size, q, none⟩ = some v := fun q v h => (c67 0).2.1 _ _ (Nat.zero_le _) h
          refine ⟨i + 1, PE5, ML ++ [(d.name, w5.heap.size)], by omega, by go_num, P5.out.turn2 (fun k hk => (c57 0).2.2 k (Nat.zero_le _) hk) (fun k es cl hne hk => (turned_other HT7.out hne).trans (hb6.block k (block_lt hk))), HN7.out, by simp [hml], fun k x hk hx => ?_, B5.out.trans ((hb6.mono (by omega)).trans (turned_below HT7.out (Nat.le_refl _))), by have := (c57 0).1; omega⟩
          by_cases hki : k < i
          · obtain ⟨g, e1, e2⟩ := HX.out k x hki hx
            exact ⟨g, by rw [List.getElem?_append_left (by omega)]; exact e1, e2.ck ((cwr5.mono (Nat.zero_le _)).trans (c57 _)) G5.out⟩
          · have : k = i := by omega
            subst this
            rw [HJ.out] at hx
            cases hx
            refine ⟨w5.heap.size, by rw [List.getElem?_append_right (by omega), hml]; simp, by omega, far 0 _ ?_, ⟨gv, gn, far 1 _ ?_, PP5.out.ck (c57 _) (Grow.refl _ _)⟩, far 2 _ ?_, HI.out⟩
            · rw [HW6.out]; exact (World.cell?_alloc_at (w := World.drew w5) _ _ _ _ (by rfl)).trans rfl
            · rw [HW6.out]; exact (World.cell?_alloc_at (w := World.drew w5) _ _ _ _ (by rfl)).trans (by rw [HGV.out, HGN.out]; rfl)
            · rw [HW6.out]; exact (World.cell?_alloc_at (w := World.drew w5) _ _ _ _ (by rfl)).trans rfl
        case measure => simp [intOf]; omega
    · have hie : i = D.length := by omega
      subst hie
      have nq := fun (W : World) (a : Option Addr) (l c : Nat) => run_neq_slice_nil (P := Tryz.prog) W 25 47 a l c Tryz.underlying25
      have e31 := fun (W : World) (r : Option Nat) => run_eql_map_nil31 r W
      by_cases hsa : sa = none
      · subst hsa
        obtain ⟨wz, hwz⟩ : ∃ wz, wz = wr := ⟨_, rfl⟩
        subst hwz
        have PEz := PE
        have PZ := HP
        have NZ := HN
        have XZ : Hid (∀ (k : Nat) d, D[k]? = some d → ∃ g, ML[k]? = some (d.name, g) ∧ DbP (w.heap.size + 1) wz PE g d) := fun k d hk => HX.out k d (List.getElem?_eq_some_iff.1 hk).1 hk
        have BZ := HB
        have hszz := hsz
        go_wp2_with (go_at_call 23; refine (newStore_any _ _ _ _).mono ?_; rintro e w9 ⟨rfl, cs, hw9, s14, s15, s17⟩
                     have HW9 := hid hw9
                     have HC9 := hid (And.intro s14 (And.intro s15 s17))
                     clear hw9 s14 s15 s17)
        go_ret2
        have b9 : Below wz.heap.size wz w9 := by rw [HW9.out]; exact (Below.refl _ _).alloc (Nat.le_refl _) _
        obtain ⟨s14, s15, s17⟩ := HC9.out
        have at9 : ∀ q, w9.cell? ⟨wz.heap.size, q, none⟩ = cs[q]? := fun q => by rw [HW9.out, World.cell?_alloc_at _ _ _ _ rfl]
        refine ⟨⟨wz.heap.size, _, w.heap.size, ML, PE, rfl, (at9 14).trans s14, (at9 15).trans s15, (at9 17).trans s17, NZ.out.kept (b9.block _ hszz), PZ.out.kept (CK.of_below b9) (fun k es cl hk => b9.block k (block_lt hk)), hml, fun k d hk => ?_⟩, BZ.out.trans (b9.mono (by omega))⟩
        obtain ⟨g, e1, e2⟩ := XZ.out k d hk
        exact ⟨g, e1, (e2.ck (CK.of_below b9) (Grow.refl _ _)).mono (by omega)⟩
      · have ha' : sa.isNone = false := by cases sa with
          | none => exact absurd rfl hsa
          | some x => rfl
        clear hsa
        rcases HP.out.1 with ⟨hv, hpe⟩ | ⟨r, hv, hBr, hrr, hPr⟩
        · subst hv
          go_upto_region 32 with fail
          obtain ⟨wx, hwx⟩ : ∃ wx, wx = wr.alloc (Obj.map #[] 0) := ⟨_, rfl⟩
          have bx : Below wr.heap.size wr wx := by rw [hwx]; exact (Below.refl _ _).alloc (Nat.le_refl _) _
          have hPx : Hid (PlanAt wx wr.heap.size PE) := by rw [hwx, hpe]; exact ⟨#[], 0, heap_alloc_new _ _, rfl⟩
          rw [← hwx]
          clear hwx
          obtain ⟨r, hr⟩ : ∃ r, r = wr.heap.size := ⟨_, rfl⟩
          rw [← hr] at hPx ⊢
          have hrB : w.heap.size ≤ r := by omega
          have hrn : r ≠ w.heap.size := by omega
          clear hr
          have HSx := hid (HS.out.ck ((CK.of_below HB.out).trans (CK.of_below bx)))
          have PLx : Hid (∀ q ∈ PE, Plain wx q.1) := fun q hq => (CK.of_below (lo := 0) bx).2.2 _ (Nat.zero_le _) (HP.out.2 q hq)
          go_wp2_with (first
            | (go_at_call 19; refine (newGroup_any _ _ _ _ _ _).mono ?_; rintro e w5 ⟨rfl, gcs, hw5, _, _, _⟩; have b5 : Below wx.heap.size wx w5 := (by rw [hw5]; exact (Below.refl _ _).alloc (Nat.le_refl _) _); have g5 : Hid (Plain w5 wx.heap.size) := (by rw [hw5]; exact plain_new _ _ _); clear hw5)
            | (go_at_call 20; refine (segs_any _ _ _ _ (by exact HSx.out.kept (Kept.of b5))).mono ?_; rintro e w6 ⟨a2, c2, rfl, _, b6⟩
               obtain ⟨w7, hrun7, hP7, hT7⟩ := plan_store (w := w6) (r := r) (PE := PE) (by obtain ⟨es, clock, e1, e2⟩ := hPx.out; exact ⟨es, clock, (b6.block _ (block_lt ((b5.block _ (block_lt e1)).trans e1))).trans ((b5.block _ (block_lt e1)).trans e1), e2⟩) wx.heap.size ((CK.of_below (lo := 0) b6).2.2 _ (Nat.zero_le _) g5.out) (fun q hq => (CK.of_below (lo := 0) b6).2.2 _ (Nat.zero_le _) ((CK.of_below (lo := 0) b5).2.2 _ (Nat.zero_le _) (PLx.out q hq))) (.slice a2 S.length c2) (planAt_none_of fun q hq => by have := (PLx.out q hq).lt; omega)
               have hrun7' : (Instr.mapUpdate 31 (.map (some r)) (.pointer (some ⟨wx.heap.size, 0, none⟩)) (.slice a2 S.length c2)).run Tryz.prog w6 = .ok () w7 := hrun7
               have HP7 := hid hP7
               have HT7 := hid hT7
               clear hrun7 hP7 hT7)
            | (go_at_call 23; refine (newStore_any _ _ _ _).mono ?_; rintro e w9 ⟨rfl, cs, hw9, s14, s15, s17⟩
               have HW9 := hid hw9
               have HC9 := hid (And.intro s14 (And.intro s15 s17))
               clear hw9 s14 s15 s17))
          have b16 : Below wr.heap.size wr w6 := bx.trans ((b5.mono bx.size).trans (b6.mono (Nat.le_trans bx.size b5.size)))
          have c67 : ∀ lo, CK lo w6 w7 := fun lo => CK.turned HT7.out
          have cr7 : ∀ lo, CK lo wr w7 := fun lo => (CK.of_below b16).trans (c67 lo)
          obtain ⟨wz, hwz⟩ : ∃ wz, wz = w7 := ⟨_, rfl⟩
          obtain ⟨PEz, hPEz⟩ : ∃ PEz, PEz = PE ++ [(wx.heap.size, Value.slice a2 S.length c2)] := ⟨_, rfl⟩
          have hgrw : Grow wr.heap.size PE PEz := by rw [hPEz]; exact ⟨_, rfl, fun q hq => by rw [List.mem_singleton.1 hq]; exact bx.size⟩
          have PZ : Hid (PlanIs w.heap.size w.heap.size wz (.map (some r)) PEz) := by
            rw [hwz, hPEz]
            refine ⟨.inr ⟨r, rfl, hrB, hrn, HP7.out⟩, fun q hq => ?_⟩
            rcases List.mem_append.1 hq with hq | hq
            · exact (cr7 0).2.2 _ (Nat.zero_le _) (HP.out.2 q hq)
            · rw [List.mem_singleton.1 hq]; exact (c67 0).2.2 _ (Nat.zero_le _) ((CK.of_below (lo := 0) b6).2.2 _ (Nat.zero_le _) g5.out)
          have NZ : Hid (NamesAt wz w.heap.size ML) := by rw [hwz]; exact HN.out.kept ((turned_other HT7.out (fun e => hrn e.symm)).trans (b16.block _ hsz))
          have XZ : Hid (∀ (k : Nat) d, D[k]? = some d → ∃ g, ML[k]? = some (d.name, g) ∧ DbP (w.heap.size + 1) wz PEz g d) := fun k d hk => by
            obtain ⟨g, e1, e2⟩ := HX.out k d (List.getElem?_eq_some_iff.1 hk).1 hk
            exact ⟨g, e1, by rw [hwz]; exact e2.ck (cr7 _) hgrw⟩
          have BZ : Hid (Below w.heap.size w wz) := by rw [hwz]; exact (HB.out.trans (b16.mono (by omega))).trans (turned_below HT7.out hrB)
          have hszz : w.heap.size < wz.heap.size := by rw [hwz]; have := (cr7 0).1; omega
          rw [← hwz] at HW9
          rw [← hwz]
          go_ret2
          have b9 : Below wz.heap.size wz w9 := by rw [HW9.out]; exact (Below.refl _ _).alloc (Nat.le_refl _) _
          obtain ⟨s14, s15, s17⟩ := HC9.out
          have at9 : ∀ q, w9.cell? ⟨wz.heap.size, q, none⟩ = cs[q]? := fun q => by rw [HW9.out, World.cell?_alloc_at _ _ _ _ rfl]
          refine ⟨⟨wz.heap.size, _, w.heap.size, ML, PEz, rfl, (at9 14).trans s14, (at9 15).trans s15, (at9 17).trans s17, NZ.out.kept (b9.block _ hszz), PZ.out.kept (CK.of_below b9) (fun k es cl hk => b9.block k (block_lt hk)), hml, fun k d hk => ?_⟩, BZ.out.trans (b9.mono (by omega))⟩
          obtain ⟨g, e1, e2⟩ := XZ.out k d hk
          exact ⟨g, e1, (e2.ck (CK.of_below b9) (Grow.refl _ _)).mono (by omega)⟩
        · subst hv
          go_upto_region 32 with fail
          obtain ⟨wx, hwx⟩ : ∃ wx, wx = wr := ⟨_, rfl⟩
          have bx : Below wr.heap.size wr wx := by rw [hwx]; exact Below.refl _ _
          have hPx : Hid (PlanAt wx r PE) := by rw [hwx]; exact hPr
          have hrB : w.heap.size ≤ r := hBr
          have hrn : r ≠ w.heap.size := hrr
          rw [← hwx]
          clear hwx
          have HSx := hid (HS.out.ck ((CK.of_below HB.out).trans (CK.of_below bx)))
          have PLx : Hid (∀ q ∈ PE, Plain wx q.1) := fun q hq => (CK.of_below (lo := 0) bx).2.2 _ (Nat.zero_le _) (HP.out.2 q hq)
          go_wp2_with (first
            | (go_at_call 19; refine (newGroup_any _ _ _ _ _ _).mono ?_; rintro e w5 ⟨rfl, gcs, hw5, _, _, _⟩; have b5 : Below wx.heap.size wx w5 := (by rw [hw5]; exact (Below.refl _ _).alloc (Nat.le_refl _) _); have g5 : Hid (Plain w5 wx.heap.size) := (by rw [hw5]; exact plain_new _ _ _); clear hw5)
            | (go_at_call 20; refine (segs_any _ _ _ _ (by exact HSx.out.kept (Kept.of b5))).mono ?_; rintro e w6 ⟨a2, c2, rfl, _, b6⟩
               obtain ⟨w7, hrun7, hP7, hT7⟩ := plan_store (w := w6) (r := r) (PE := PE) (by obtain ⟨es, clock, e1, e2⟩ := hPx.out; exact ⟨es, clock, (b6.block _ (block_lt ((b5.block _ (block_lt e1)).trans e1))).trans ((b5.block _ (block_lt e1)).trans e1), e2⟩) wx.heap.size ((CK.of_below (lo := 0) b6).2.2 _ (Nat.zero_le _) g5.out) (fun q hq => (CK.of_below (lo := 0) b6).2.2 _ (Nat.zero_le _) ((CK.of_below (lo := 0) b5).2.2 _ (Nat.zero_le _) (PLx.out q hq))) (.slice a2 S.length c2) (planAt_none_of fun q hq => by have := (PLx.out q hq).lt; omega)
               have hrun7' : (Instr.mapUpdate 31 (.map (some r)) (.pointer (some ⟨wx.heap.size, 0, none⟩)) (.slice a2 S.length c2)).run Tryz.prog w6 = .ok () w7 := hrun7
               have HP7 := hid hP7
               have HT7 := hid hT7
               clear hrun7 hP7 hT7)
            | (go_at_call 23; refine (newStore_any _ _ _ _).mono ?_; rintro e w9 ⟨rfl, cs, hw9, s14, s15, s17⟩
               have HW9 := hid hw9
               have HC9 := hid (And.intro s14 (And.intro s15 s17))
               clear hw9 s14 s15 s17))
          have b16 : Below wr.heap.size wr w6 := bx.trans ((b5.mono bx.size).trans (b6.mono (Nat.le_trans bx.size b5.size)))
          have c67 : ∀ lo, CK lo w6 w7 := fun lo => CK.turned HT7.out
          have cr7 : ∀ lo, CK lo wr w7 := fun lo => (CK.of_below b16).trans (c67 lo)
          obtain ⟨wz, hwz⟩ : ∃ wz, wz = w7 := ⟨_, rfl⟩
          obtain ⟨PEz, hPEz⟩ : ∃ PEz, PEz = PE ++ [(wx.heap.size, Value.slice a2 S.length c2)] := ⟨_, rfl⟩
          have hgrw : Grow wr.heap.size PE PEz := by rw [hPEz]; exact ⟨_, rfl, fun q hq => by rw [List.mem_singleton.1 hq]; exact bx.size⟩
          have PZ : Hid (PlanIs w.heap.size w.heap.size wz (.map (some r)) PEz) := by
            rw [hwz, hPEz]
            refine ⟨.inr ⟨r, rfl, hrB, hrn, HP7.out⟩, fun q hq => ?_⟩
            rcases List.mem_append.1 hq with hq | hq
            · exact (cr7 0).2.2 _ (Nat.zero_le _) (HP.out.2 q hq)
            · rw [List.mem_singleton.1 hq]; exact (c67 0).2.2 _ (Nat.zero_le _) ((CK.of_below (lo := 0) b6).2.2 _ (Nat.zero_le _) g5.out)
          have NZ : Hid (NamesAt wz w.heap.size ML) := by rw [hwz]; exact HN.out.kept ((turned_other HT7.out (fun e => hrn e.symm)).trans (b16.block _ hsz))
          have XZ : Hid (∀ (k : Nat) d, D[k]? = some d → ∃ g, ML[k]? = some (d.name, g) ∧ DbP (w.heap.size + 1) wz PEz g d) := fun k d hk => by
            obtain ⟨g, e1, e2⟩ := HX.out k d (List.getElem?_eq_some_iff.1 hk).1 hk
            exact ⟨g, e1, by rw [hwz]; exact e2.ck (cr7 _) hgrw⟩
          have BZ : Hid (Below w.heap.size w wz) := by rw [hwz]; exact (HB.out.trans (b16.mono (by omega))).trans (turned_below HT7.out hrB)
          have hszz : w.heap.size < wz.heap.size := by rw [hwz]; have := (cr7 0).1; omega
          rw [← hwz] at HW9
          rw [← hwz]
          go_ret2
          have b9 : Below wz.heap.size wz w9 := by rw [HW9.out]; exact (Below.refl _ _).alloc (Nat.le_refl _) _
          obtain ⟨s14, s15, s17⟩ := HC9.out
          have at9 : ∀ q, w9.cell? ⟨wz.heap.size, q, none⟩ = cs[q]? := fun q => by rw [HW9.out, World.cell?_alloc_at _ _ _ _ rfl]
          refine ⟨⟨wz.heap.size, _, w.heap.size, ML, PEz, rfl, (at9 14).trans s14, (at9 15).trans s15, (at9 17).trans s17, NZ.out.kept (b9.block _ hszz), PZ.out.kept (CK.of_below b9) (fun k es cl hk => b9.block k (block_lt hk)), hml, fun k d hk => ?_⟩, BZ.out.trans (b9.mono (by omega))⟩
          obtain ⟨g, e1, e2⟩ := XZ.out k d hk
          exact ⟨g, e1, (e2.ck (CK.of_below b9) (Grow.refl _ _)).mono (by omega)⟩
end Go.Proofs.Qxb6609540aGreatDoor
