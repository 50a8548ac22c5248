/-
  zzReport: the report's cells copied whole; ZZnewTCBInfo.
-/
import Derived.Test.Qxb6609499aFmtBuild
namespace Go.Proofs.Qxb6609499aFmt
open Go.RowKit

theorem ov_prefix {A C : Array Value} (off n : Nat) (hs : A.size = C.size) (hn : off + n ≤ C.size) (p : List Value) (hp : p = (C.extract off (off + n)).toList) (h : ∀ i, i < off → A[i]? = C[i]?) :
    ∀ i, i < off + n → (ov A off p.toArray)[i]? = C[i]? := by
  intro i hi
  have hl : p.length = n := by rw [hp]; simp; omega
  by_cases h1 : i < off
  · rw [ov_eq, (ov_list p.toArray.toList off 0 A).2.1 i (by simp; omega)]; exact h i h1
  · have e : C[i]? = p[i - off]? := by
      rw [hp]
      simp
      rw [List.getElem?_take, if_pos (by omega), List.getElem?_drop, show off + (i - off) = i by omega]
      simp
    rw [e]
    have := ov_at A off p.toArray (by simp; omega) (i - off) (p[i - off]'(by omega)) (by simp)
    rw [show off + (i - off) = i by omega] at this
    rw [this, List.getElem?_eq_getElem]
theorem arr_eq_of_prefix {A C : Array Value} (hs : A.size = C.size) (h : ∀ i, i < C.size → A[i]? = C[i]?) : A = C := by
  apply Array.ext hs
  intro i h1 h2
  have := h i h2
  rw [Array.getElem?_eq_getElem h1, Array.getElem?_eq_getElem h2] at this
  exact Option.some.inj this

theorem wpList_build' {P : Program} {ops : Array Oper} {rest : List Oper} {op : Oper} {a : Act} {w : World} {Q : Exit → Act → World → Prop} (hgd : op.guard = none) (t : TypeId) (ps : List (Nat × Operand)) (ho : op.op = .build t ps.toArray) (v : Value)
    (vs : List (Nat × Value)) (hvs : ps.map (fun p => (p.1, a.eval p.2)) = vs) (hrun : (Instr.build t vs.toArray).run P w = .ok v w) (h : wpList P ops Q rest (a.put op.dst v) w) : wpList P ops Q (op :: rest) a w :=
  wpList_build hgd t ps ho v (by rw [hvs]; exact hrun) h

theorem Tryf.zero81 : (Tryf.prog.info? 81).map (fun i => i.zero.map (fun z => z.cells.size)) = some (some 584) := by kernel_rfl
theorem zero_run {t : TypeId} {n : Nat} (h : (Tryf.prog.info? t).map (fun i => i.zero.map (fun z => z.cells.size)) = some (some n)) (w : World) : ∃ z, (zeroValue t).run Tryf.prog w = .ok z w ∧ z.cells.size = n := by
  cases hq : Tryf.prog.info? t with
  | none => simp [hq] at h
  | some i =>
    cases hz : i.zero with
    | none => simp [hq, hz] at h
    | some z => exact ⟨z, by simp [zeroValue, typeInfo, hq, hz], by simpa [hq, hz] using h⟩
theorem Tryf.struct81 : ∃ fs, Tryf.prog.underlying 81 = some (.struct fs) ∧ ∀ w, (fs.mapM fun (f : Field) => (do pure (f.offset, ← sizeOf f.type) : Sem (Nat × Nat))).run Tryf.prog w = .ok #[(0, 16), (16, 48), (64, 48), (112, 8), (120, 8), (128, 8), (136, 48), (184, 48), (232, 48), (280, 48), (328, 192), (520, 64)] w :=
  ⟨_, Tryf.underlying81, fun w => by kernel_rfl⟩
set_option maxRecDepth 100000 in
theorem build81 (C : Array Value) (hC : C.size = 584) (p0 p1 p2 p3 p4 p5 p6 p7 p8 p9 p10 p11 : List Value) (h0 : p0 = (C.extract 0 (0 + 16)).toList) (h1 : p1 = (C.extract 16 (16 + 48)).toList) (h2 : p2 = (C.extract 64 (64 + 48)).toList) (h3 : p3 = (C.extract 112 (112 + 8)).toList) (h4 : p4 = (C.extract 120 (120 + 8)).toList) (h5 : p5 = (C.extract 128 (128 + 8)).toList) (h6 : p6 = (C.extract 136 (136 + 48)).toList) (h7 : p7 = (C.extract 184 (184 + 48)).toList) (h8 : p8 = (C.extract 232 (232 + 48)).toList) (h9 : p9 = (C.extract 280 (280 + 48)).toList) (h10 : p10 = (C.extract 328 (328 + 192)).toList) (h11 : p11 = (C.extract 520 (520 + 64)).toList) (w : World) :
    (Instr.build 81 #[(0, .agg p0.toArray), (1, .agg p1.toArray), (2, .agg p2.toArray), (3, .agg p3.toArray), (4, .agg p4.toArray), (5, .agg p5.toArray), (6, .agg p6.toArray), (7, .agg p7.toArray), (8, .agg p8.toArray), (9, .agg p9.toArray), (10, .agg p10.toArray), (11, .agg p11.toArray)]).run Tryf.prog w = .ok (.agg C) w := by
  obtain ⟨z, hz, hzs⟩ := zero_run Tryf.zero81 w
  obtain ⟨fs, hfs, hpl⟩ := Tryf.struct81
  have l0 : p0.toArray.size = 16 := by rw [h0]; simp; omega
  have l1 : p1.toArray.size = 48 := by rw [h1]; simp; omega
  have l2 : p2.toArray.size = 48 := by rw [h2]; simp; omega
  have l3 : p3.toArray.size = 8 := by rw [h3]; simp; omega
  have l4 : p4.toArray.size = 8 := by rw [h4]; simp; omega
  have l5 : p5.toArray.size = 8 := by rw [h5]; simp; omega
  have l6 : p6.toArray.size = 48 := by rw [h6]; simp; omega
  have l7 : p7.toArray.size = 48 := by rw [h7]; simp; omega
  have l8 : p8.toArray.size = 48 := by rw [h8]; simp; omega
  have l9 : p9.toArray.size = 48 := by rw [h9]; simp; omega
  have l10 : p10.toArray.size = 192 := by rw [h10]; simp; omega
  have l11 : p11.toArray.size = 64 := by rw [h11]; simp; omega
  refine run_build_of hz hfs (hpl w) ?_
  rw [fill_step 0 16 (by rfl) (by exact l0) (by omega),
    fill_step 16 48 (by rfl) (by exact l1) (by rw [ov_size]; omega),
    fill_step 64 48 (by rfl) (by exact l2) (by rw [ov_size, ov_size]; omega),
    fill_step 112 8 (by rfl) (by exact l3) (by rw [ov_size, ov_size, ov_size]; omega),
    fill_step 120 8 (by rfl) (by exact l4) (by rw [ov_size, ov_size, ov_size, ov_size]; omega),
    fill_step 128 8 (by rfl) (by exact l5) (by rw [ov_size, ov_size, ov_size, ov_size, ov_size]; omega),
    fill_step 136 48 (by rfl) (by exact l6) (by rw [ov_size, ov_size, ov_size, ov_size, ov_size, ov_size]; omega),
    fill_step 184 48 (by rfl) (by exact l7) (by rw [ov_size, ov_size, ov_size, ov_size, ov_size, ov_size, ov_size]; omega),
    fill_step 232 48 (by rfl) (by exact l8) (by rw [ov_size, ov_size, ov_size, ov_size, ov_size, ov_size, ov_size, ov_size]; omega),
    fill_step 280 48 (by rfl) (by exact l9) (by rw [ov_size, ov_size, ov_size, ov_size, ov_size, ov_size, ov_size, ov_size, ov_size]; omega),
    fill_step 328 192 (by rfl) (by exact l10) (by rw [ov_size, ov_size, ov_size, ov_size, ov_size, ov_size, ov_size, ov_size, ov_size, ov_size]; omega),
    fill_step 520 64 (by rfl) (by exact l11) (by rw [ov_size, ov_size, ov_size, ov_size, ov_size, ov_size, ov_size, ov_size, ov_size, ov_size, ov_size]; omega), Instr.fill]
  refine congrArg some ?_
  have s0 : z.cells.size = C.size := by rw [hzs, hC]
  have q0 : ∀ i, i < 0 → z.cells[i]? = C[i]? := fun i hi => by omega
  have q1 := ov_prefix 0 16 s0 (by omega) p0 h0 q0
  have s1 := (ov_size (z.cells) 0 p0.toArray).trans s0
  have q2 := ov_prefix 16 48 s1 (by omega) p1 h1 q1
  have s2 := (ov_size (ov (z.cells) 0 p0.toArray) 16 p1.toArray).trans s1
  have q3 := ov_prefix 64 48 s2 (by omega) p2 h2 q2
  have s3 := (ov_size (ov (ov (z.cells) 0 p0.toArray) 16 p1.toArray) 64 p2.toArray).trans s2
  have q4 := ov_prefix 112 8 s3 (by omega) p3 h3 q3
  have s4 := (ov_size (ov (ov (ov (z.cells) 0 p0.toArray) 16 p1.toArray) 64 p2.toArray) 112 p3.toArray).trans s3
  have q5 := ov_prefix 120 8 s4 (by omega) p4 h4 q4
  have s5 := (ov_size (ov (ov (ov (ov (z.cells) 0 p0.toArray) 16 p1.toArray) 64 p2.toArray) 112 p3.toArray) 120 p4.toArray).trans s4
  have q6 := ov_prefix 128 8 s5 (by omega) p5 h5 q5
  have s6 := (ov_size (ov (ov (ov (ov (ov (z.cells) 0 p0.toArray) 16 p1.toArray) 64 p2.toArray) 112 p3.toArray) 120 p4.toArray) 128 p5.toArray).trans s5
  have q7 := ov_prefix 136 48 s6 (by omega) p6 h6 q6
  have s7 := (ov_size (ov (ov (ov (ov (ov (ov (z.cells) 0 p0.toArray) 16 p1.toArray) 64 p2.toArray) 112 p3.toArray) 120 p4.toArray) 128 p5.toArray) 136 p6.toArray).trans s6
  have q8 := ov_prefix 184 48 s7 (by omega) p7 h7 q7
  have s8 := (ov_size (ov (ov (ov (ov (ov (ov (ov (z.cells) 0 p0.toArray) 16 p1.toArray) 64 p2.toArray) 112 p3.toArray) 120 p4.toArray) 128 p5.toArray) 136 p6.toArray) 184 p7.toArray).trans s7
  have q9 := ov_prefix 232 48 s8 (by omega) p8 h8 q8
  have s9 := (ov_size (ov (ov (ov (ov (ov (ov (ov (ov (z.cells) 0 p0.toArray) 16 p1.toArray) 64 p2.toArray) 112 p3.toArray) 120 p4.toArray) 128 p5.toArray) 136 p6.toArray) 184 p7.toArray) 232 p8.toArray).trans s8
  have q10 := ov_prefix 280 48 s9 (by omega) p9 h9 q9
  have s10 := (ov_size (ov (ov (ov (ov (ov (ov (ov (ov (ov (z.cells) 0 p0.toArray) 16 p1.toArray) 64 p2.toArray) 112 p3.toArray) 120 p4.toArray) 128 p5.toArray) 136 p6.toArray) 184 p7.toArray) 232 p8.toArray) 280 p9.toArray).trans s9
  have q11 := ov_prefix 328 192 s10 (by omega) p10 h10 q10
  have s11 := (ov_size (ov (ov (ov (ov (ov (ov (ov (ov (ov (ov (z.cells) 0 p0.toArray) 16 p1.toArray) 64 p2.toArray) 112 p3.toArray) 120 p4.toArray) 128 p5.toArray) 136 p6.toArray) 184 p7.toArray) 232 p8.toArray) 280 p9.toArray) 328 p10.toArray).trans s10
  have q12 := ov_prefix 520 64 s11 (by omega) p11 h11 q11
  have s12 := (ov_size (ov (ov (ov (ov (ov (ov (ov (ov (ov (ov (ov (z.cells) 0 p0.toArray) 16 p1.toArray) 64 p2.toArray) 112 p3.toArray) 120 p4.toArray) 128 p5.toArray) 136 p6.toArray) 184 p7.toArray) 232 p8.toArray) 280 p9.toArray) 328 p10.toArray) 520 p11.toArray).trans s11
  exact arr_eq_of_prefix s12 (fun i hi => q12 i (by omega))

set_option maxRecDepth 100000 in
set_option maxHeartbeats 1000000 in
theorem report_any (C : Array Value) (hC : C.size = 584) (w : World) :
    Calls Tryf.prog 10 #[.agg C] w fun e w' => e = .returned (.pointer (some ⟨w.heap.size + 1, 0, none⟩)) ∧ w' = (w.alloc (.cells C 28)).alloc (.cells C 81) := by
  obtain ⟨p0, h0⟩ : ∃ p, p = (C.extract 0 (0 + 16)).toList := ⟨_, rfl⟩
  obtain ⟨p1, h1⟩ : ∃ p, p = (C.extract 16 (16 + 48)).toList := ⟨_, rfl⟩
  obtain ⟨p2, h2⟩ : ∃ p, p = (C.extract 64 (64 + 48)).toList := ⟨_, rfl⟩
  obtain ⟨p3, h3⟩ : ∃ p, p = (C.extract 112 (112 + 8)).toList := ⟨_, rfl⟩
  obtain ⟨p4, h4⟩ : ∃ p, p = (C.extract 120 (120 + 8)).toList := ⟨_, rfl⟩
  obtain ⟨p5, h5⟩ : ∃ p, p = (C.extract 128 (128 + 8)).toList := ⟨_, rfl⟩
  obtain ⟨p6, h6⟩ : ∃ p, p = (C.extract 136 (136 + 48)).toList := ⟨_, rfl⟩
  obtain ⟨p7, h7⟩ : ∃ p, p = (C.extract 184 (184 + 48)).toList := ⟨_, rfl⟩
  obtain ⟨p8, h8⟩ : ∃ p, p = (C.extract 232 (232 + 48)).toList := ⟨_, rfl⟩
  obtain ⟨p9, h9⟩ : ∃ p, p = (C.extract 280 (280 + 48)).toList := ⟨_, rfl⟩
  obtain ⟨p10, h10⟩ : ∃ p, p = (C.extract 328 (328 + 192)).toList := ⟨_, rfl⟩
  obtain ⟨p11, h11⟩ : ∃ p, p = (C.extract 520 (520 + 64)).toList := ⟨_, rfl⟩
  have B := hid (build81 C hC p0 p1 p2 p3 p4 p5 p6 p7 p8 p9 p10 p11 h0 h1 h2 h3 h4 h5 h6 h7 h8 h9 h10 h11)
  have hb : (w.alloc (.cells C 28)).heap[w.heap.size]? = some (.cells C 28 (0, 0)) := heap_alloc_new w _
  have r0 : Hid ((w.alloc (.cells C 28)).rangeAt w.heap.size 0 p0) := by rw [h0]; exact World.rangeAt_of_block hb 0 16
  have z0 : (Tryf.prog.info? 22).map (·.size) = some p0.length := by rw [h0, show (C.extract 0 (0 + 16)).toList.length = 16 by simp; omega]; exact Tryf.size22
  have r1 : Hid ((w.alloc (.cells C 28)).rangeAt w.heap.size 16 p1) := by rw [h1]; exact World.rangeAt_of_block hb 16 48
  have z1 : (Tryf.prog.info? 23).map (·.size) = some p1.length := by rw [h1, show (C.extract 16 (16 + 48)).toList.length = 48 by simp; omega]; exact Tryf.size23
  have r2 : Hid ((w.alloc (.cells C 28)).rangeAt w.heap.size 64 p2) := by rw [h2]; exact World.rangeAt_of_block hb 64 48
  have z2 : (Tryf.prog.info? 23).map (·.size) = some p2.length := by rw [h2, show (C.extract 64 (64 + 48)).toList.length = 48 by simp; omega]; exact Tryf.size23
  have r3 : Hid ((w.alloc (.cells C 28)).rangeAt w.heap.size 112 p3) := by rw [h3]; exact World.rangeAt_of_block hb 112 8
  have z3 : (Tryf.prog.info? 24).map (·.size) = some p3.length := by rw [h3, show (C.extract 112 (112 + 8)).toList.length = 8 by simp; omega]; exact Tryf.size24
  have r4 : Hid ((w.alloc (.cells C 28)).rangeAt w.heap.size 120 p4) := by rw [h4]; exact World.rangeAt_of_block hb 120 8
  have z4 : (Tryf.prog.info? 24).map (·.size) = some p4.length := by rw [h4, show (C.extract 120 (120 + 8)).toList.length = 8 by simp; omega]; exact Tryf.size24
  have r5 : Hid ((w.alloc (.cells C 28)).rangeAt w.heap.size 128 p5) := by rw [h5]; exact World.rangeAt_of_block hb 128 8
  have z5 : (Tryf.prog.info? 24).map (·.size) = some p5.length := by rw [h5, show (C.extract 128 (128 + 8)).toList.length = 8 by simp; omega]; exact Tryf.size24
  have r6 : Hid ((w.alloc (.cells C 28)).rangeAt w.heap.size 136 p6) := by rw [h6]; exact World.rangeAt_of_block hb 136 48
  have z6 : (Tryf.prog.info? 23).map (·.size) = some p6.length := by rw [h6, show (C.extract 136 (136 + 48)).toList.length = 48 by simp; omega]; exact Tryf.size23
  have r7 : Hid ((w.alloc (.cells C 28)).rangeAt w.heap.size 184 p7) := by rw [h7]; exact World.rangeAt_of_block hb 184 48
  have z7 : (Tryf.prog.info? 23).map (·.size) = some p7.length := by rw [h7, show (C.extract 184 (184 + 48)).toList.length = 48 by simp; omega]; exact Tryf.size23
  have r8 : Hid ((w.alloc (.cells C 28)).rangeAt w.heap.size 232 p8) := by rw [h8]; exact World.rangeAt_of_block hb 232 48
  have z8 : (Tryf.prog.info? 23).map (·.size) = some p8.length := by rw [h8, show (C.extract 232 (232 + 48)).toList.length = 48 by simp; omega]; exact Tryf.size23
  have r9 : Hid ((w.alloc (.cells C 28)).rangeAt w.heap.size 280 p9) := by rw [h9]; exact World.rangeAt_of_block hb 280 48
  have z9 : (Tryf.prog.info? 23).map (·.size) = some p9.length := by rw [h9, show (C.extract 280 (280 + 48)).toList.length = 48 by simp; omega]; exact Tryf.size23
  have r10 : Hid ((w.alloc (.cells C 28)).rangeAt w.heap.size 328 p10) := by rw [h10]; exact World.rangeAt_of_block hb 328 192
  have z10 : (Tryf.prog.info? 25).map (·.size) = some p10.length := by rw [h10, show (C.extract 328 (328 + 192)).toList.length = 192 by simp; omega]; exact Tryf.size25
  have r11 : Hid ((w.alloc (.cells C 28)).rangeAt w.heap.size 520 p11) := by rw [h11]; exact World.rangeAt_of_block hb 520 64
  have z11 : (Tryf.prog.info? 26).map (·.size) = some p11.length := by rw [h11, show (C.extract 520 (520 + 64)).toList.length = 64 by simp; omega]; exact Tryf.size26
  clear h0 h1 h2 h3 h4 h5 h6 h7 h8 h9 h10 h11 hb
  go_enter Tryf.func10, Tryf.ntmps10
  go_wp2_with (first
    | (refine wpList_load_mid rfl 22 (.tmp 3) rfl w.heap.size 0 rfl p0 _ (by exact r0.out) Tryf.underlying22 rfl z0 ?_)
    | (refine wpList_load_mid rfl 23 (.tmp 5) rfl w.heap.size 16 rfl p1 _ (by exact r1.out) Tryf.underlying23 rfl z1 ?_)
    | (refine wpList_load_mid rfl 23 (.tmp 7) rfl w.heap.size 64 rfl p2 _ (by exact r2.out) Tryf.underlying23 rfl z2 ?_)
    | (refine wpList_load_mid rfl 24 (.tmp 9) rfl w.heap.size 112 rfl p3 _ (by exact r3.out) Tryf.underlying24 rfl z3 ?_)
    | (refine wpList_load_mid rfl 24 (.tmp 11) rfl w.heap.size 120 rfl p4 _ (by exact r4.out) Tryf.underlying24 rfl z4 ?_)
    | (refine wpList_load_mid rfl 24 (.tmp 13) rfl w.heap.size 128 rfl p5 _ (by exact r5.out) Tryf.underlying24 rfl z5 ?_)
    | (refine wpList_load_mid rfl 23 (.tmp 15) rfl w.heap.size 136 rfl p6 _ (by exact r6.out) Tryf.underlying23 rfl z6 ?_)
    | (refine wpList_load_mid rfl 23 (.tmp 17) rfl w.heap.size 184 rfl p7 _ (by exact r7.out) Tryf.underlying23 rfl z7 ?_)
    | (refine wpList_load_mid rfl 23 (.tmp 19) rfl w.heap.size 232 rfl p8 _ (by exact r8.out) Tryf.underlying23 rfl z8 ?_)
    | (refine wpList_load_mid rfl 23 (.tmp 21) rfl w.heap.size 280 rfl p9 _ (by exact r9.out) Tryf.underlying23 rfl z9 ?_)
    | (refine wpList_load_mid rfl 25 (.tmp 23) rfl w.heap.size 328 rfl p10 _ (by exact r10.out) Tryf.underlying25 rfl z10 ?_)
    | (refine wpList_load_mid rfl 26 (.tmp 25) rfl w.heap.size 520 rfl p11 _ (by exact r11.out) Tryf.underlying26 rfl z11 ?_)
    | (refine wpList_build' rfl 81 [(0, .tmp 4), (1, .tmp 6), (2, .tmp 8), (3, .tmp 10), (4, .tmp 12), (5, .tmp 14), (6, .tmp 16), (7, .tmp 18), (8, .tmp 20), (9, .tmp 22), (10, .tmp 24), (11, .tmp 26)] rfl (.agg C) [(0, .agg p0.toArray), (1, .agg p1.toArray), (2, .agg p2.toArray), (3, .agg p3.toArray), (4, .agg p4.toArray), (5, .agg p5.toArray), (6, .agg p6.toArray), (7, .agg p7.toArray), (8, .agg p8.toArray), (9, .agg p9.toArray), (10, .agg p10.toArray), (11, .agg p11.toArray)] rfl (B.out _) ?_))
  go_ret
  exact ⟨rfl, rfl⟩

theorem Tryf.zero71 : (Tryf.prog.info? 71).map (fun i => i.zero.map (fun z => z.cells.size)) = some (some 83) := by kernel_rfl
theorem Tryf.struct71 : ∃ fs, Tryf.prog.underlying 71 = some (.struct fs) ∧ ∀ w, (fs.mapM fun (f : Field) => (do pure (f.offset, ← sizeOf f.type) : Sem (Nat × Nat))).run Tryf.prog w = .ok #[(0, 7), (7, 6), (13, 2), (15, 1), (16, 66), (82, 1)] w :=
  ⟨_, Tryf.underlying71, fun w => by kernel_rfl⟩
theorem build71 (m : ModV) (h : m.ok) (a : Option Addr) (n c : Nat) (w : World) : ∃ A : Array Value, (∀ W, (Instr.build 71 #[(4, .agg m.cells.toArray), (5, .slice a n c)]).run Tryf.prog W = .ok (.agg A) W) ∧ ArrAt A 16 m.cells ∧ A[82]? = some (.slice a n c) := by
  obtain ⟨z, hz, hzs⟩ := zero_run Tryf.zero71 w
  obtain ⟨fs, hfs, hpl⟩ := Tryf.struct71
  have l := ModV.length h
  have l4 : (Value.agg m.cells.toArray).cells.size = 66 := by simp [Value.cells, l]
  have l5 : (Value.slice a n c).cells.size = 1 := rfl
  refine ⟨ov (ov z.cells 16 (Value.agg m.cells.toArray).cells) 82 (Value.slice a n c).cells, fun W => ?_, ?_, ?_⟩
  · have hz' : (zeroValue 71).run Tryf.prog W = .ok z W := by
      cases hq : Tryf.prog.info? 71 with
      | none => have := Tryf.zero71; simp [hq] at this
      | some i =>
        cases hzz : i.zero with
        | none => have := Tryf.zero71; simp [hq, hzz] at this
        | some z' =>
          have : z' = z := by simp [zeroValue, typeInfo, hq, hzz] at hz; exact hz
          subst this
          simp [zeroValue, typeInfo, hq, hzz]
    refine run_build_of hz' hfs (hpl W) ?_
    rw [fill_step 16 66 (by rfl) l4 (by omega), fill_step 82 1 (by rfl) l5 (by rw [ov_size]; omega), Instr.fill]
  · exact ov_apart (ov_at z.cells 16 (Value.agg m.cells.toArray).cells (by omega)) _ _ (by left; simp [Value.cells, l])
  · have := ov_at (ov z.cells 16 (Value.agg m.cells.toArray).cells) 82 (Value.slice a n c).cells (by rw [ov_size]; omega) 0 (.slice a n c) rfl
    exact this

set_option maxRecDepth 100000 in
set_option maxHeartbeats 1000000 in
theorem newTCB_any (m : ModV) (h : m.ok) (a : Option Addr) (n c : Nat) (w : World) :
    Calls Tryf.prog 7 #[.agg m.cells.toArray, .slice a n c] w fun e w' => ∃ A : Array Value, e = .returned (.pointer (some ⟨w.heap.size + 1, 0, none⟩)) ∧ w'.rangeAt (w.heap.size + 1) 16 m.cells ∧ w'.cell? ⟨w.heap.size + 1, 82, none⟩ = some (.slice a n c) ∧
      w' = (w.alloc (.cells m.cells.toArray 42)).alloc (.cells A 71) := by
  obtain ⟨A, hA, hA1, hA2⟩ := build71 m h a n c w
  have z42 : (Tryf.prog.info? 42).map (·.size) = some m.cells.toArray.size := by rw [List.size_toArray]; exact size42_of h
  have B := hid hA
  have hb : Hid ((w.alloc (.cells m.cells.toArray 42)).heap[w.heap.size]? = some (.cells m.cells.toArray 42 (0, 0))) := heap_alloc_new w _
  have H1 := hid hA1
  have H2 := hid hA2
  clear hA hA1 hA2
  go_enter Tryf.func7, Tryf.ntmps7
  go_wp2_with (first
    | (refine wpList_load_row rfl 42 (.tmp 2) rfl w.heap.size rfl 42 m.cells.toArray (0, 0) _ (by exact hb.out) Tryf.underlying42 rfl z42 ?_)
    | (refine wpList_build' rfl 71 [(4, .tmp 5), (5, .tmp 6)] rfl (.agg A) [(4, .agg m.cells.toArray), (5, .slice a n c)] rfl (B.out _) ?_))
  go_ret
  refine ⟨A, rfl, fun j v hv => ?_, ?_, rfl⟩
  · rw [World.cell?_alloc_at _ _ _ _ (by simp)]; exact H1.out j v hv
  · rw [World.cell?_alloc_at _ _ _ _ (by simp)]; exact H2.out
end Go.Proofs.Qxb6609499aFmt
