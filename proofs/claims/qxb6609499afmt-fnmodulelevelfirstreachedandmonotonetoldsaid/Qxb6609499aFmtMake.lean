/-
  The makers: zzCloneStrings, ZZnewISVLevel, ZZnewModule.
-/
import Derived.Test.Qxb6609499aFmtFill
import Derived.Laws.CopyOwn
namespace Go.Proofs.Qxb6609499aFmt
open Go.RowKit

theorem Tryf.info9 : (Tryf.prog.info? 9).map (fun i => (i.zero, i.size, i.bytes)) = some (some (.string ByteArray.empty), 1, 16) := by kernel_rfl
/-- It returns a slice. -/
def RetSlice (e : Ending) : Prop := ∃ a n c, e = .returned (.slice a n c)
set_option maxRecDepth 100000 in
set_option maxHeartbeats 1000000 in
theorem clone_any (a : Option Addr) (n c : Nat) (w : World) (h : StrAt w a n) :
    Calls Tryf.prog 17 #[.slice a n c] w fun e w' => RetSlice e ∧ Below w.heap.size w w' := by
  obtain ⟨i0, hi, hz0, hs0, hy0⟩ := info_parts Tryf.info9
  have h1 := h.1
  have hb1 : i0.bytes * n ≤ 281474976710656 := by rw [hy0]; omega
  have hm1 : n ≤ maxLen := by unfold maxLen; omega
  have e1 := fun (W : World) (a : Option Addr) (n c n' c' : Nat) => Lib.run_eql_slice_nil (P := Tryf.prog) W 57 9 a n c n' c' Tryf.underlying57
  have H := hid h
  clear h
  by_cases ha : a = none
  · subst ha
    go_enter Tryf.func17, Tryf.ntmps17
    go_wp2
    go_ret
    exact ⟨⟨_, _, _, rfl⟩, Below.refl _ _⟩
  · have ha' : a.isNone = false := by cases a with
      | none => exact absurd rfl ha
      | some x => rfl
    clear ha
    go_enter Tryf.func17, Tryf.ntmps17
    go_wp2_with (at_make; refine wpList_make_full _ rfl (.tmp 8) (.tmp 8) 57 rfl w.heap.size 9 i0 (.string ByteArray.empty) 1 Tryf.underlying57 hi hz0 hs0 .i64 .i64 _ _ n rfl rfl rfl rfl hb1 hm1 (Nat.le_refl _) ?_; intro w1 hown hgrow)
    have hB : Below w.heap.size w w1 := (Below.refl _ _).grown hgrow (Nat.le_refl _) (fun k h => by cases h)
    go_loopw [4] (fun i wr => ∃ k : Nat, k ≤ n ∧ i = .int .i64 k ∧ (∃ xs, wr.ownsRow w.heap.size 9 1 (.slice (some ⟨w.heap.size, 0, none⟩) n n) n xs) ∧ Below w.heap.size w wr) (fun i _ => n - (intOf i).toNat)
    case atStart => exact ⟨0, Nat.zero_le _, rfl, ⟨_, hown⟩, hB⟩
    case round =>
      clear hown hgrow hB hb1 hm1 hi hz0 hs0 hy0
      obtain ⟨k, hk, rfl, ⟨xs, ho⟩, hBr⟩ := hrel
      by_cases hlt : k < n
      · obtain ⟨b, off, s, rfl, hbw, hc, _⟩ := (H.out.below hBr).2 k hlt
        have hfz := ho.frozenAt k
        obtain ⟨u, hu⟩ : ∃ u, wr.cell? ⟨w.heap.size, k, none⟩ = some u := by
          have := ho.cellAt k (by omega)
          rw [this, List.getElem?_eq_getElem (by rw [ho.1]; omega)]
          exact ⟨_, rfl⟩
        have HO := hid ho
        clear ho
        go_wp2
        go_roundw
        case rel => exact ⟨k + 1, by omega, by go_num, ⟨_, (HO.out.stored k (.string s)).1⟩, hBr.setCell (by simp) _⟩
        case measure => simp [intOf]; omega
      · clear ho
        go_wp2
        go_ret
        exact ⟨⟨_, _, _, rfl⟩, hBr⟩
theorem isvLevel_any (n : Int) (s : ByteArray) (a : Option Addr) (l c : Nat) (w : World) :
    Calls Tryf.prog 16 #[.int .u16 n, .string s, .slice a l c] w fun e w' => e = .returned (.agg #[.int .u16 n, .string s, .slice a l c]) ∧ Below w.heap.size w w' := by
  go_enter Tryf.func16, Tryf.ntmps16
  go_wp2
  simp [bodyPost, results, Tryf.results16, go_sem]
  exact (Below.refl _ _).alloc (Nat.le_refl _) _

theorem Tryf.zero42 : (Tryf.prog.info? 42).map (fun i => i.zero.map (fun z => z.cells.size)) = some (some 66) := by kernel_rfl
theorem Tryf.places42 (w : World) : ∃ z, (zeroValue 42).run Tryf.prog w = .ok z w ∧ z.cells.size = 66 := by
  cases hq : Tryf.prog.info? 42 with
  | none => have := Tryf.zero42; simp [hq] at this
  | some i =>
    cases hz : i.zero with
    | none => have := Tryf.zero42; simp [hq, hz] at this
    | some z => exact ⟨z, by simp [zeroValue, typeInfo, hq, hz], by have := Tryf.zero42; simpa [hq, hz] using this⟩

theorem arrAt_append {A : Array Value} {o : Nat} {xs ys : List Value} (h1 : ArrAt A o xs) (n : Nat) (hn : xs.length = n) (h2 : ArrAt A (o + n) ys) : ArrAt A o (xs ++ ys) := fun j v hv => by
  by_cases hj : j < xs.length
  · exact h1 j v (by rwa [List.getElem?_append_left hj] at hv)
  · have := h2 (j - n) v (by rw [List.getElem?_append_right (by omega)] at hv; rwa [hn] at hv)
    rwa [show o + n + (j - n) = o + j by omega] at this
theorem arrAt_eq {A : Array Value} {xs : List Value} (h : ArrAt A 0 xs) (hs : A.size = xs.length) : A = xs.toArray := by
  apply Array.ext
  · simp [hs]
  · intro i h1 h2
    have := h i xs[i] (by rw [List.getElem?_eq_getElem])
    rw [Nat.zero_add, Array.getElem?_eq_getElem h1] at this
    simpa using this

theorem Tryf.struct42 : ∃ fs, Tryf.prog.underlying 42 = some (.struct fs) ∧ ∀ w, (fs.mapM fun (f : Field) => (do pure (f.offset, ← sizeOf f.type) : Sem (Nat × Nat))).run Tryf.prog w = .ok #[(0, 1), (1, 48), (49, 8), (57, 8), (65, 1)] w :=
  ⟨_, Tryf.underlying42, fun w => by kernel_rfl⟩

theorem build42 (w : World) (m : ModV) (h : m.ok) :
    (Instr.build 42 #[(0, .string m.id), (1, .agg (B8 m.sig).toArray), (2, .agg (B8 m.att).toArray), (3, .agg (B8 m.msk).toArray), (4, m.lv)]).run Tryf.prog w = .ok (.agg m.cells.toArray) w := by
  obtain ⟨z, hz, hzs⟩ := Tryf.places42 w
  have l0 := h.2.1.1
  have l1 := h.2.2.1.1
  have l2 := h.2.2.2.1
  obtain ⟨fs, hfs, hpl⟩ := Tryf.struct42
  refine run_build_of hz hfs (hpl w) ?_
  rw [fill_step 0 1 (by rfl) (by rfl) (by omega),
    fill_step 1 48 (by rfl) (by simp [Value.cells, B8_length, l0]) (by rw [ov_size]; omega),
    fill_step 49 8 (by rfl) (by simp [Value.cells, B8_length, l1]) (by rw [ov_size, ov_size]; omega),
    fill_step 57 8 (by rfl) (by simp [Value.cells, B8_length, l2]) (by rw [ov_size, ov_size, ov_size]; omega),
    fill_step 65 1 (by rfl) (by rfl) (by rw [ov_size, ov_size, ov_size, ov_size]; omega), Instr.fill]
  refine congrArg some ?_
  refine arrAt_eq ?_ (by rw [ov_size, ov_size, ov_size, ov_size, ov_size, ModV.length h]; exact hzs)
  have c0 : (Value.string m.id).cells.size = 1 := rfl
  have c1 : (Value.agg (B8 m.sig).toArray).cells.size = 48 := by simp [Value.cells, B8_length, l0]
  have c2 : (Value.agg (B8 m.att).toArray).cells.size = 8 := by simp [Value.cells, B8_length, l1]
  have c3 : (Value.agg (B8 m.msk).toArray).cells.size = 8 := by simp [Value.cells, B8_length, l2]
  have c4 : m.lv.cells.size = 1 := rfl
  refine arrAt_append (xs := [.string m.id]) ?_ 1 rfl (arrAt_append ?_ 48 (by rw [B8_length, l0]) (arrAt_append ?_ 8 (by rw [B8_length, l1]) (arrAt_append ?_ 8 (by rw [B8_length, l2]) ?_)))
  · refine ov_apart (ov_apart (ov_apart (ov_apart ?_ _ _ ?_) _ _ ?_) _ _ ?_) _ _ ?_
    · exact ov_at _ _ _ (by omega)
    all_goals (left; simp)
  · refine ov_apart (ov_apart (ov_apart ?_ _ _ ?_) _ _ ?_) _ _ ?_
    · exact ov_at _ _ _ (by rw [ov_size]; omega)
    all_goals (left; rw [B8_length]; omega)
  · refine ov_apart (ov_apart ?_ _ _ ?_) _ _ ?_
    · exact ov_at _ _ _ (by rw [ov_size, ov_size]; omega)
    all_goals (left; rw [B8_length]; omega)
  · refine ov_apart ?_ _ _ ?_
    · exact ov_at _ _ _ (by rw [ov_size, ov_size, ov_size]; omega)
    all_goals (left; rw [B8_length]; omega)
  · exact ov_at _ _ _ (by rw [ov_size, ov_size, ov_size, ov_size]; omega)


theorem size_alloc (w : World) (o : Obj) : (w.alloc o).heap.size = w.heap.size + 1 := by simp
theorem heap4_0 (w : World) (A B C D : Obj) : ((((w.alloc A).alloc B).alloc C).alloc D).heap[w.heap.size]? = some A := by
  rw [Below.heap_alloc _ _ _ (by simp; omega), Below.heap_alloc _ _ _ (by simp; omega), Below.heap_alloc _ _ _ (by simp), heap_alloc_new]
theorem heap4_1 (w : World) (A B C D : Obj) : ((((w.alloc A).alloc B).alloc C).alloc D).heap[w.heap.size + 1]? = some B := by
  rw [Below.heap_alloc _ _ _ (by simp), Below.heap_alloc _ _ _ (by simp), ← size_alloc w A, heap_alloc_new]
theorem heap4_2 (w : World) (A B C D : Obj) : ((((w.alloc A).alloc B).alloc C).alloc D).heap[w.heap.size + 1 + 1]? = some C := by
  rw [Below.heap_alloc _ _ _ (by simp), ← size_alloc w A, ← size_alloc _ B, heap_alloc_new]
theorem heap4_3 (w : World) (A B C D : Obj) : ((((w.alloc A).alloc B).alloc C).alloc D).heap[w.heap.size + 1 + 1 + 1]? = some D := by
  rw [← size_alloc w A, ← size_alloc _ B, ← size_alloc _ C, heap_alloc_new]
theorem size_of23 {zs : List Int} (h : zs.length = 48) : (Tryf.prog.info? 23).map (·.size) = some (B8 zs).toArray.size := by
  rw [List.size_toArray, B8_length, h]; exact Tryf.size23
theorem size_of24 {zs : List Int} (h : zs.length = 8) : (Tryf.prog.info? 24).map (·.size) = some (B8 zs).toArray.size := by
  rw [List.size_toArray, B8_length, h]; exact Tryf.size24
theorem ModV.one (m : ModV) : ∀ v ∈ m.cells, v.oneCell' = true := by
  intro v hv
  simp only [ModV.cells, List.mem_cons, List.mem_append, List.not_mem_nil, or_false] at hv
  rcases hv with rfl | hv | hv | hv | rfl
  · rfl
  · exact B8_one _ v hv
  · exact B8_one _ v hv
  · exact B8_one _ v hv
  · rfl
theorem below_setRow' {B g : Nat} {w0 w : World} (hb : Below B w0 w) (hBg : B ≤ g) (cs : Array Value) : Below B w0 (w.setRow g cs) := below_setRow hb hBg cs

set_option maxRecDepth 100000 in
set_option maxHeartbeats 1000000 in
theorem newModule_any (m : ModV) (h : m.ok) (w : World) :
    Calls Tryf.prog 18 #[.string m.id, .agg (B8 m.sig).toArray, .agg (B8 m.att).toArray, .agg (B8 m.msk).toArray, .slice m.la m.ln m.lc] w fun e w' =>
      e = .returned (.agg m.cells.toArray) ∧ Below w.heap.size w w' := by
  have z23 := size_of23 h.2.1.1
  have z24 := size_of24 h.2.2.1.1
  have z24' := size_of24 h.2.2.2.1
  have HM := hid h
  have z42 : (Tryf.prog.info? 42).map (·.size) = some m.cells.toArray.size := by rw [List.size_toArray]; exact size42_of h
  have HL := hid (ModV.length h)
  clear h
  go_enter Tryf.func18, Tryf.ntmps18
  go_wp2_with (first
    | (refine wpList_alloc_z rfl 42 rfl 66 Tryf.zero42 ?_; intro Z hZ)
    | (refine wpList_load_row rfl 23 (.tmp 6) rfl w.heap.size rfl 23 (B8 m.sig).toArray (0, 0) _ (by exact heap4_0 w _ _ _ _) Tryf.underlying23 rfl z23 ?_)
    | (refine wpList_load_row rfl 24 (.tmp 7) rfl (w.heap.size + 1) rfl 24 (B8 m.att).toArray (0, 0) _ (by exact heap4_1 w _ _ _ _) Tryf.underlying24 rfl z24 ?_)
    | (refine wpList_load_row rfl 24 (.tmp 8) rfl (w.heap.size + 1 + 1) rfl 24 (B8 m.msk).toArray (0, 0) _ (by exact heap4_2 w _ _ _ _) Tryf.underlying24 rfl z24' ?_)
    | (refine wpList_build rfl 42 [(0, .tmp 11), (1, .tmp 12), (2, .tmp 13), (3, .tmp 14), (4, .tmp 15)] rfl (.agg m.cells.toArray) (by simpa [ModV.lv, go_sem] using build42 ((((w.alloc (Obj.cells (B8 m.sig).toArray 23)).alloc (Obj.cells (B8 m.att).toArray 24)).alloc (Obj.cells (B8 m.msk).toArray 24)).alloc (Obj.cells Z 42)) m HM.out) ?_)
    | (refine wpList_store_row rfl 42 (.tmp 10) (.tmp 16) rfl (w.heap.size + 1 + 1 + 1) m.cells.toArray Z 42 rfl rfl (by exact heap4_3 w _ _ _ _) (by rw [hZ, List.size_toArray, HL.out]) z42 (by simpa using ModV.one m) ?_))
  refine bodyPost_ret (v := .agg m.cells.toArray) (results_cell_row rfl _ _ (w.heap.size + 1 + 1 + 1) 42 _ (0, 0) _ rfl (setRow_heap _ _ _ _ _ _ (heap4_3 w _ _ _ _)) Tryf.underlying42 rfl z42) rfl ⟨rfl, ?_⟩
  exact below_setRow (((((Below.refl _ _).alloc (Nat.le_refl _) _).alloc (by simp) _).alloc (by simp; omega) _).alloc (by simp; omega) _) (by omega) _
end Go.Proofs.Qxb6609499aFmt
