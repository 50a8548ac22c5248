/-
  fmt's two stopped fronts on the road: Errorf hands back an error that is not nil; Sprintf's text is told.
-/
import Derived.Test.Qxb6609499aFmtShapes
import Derived.Stop.CallBack
import Derived.Stop.IfaceNil
import Derived.Laws.Externs
import Derived.Stop.AnyFormat
import Derived.Stop.Told
import Derived.Stop.Texts
namespace Go.Proofs.Qxb6609499aFmt
open Go.RowKit Go.Extern.Stop Go.Stop Go.Extern
theorem Tryf.call29 (args : Array Value) (w : World) : (callFunc 29 args).run Tryf.prog w = ((FmtStop.errorf #[9, 94] #[46] args).run Tryf.prog w).andThen fun v w' => .ok (.value v) w' :=
  run_callFunc_extern Tryf.func29 (by kernel_rfl) (by kernel_rfl) (by kernel_rfl) (by kernel_rfl) args w
theorem Tryf.call23 (args : Array Value) (w : World) : (callFunc 23 args).run Tryf.prog w = ((FmtStop.sprintf #[9, 94] #[9] args).run Tryf.prog w).andThen fun v w' => .ok (.value v) w' :=
  run_callFunc_extern Tryf.func23 (by kernel_rfl) (by kernel_rfl) (by kernel_rfl) (by kernel_rfl) args w
theorem Tryf.guard (name : String) (w : World) : (FmtStop.guard name).run Tryf.prog w = .ok () w := by kernel_rfl
theorem Tryf.ptr99 (w : World) : (FmtStop.ptrTo "errors.errorString").run Tryf.prog w = .ok 99 w := by kernel_rfl
theorem Tryf.elem99 (w : World) : (elemOf 99).run Tryf.prog w = .ok 101 w := by kernel_rfl

/-- An operand that reads. -/
def Reads (verb : UInt8) (v : Value) : Prop := ∀ w, ∃ r, (FmtStop.operand "fmt.errorf" true verb false v).run Tryf.prog w = .ok r w

theorem readAll_ok (vs : List Value) : ∀ (ps : List (Nat × UInt8 × Bool)), (∀ p ∈ ps, p.2.2 = false ∧ ∃ v, vs[p.1]? = some v ∧ Reads p.2.1 v) → ∀ w, ∃ rs, (FmtStop.readAll "fmt.errorf" true vs ps).run Tryf.prog w = .ok rs w
  | [], _, w => ⟨[], rfl⟩
  | (i, verb, sharp) :: rest, h, w => by
    obtain ⟨h1, v, h2, h3⟩ := h (i, verb, sharp) (by simp)
    simp only at h1 h2 h3
    subst h1
    obtain ⟨r, hr⟩ := h3 w
    obtain ⟨rs, hrs⟩ := readAll_ok vs rest (fun p hp => h p (by simp [hp])) w
    exact ⟨r :: rs, by simp [FmtStop.readAll, h2, hr, hrs]⟩

theorem errorf_run (f : ByteArray) (vs : List Value) (b n c : Nat) (ps : List (Nat × UInt8 × Bool)) (w : World) (hn : vs.length = n) (hne : vs.isEmpty = false) (hc : ∀ j v, vs[j]? = some v → w.cell? ⟨b, j, none⟩ = some v)
    (hps : ∀ W, (FmtDoors.printed f n).run Tryf.prog W = .ok ps W) (hno : ps.filter (·.2.1 == 119) = []) (hrd : ∀ p ∈ ps, p.2.2 = false ∧ ∃ v, vs[p.1]? = some v ∧ Reads p.2.1 v) :
    ∃ s, (callFunc 29 #[.string f, .slice (some ⟨b, 0, none⟩) n c]).run Tryf.prog w = .ok (.value (.iface 99 (.pointer (some ⟨w.heap.size, 0, none⟩)))) ((w.alloc (.cells #[.string s] 101)).drew) := by
  obtain ⟨rs, hrs⟩ := readAll_ok vs ps hrd w
  have hl : (loadCells ⟨b, 0, none⟩ n).run Tryf.prog w = .ok vs.toArray w := by
    rw [← hn]
    exact run_loadCells_list (P := Tryf.prog) w ⟨b, 0, none⟩ vs (fun j v hv => by rw [Addr.add_mid, Nat.zero_add]; exact hc j v hv)
  have hcells : (FmtStop.cells (.slice (some ⟨b, 0, none⟩) n c)).run Tryf.prog w = .ok vs w := by
    simp [FmtStop.cells, hl]
  rw [Tryf.call29]
  rw [FmtStop.errorf_lit]
  simp only [Sem.run_bind, Tryf.guard, Result.andThen_ok, hcells]
  simp [hne, hn, hps, hrs, FmtStop.text, hno, Tryf.ptr99, Tryf.elem99, FmtStop.str, newVar, newRow, Value.cells]
  rw [if_neg (by simp [Question.forced])]
  exact ⟨_, rfl⟩

theorem reads_str (s : ByteArray) : Reads 115 (.iface 9 (.string s)) := fun w => ⟨(12 :: FmtStop.pack [115, 116, 114, 105, 110, 103], FmtStop.pack s.data.toList), by kernel_rfl⟩
theorem reads_u8 (n : Int) : Reads 100 (.iface 5 (.int .u8 n)) := fun w => ⟨(6 :: FmtStop.pack [117, 105, 110, 116, 56], digits 8 (n % 2 ^ 64).toNat), by kernel_rfl⟩
theorem value_u8 (n : Int) (fuel : Nat) (w : World) : ∃ r, (FmtStop.value "fmt.errorf" (fuel + 1) 5 [.int .u8 n]).run Tryf.prog w = .ok r w := ⟨_, by simp [FmtStop.value, run_underlying Tryf.underlying5]; rfl⟩
theorem reads_arr (t n : Nat) (zs : List Int) (hz : zs.length = n) (hu : Tryf.prog.underlying t = some (.array n 5)) (sh : List UInt8) (hsh : ∀ w, (FmtStop.shape "fmt.errorf" ["Format", "Error", "String"] 8 t).run Tryf.prog w = .ok sh w)
    (hop : ∀ w x, (FmtStop.operand "fmt.errorf" true 120 false (.iface t (.agg x))).run Tryf.prog w = (do pure (← FmtStop.shape "fmt.errorf" ["Format", "Error", "String"] 8 t, ← FmtStop.value "fmt.errorf" 8 t x.toList) : Sem (List UInt8 × List UInt8)).run Tryf.prog w)
    (hsz : ∀ w, (sizeOf 5).run Tryf.prog w = .ok 1 w) : Reads 120 (.iface t (.agg (B8 zs).toArray)) := fun w => by
  have hv : ∃ r, (FmtStop.value "fmt.errorf" 8 t (B8 zs)).run Tryf.prog w = .ok r w := by
    obtain ⟨rs, hrs⟩ := FmtStop.run_mapM_ok (P := Tryf.prog) (w := w) (fun i => FmtStop.value "fmt.errorf" 7 5 (((B8 zs).drop i).take 1)) (List.range n) (fun i hi => by
      have hi' : i < zs.length := by rw [hz]; simpa using hi
      have e : ((B8 zs).drop i).take 1 = [.int .u8 (zs.getD i 0)] := by
        rw [List.drop_eq_getElem_cons (by rw [B8_length]; exact hi')]
        simp [B8, List.getD, List.getElem?_eq_getElem hi']
      rw [e]
      exact value_u8 _ 6 w)
    exact ⟨rs.flatten, by rw [FmtStop.value.eq_def]; simp [run_underlying hu, hsz, hrs]⟩
  obtain ⟨r, hr⟩ := hv
  exact ⟨(sh, r), by rw [hop]; simp [hsh, hr]⟩
theorem Tryf.size5' (w : World) : (sizeOf 5).run Tryf.prog w = .ok 1 w := by kernel_rfl
theorem reads48 (zs : List Int) (hz : zs.length = 48) : Reads 120 (.iface 23 (.agg (B8 zs).toArray)) :=
  reads_arr 23 48 zs hz Tryf.underlying23 (17 :: FmtStop.pack [91, 52, 56, 93, 117, 105, 110, 116, 56] ++ digits 8 48 ++ (6 :: FmtStop.pack [117, 105, 110, 116, 56])) (fun w => by kernel_rfl) (fun w x => by kernel_rfl) Tryf.size5'
theorem reads8 (zs : List Int) (hz : zs.length = 8) : Reads 120 (.iface 24 (.agg (B8 zs).toArray)) :=
  reads_arr 24 8 zs hz Tryf.underlying24 (17 :: FmtStop.pack [91, 56, 93, 117, 105, 110, 116, 56] ++ digits 8 8 ++ (6 :: FmtStop.pack [117, 105, 110, 116, 56])) (fun w => by kernel_rfl) (fun w x => by kernel_rfl) Tryf.size5'

/-- It returns an error that is not nil. -/
def RetErr (e : Ending) : Prop := ∃ t x, e = .returned (.iface t x)
theorem errorf_any (f : ByteArray) (vs : List Value) (b n c : Nat) (ps : List (Nat × UInt8 × Bool)) (w : World) (hn : vs.length = n) (hne : vs.isEmpty = false) (hc : ∀ j v, vs[j]? = some v → w.cell? ⟨b, j, none⟩ = some v)
    (hps : ∀ W, (FmtDoors.printed f n).run Tryf.prog W = .ok ps W) (hno : ps.filter (·.2.1 == 119) = []) (hrd : ∀ p ∈ ps, p.2.2 = false ∧ ∃ v, vs[p.1]? = some v ∧ Reads p.2.1 v) :
    Calls Tryf.prog 26 #[.string f, .slice (some ⟨b, 0, none⟩) n c] w fun e w' => RetErr e ∧ Below w.heap.size w w' := by
  obtain ⟨s, hs⟩ := errorf_run f vs b n c ps w hn hne hc hps hno hrd
  clear hc hps hno hrd
  go_enter Tryf.func26, Tryf.ntmps26
  go_wp2_with (simp only [hs])
  go_ret
  exact ⟨⟨_, _, rfl⟩, ((Below.refl _ _).alloc (Nat.le_refl _) _).drew⟩

/-- "TDX_%02X". -/
def tdxFmt : ByteArray := ⟨#[84, 68, 88, 95, 37, 48, 50, 88]⟩
/-- What fmt.Sprintf is asked. -/
def tdxAsk (x : Int) : List (List UInt8) := [[84, 68, 88, 95, 37, 48, 50, 88], 6 :: FmtStop.pack [117, 105, 110, 116, 56], digits 8 (x % 2 ^ 64).toNat]
/-- An upper-case hex digit. -/
def hexUp (d : Nat) : UInt8 := if d < 10 then (48 + d).toUInt8 else (55 + d).toUInt8
/-- The module's name. -/
def tdxName (x : Int) : List UInt8 := [84, 68, 88, 95, hexUp (x.toNat / 16), hexUp (x.toNat % 16)]
theorem tdx_all : (List.range 256).all (fun k => FmtText.text "fmt.Sprintf" (tdxAsk (k : Int)) == some (tdxName (k : Int))) = true := by decide +kernel
theorem tdx_text (x : Int) (h0 : 0 ≤ x) (h1 : x ≤ 255) : FmtText.text "fmt.Sprintf" (tdxAsk x) = some (tdxName x) := by
  obtain ⟨k, rfl⟩ := Int.eq_ofNat_of_zero_le h0
  have := List.all_eq_true.1 tdx_all k (by simp; omega)
  simpa using this
theorem sprintf_run (F : Interp) (x : Int) (b c : Nat) (w : World) (hF : F.told.answers w.tape) (h0 : 0 ≤ x) (h1 : x ≤ 255) (hc : w.cell? ⟨b, 0, none⟩ = some (.iface 5 (.int .u8 x))) :
    ∃ s : ByteArray, s.data.toList = tdxName x ∧ (callFunc 23 #[.string tdxFmt, .slice (some ⟨b, 0, none⟩) 1 c]).run Tryf.prog w = .ok (.value (.string s)) w.drew := by
  refine ⟨FmtStop.textOf (F.told "fmt.Sprintf" (tdxAsk x) 0), ?_, ?_⟩
  · rw [Kit.textOf_list, told_string F (tdx_text x h0 h1) (by simp [tdxName])]
  · have hl : (loadCells ⟨b, 0, none⟩ 1).run Tryf.prog w = .ok #[.iface 5 (.int .u8 x)] w :=
      run_loadCells_list (P := Tryf.prog) w ⟨b, 0, none⟩ [.iface 5 (.int .u8 x)] (fun j v hv => by
        match j, hv with
        | 0, hv => simp at hv; subst hv; rw [Addr.add_mid]; exact hc)
    have hcells : (FmtStop.cells (.slice (some ⟨b, 0, none⟩) 1 c)).run Tryf.prog w = .ok [.iface 5 (.int .u8 x)] w := by simp [FmtStop.cells, hl]
    have hp : FmtStop.printed? tdxFmt 1 = some [(0, 88, false)] := by kernel_rfl
    have ho : (FmtStop.operand "fmt.Sprintf" false 88 false (.iface 5 (.int .u8 x))).run Tryf.prog w = .ok (6 :: FmtStop.pack [117, 105, 110, 116, 56], digits 8 (x % 2 ^ 64).toNat) w := by kernel_rfl
    have hr : (FmtStop.readAll "fmt.Sprintf" false [.iface 5 (.int .u8 x)] [(0, 88, false)]).run Tryf.prog w = .ok [(6 :: FmtStop.pack [117, 105, 110, 116, 56], digits 8 (x % 2 ^ 64).toNat)] w := by
      simp [FmtStop.readAll, ho]
    rw [Tryf.call23, FmtStop.sprintf_lit]
    simp only [Sem.run_bind, Tryf.guard, Result.andThen_ok, hcells, List.length_cons, List.length_nil, Nat.zero_add, hp, hr]
    rw [FmtStop.run_text F.told _ _ _ w hF]
    rfl
end Go.Proofs.Qxb6609499aFmt
