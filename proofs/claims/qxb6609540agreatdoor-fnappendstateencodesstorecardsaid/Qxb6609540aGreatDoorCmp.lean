/-
  The comparison that databaseNames sorts by.
-/
import Derived.Test.Qxb6609540aGreatDoorBuild
import Derived.BigQuiet
import Derived.Deep.DeepCutAuto
import Derived.Deep.Cut
namespace Go.Proofs.Qxb6609540aGreatDoor
open Go.RowKit Go.ChangeMaps
set_option linter.unusedSimpArgs false
def cmpI (x y : Int) : Int := if x < y then -1 else if y < x then 1 else 0
theorem isNaN63 (x : Int) (w : World) : Calls Tryz.prog 63 #[.int .i64 x] w fun e w' => e = .returned (.bool false) ∧ w = w' := by
  go_enter Tryz.func63, Tryz.ntmps63
  go_wp2
  go_ret
  exact ⟨rfl, rfl⟩
theorem cmp52 (x y : Int) (w : World) : Calls Tryz.prog 52 #[.int .i64 x, .int .i64 y] w fun e w' => e = .returned (.int .i64 (cmpI x y)) ∧ w = w' := by
  unfold cmpI
  by_cases h1 : x < y
  · rw [if_pos h1]
    go_enter Tryz.func52, Tryz.ntmps52
    go_wp2_with (go_at_call 63; refine (isNaN63 _ _).mono ?_; rintro e w1 ⟨rfl, rfl⟩)
    go_ret
    exact ⟨rfl, rfl⟩
  · rw [if_neg h1]
    by_cases h2 : y < x
    · rw [if_pos h2]
      go_enter Tryz.func52, Tryz.ntmps52
      go_wp2_with (go_at_call 63; refine (isNaN63 _ _).mono ?_; rintro e w1 ⟨rfl, rfl⟩)
      go_ret
      exact ⟨rfl, rfl⟩
    · rw [if_neg h2]
      go_enter Tryz.func52, Tryz.ntmps52
      go_wp2_with (go_at_call 63; refine (isNaN63 _ _).mono ?_; rintro e w1 ⟨rfl, rfl⟩)
      go_ret
      exact ⟨rfl, rfl⟩
theorem cmp52' (x y : Int) (w : World) : Calls Tryz.prog 52 #[.int .i64 x, .int .i64 y] w fun e w' => e = .returned (.int .i64 (cmpI x y)) ∧ w' = w := (cmp52 x y w).mono fun _ _ ⟨h1, h2⟩ => ⟨h1, h2.symm⟩
theorem wpQuiet_lookup {P : Program} {ops : Array Oper} {C : World → Prop} {Q : Act → Prop} {rest : List Oper} {op : Oper} {a : Act} (hw : Region.wanted op (yielded ops a.tmps) = true) (ty : TypeId) (x y : Operand) (ho : op.op = .lookup ty x y false)
    (m k v : Value) (hx : a.eval x = m) (hy : a.eval y = k) (hl : ∀ w, C w → (Instr.lookup ty m k false).run P w = .ok v w)
    (h : wpQuiet P ops C Q rest (a.put op.dst v)) : wpQuiet P ops C Q (op :: rest) a :=
  wpQuiet_step fun K hK => by
    rw [if_pos hw]
    refine ⟨_, fun w hw => ?_, hK _ h⟩
    unfold Oper.quietAt execOp
    simp only [ho, hx, hy, Sem.run_bind, hl w hw, Result.andThen_ok, Sem.run_pure, Oper.quietUpon, and_self]
/-- The closure: two names that the map holds. -/
theorem closure51 (bx st rm : Nat) (ML : List (ByteArray × Nat)) (s t : ByteArray) (g h : Nat) (x y : Int) (w : World) (h0 : w.cell? ⟨bx, 0, none⟩ = some (.pointer (some ⟨st, 0, none⟩))) (h1 : w.cell? ⟨st, 14, none⟩ = some (.map (some rm))) (hn : NamesAt w rm ML) (hs : nameAt ML s = some g) (ht : nameAt ML t = some h)
    (hg : w.cell? ⟨g, 0, none⟩ = some (.int .i64 x)) (hh : w.cell? ⟨h, 0, none⟩ = some (.int .i64 y)) :
    Calls Tryz.prog 51 #[.string s, .string t, .pointer (some ⟨bx, 0, none⟩)] w fun e w' => e = .returned (.int .i64 (cmpI x y)) ∧ ∃ q, w' = w.drewN q := by
  have l1 : ∀ w', (∃ n, w' = w.drewN n) → (Instr.lookup 53 (.map (some rm)) (.string s) false).run Tryz.prog w' = .ok (.pointer (some ⟨g, 0, none⟩)) w' := by
    rintro _ ⟨n, rfl⟩
    have := names_look (w := w.drewN n) (hn.kept rfl) s
    rwa [hs] at this
  have l2 : ∀ w', (∃ n, w' = w.drewN n) → (Instr.lookup 53 (.map (some rm)) (.string t) false).run Tryz.prog w' = .ok (.pointer (some ⟨h, 0, none⟩)) w' := by
    rintro _ ⟨n, rfl⟩
    have := names_look (w := w.drewN n) (hn.kept rfl) t
    rwa [ht] at this
  have hc := cmp52' x y
  generalize cmpI x y = r at hc ⊢
  have HC := hid hc
  clear hn hs ht hc
  go_enter Tryz.func51, Tryz.ntmps51
  go_upto_region 1 with fail
  refine wp_region_quiet_lit (by kernel_rfl) (by kernel_rfl) ?_
  iterate 5 go_big_quiet_step (fail)
  refine wpQuiet_lookup (by rfl) 53 (.tmp 9) (.tmp 10) rfl _ _ _ rfl rfl l1 ?_
  simp only [Act.put, List.setIfInBounds_toArray, List.set_cons_zero, List.set_cons_succ]
  iterate 8 go_big_quiet_step (fail)
  refine wpQuiet_lookup (by rfl) 53 (.tmp 18) (.tmp 19) rfl _ _ _ rfl rfl l2 ?_
  simp only [Act.put, List.setIfInBounds_toArray, List.set_cons_zero, List.set_cons_succ]
  iterate 3 go_big_quiet_step (fail)
  iterate 2 go_big_quiet_step (first | (go_at_call 52; refine Calls.quiet_of_same (HC.out _)))
  refine wpQuiet_nil ?_
  rintro _ ⟨nq, rfl⟩
  go_wp2
  go_ret
  exact ⟨rfl, _, rfl⟩
end Go.Proofs.Qxb6609540aGreatDoor
