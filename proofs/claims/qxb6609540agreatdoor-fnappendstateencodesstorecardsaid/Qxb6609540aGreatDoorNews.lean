/-
  The makers of the store's parts.
-/
import Derived.Test.Qxb6609540aGreatDoorClone
namespace Go.Proofs.Qxb6609540aGreatDoor
open Go.RowKit
set_option maxRecDepth 100000
theorem newSegment_any (id size : Int) (am : Option Addr) (n c : Nat) (w : World) :
    Calls Tryz.prog 35 #[.int .u64 id, .int .i64 size, .slice am n c] w fun e w' => e = .returned (.pointer (some ⟨w.heap.size, 0, none⟩)) ∧ w' = w.alloc (.cells #[.int .u64 id, .string ByteArray.empty, .int .i64 size, .slice am n c] 122) := by
  go_enter Tryz.func35, Tryz.ntmps35
  go_wp2
  go_ret
  exact ⟨rfl, rfl⟩
theorem newGroup_any (st en : Int) (am : Option Addr) (n c : Nat) (w : World) :
    Calls Tryz.prog 19 #[.int .i64 st, .int .i64 en, .slice am n c] w fun e w' => e = .returned (.pointer (some ⟨w.heap.size, 0, none⟩)) ∧ ∃ cs : Array Value, w' = w.alloc (.cells cs 81) ∧ cs[0]? = some (.int .i64 st) ∧ cs[1]? = some (.int .i64 en) ∧ cs[2]? = some (.slice am n c) := by
  go_enter Tryz.func19, Tryz.ntmps19
  go_wp2
  go_ret
  exact ⟨rfl, _, rfl, rfl, rfl, rfl⟩
theorem newPolicy_any (name : ByteArray) (d s r : Int) (am : Option Addr) (n c : Nat) (w : World) :
    Calls Tryz.prog 21 #[.string name, .int .i64 d, .int .i64 s, .int .i64 r, .slice am n c] w fun e w' => e = .returned (.pointer (some ⟨w.heap.size, 0, none⟩)) ∧ w' = w.alloc (.cells #[.string name, .int .i64 d, .int .i64 s, .int .i64 r, .map none, .slice am n c] 90) := by
  go_enter Tryz.func21, Tryz.ntmps21
  go_wp2
  go_ret
  exact ⟨rfl, rfl⟩
theorem newDb_any (o : Int) (am : Option Addr) (n c : Nat) (dp : ByteArray) (w : World) :
    Calls Tryz.prog 22 #[.int .i64 o, .slice am n c, .string dp] w fun e w' => e = .returned (.pointer (some ⟨w.heap.size, 0, none⟩)) ∧ w' = w.alloc (.cells #[.int .i64 o, .slice am n c, .string dp] 92) := by
  go_enter Tryz.func22, Tryz.ntmps22
  go_wp2
  go_ret
  exact ⟨rfl, rfl⟩
theorem newStore_any (nx cr : Int) (r : Nat) (w : World) :
    Calls Tryz.prog 23 #[.int .u64 nx, .int .i64 cr, .map (some r)] w fun e w' => e = .returned (.pointer (some ⟨w.heap.size, 0, none⟩)) ∧ ∃ cs : Array Value, w' = w.alloc (.cells cs 114) ∧ cs[14]? = some (.map (some r)) ∧ cs[15]? = some (.int .i64 cr) ∧ cs[17]? = some (.int .u64 nx) := by
  go_enter Tryz.func23, Tryz.ntmps23
  go_wp2
  go_ret
  exact ⟨rfl, _, rfl, rfl, rfl, rfl⟩
end Go.Proofs.Qxb6609540aGreatDoor
