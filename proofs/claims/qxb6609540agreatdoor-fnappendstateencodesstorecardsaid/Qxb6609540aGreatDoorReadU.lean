/-
  The canonical reader: zzReadU.
-/
import Derived.Test.Qxb6609540aGreatDoorFacts
import Derived.Lib.VarintBits
import Derived.Laws.Closers25b
namespace Go.Proofs.Qxb6609540aGreatDoor
open Go.RowKit
set_option linter.unusedSimpArgs false
/-- E stands in T from place i on. -/
def On (T : List Value) (i : Nat) (E : List Value) : Prop := ∀ (j : Nat) v, E[j]? = some v → T[i + j]? = some v
theorem On.left {T E F : List Value} {i : Nat} (h : On T i (E ++ F)) : On T i E := fun j v hj => h j v (by
  rw [List.getElem?_append_left (List.getElem?_eq_some_iff.1 hj).1]; exact hj)
theorem On.right {T E F : List Value} {i : Nat} (h : On T i (E ++ F)) : On T (i + E.length) F := fun j v hj => by
  have := h (E.length + j) v (by rw [List.getElem?_append_right (by omega), Nat.add_sub_cancel_left]; exact hj)
  rwa [← Nat.add_assoc] at this
theorem On.at {α : Type} {f : α → List Value} {L : List α} {T : List Value} {i : Nat} (h : On T i (L.flatMap f)) {k : Nat} {x : α} (hk : L[k]? = some x) : On T (i + ((L.take k).flatMap f).length) (f x) := by
  have hk' := (List.getElem?_eq_some_iff.1 hk).1
  have e : L.flatMap f = (L.take (k + 1)).flatMap f ++ (L.drop (k + 1)).flatMap f := by rw [← List.flatMap_append, List.take_append_drop]
  rw [e, flat_next f hk] at h
  exact h.left.right
theorem On.len {T E : List Value} {i : Nat} (h : On T i E) (hp : 0 < E.length) : i + E.length ≤ T.length := by
  have h1 := h (E.length - 1) _ (List.getElem?_eq_getElem (by omega))
  have := (List.getElem?_eq_some_iff.1 h1).1
  omega
theorem eU_small {y : Nat} (h : y < 128) : eU y = [.int .u8 (y : Nat)] := by
  rw [eU, Lib.uvarint_small h]
  simp [Lib.byteCells]; omega
theorem eU_big {y : Nat} (h : 128 ≤ y) : eU y = .int .u8 ((y % 128 + 128 : Nat) : Int) :: eU (y / 128) := by
  rw [eU, Lib.uvarint_big h]
  simp only [Lib.byteCells, List.map_cons, eU]
  congr 2
  simp; omega
/-- A row, told by its cells. -/
def RowAt (w : World) (g : Nat) (T : List Value) : Prop := g < w.heap.size ∧ T.length ≤ 140737488355328 ∧ ∀ (j : Nat) v, T[j]? = some v → w.cell? ⟨g, j, none⟩ = some v
theorem RowAt.below {w w' : World} {g : Nat} {T : List Value} (h : RowAt w g T) (hb : Below w.heap.size w w') : RowAt w' g T :=
  ⟨Nat.lt_of_lt_of_le h.1 hb.size, h.2.1, fun j v hj => (hb.cell (p := ⟨g, j, none⟩) h.1).trans (h.2.2 j v hj)⟩
set_option maxRecDepth 100000 in
set_option maxHeartbeats 8000000 in
theorem readU_any (g cap : Nat) (T : List Value) (w : World) (hT : RowAt w g T) (i x : Nat) (hx : x < 18446744073709551616) (hO : On T i (eU x)) :
    Calls Tryz.prog 46 #[.slice (some ⟨g, 0, none⟩) T.length cap, .int .i64 i] w fun e w' => e = .returned (.tuple #[.int .u64 x, .int .i64 ((i + (eU x).length : Nat) : Int), .bool true]) ∧ w' = w := by
  have HT := hid hT.2.2
  have HO := hid hO
  have hl := hT.2.1
  obtain ⟨N, hN⟩ : ∃ N, N = i + (eU x).length := ⟨_, rfl⟩
  rw [← hN]
  have HN := hid hN
  clear hT hO hN
  go_enter Tryz.func46, Tryz.ntmps46
  go_wp2
  go_loop [1, 7, 8, 9] (fun v1 v7 v8 v9 => ∃ k acc y : Nat, k ≤ 9 ∧ v9 = .int .i64 k ∧ v8 = .int .u64 ((7 * k : Nat) : Int) ∧ v1 = .int .i64 ((i + k : Nat) : Int) ∧ v7 = .int .u64 acc ∧ Hid (acc = x % 2 ^ (7 * k) ∧ y = x / 2 ^ (7 * k) ∧ On T (i + k) (eU y) ∧ N = i + k + (eU y).length ∧ (0 < k → 1 ≤ y)))
    (fun _ _ _ v9 => 10 - (intOf v9).toNat)
  case atStart => exact ⟨0, 0, x, by omega, rfl, rfl, rfl, rfl, by rw [Hid]; exact ⟨by simp; omega, by simp, HO.out, HN.out, fun h => absurd h (by omega)⟩⟩
  case round =>
    obtain ⟨k, acc, y, hk, rfl, rfl, rfl, rfl, HH⟩ := hrel
    have hks : k = 0 ∨ k = 1 ∨ k = 2 ∨ k = 3 ∨ k = 4 ∨ k = 5 ∨ k = 6 ∨ k = 7 ∨ k = 8 ∨ k = 9 := by omega
    rcases hks with rfl | rfl | rfl | rfl | rfl | rfl | rfl | rfl | rfl | rfl
    · obtain ⟨ha, hy, hon, hn, hp⟩ := HH.out
      obtain rfl : acc = 0 := by have h7 := ha; simp at h7; omega
      have eP : (2 : Nat) ^ (7 * 0) = 1 := by decide
      rw [eP] at ha hy
      by_cases hb : y < 128
      · rw [eU_small hb] at hon hn
        have hc := hon 0 _ rfl
        have hlt : i < T.length := by have := (List.getElem?_eq_some_iff.1 hc).1; omega
        have hcell : w.cell? ⟨g, i, none⟩ = some _ := HT.out _ _ hc
        have hn' : N = i + 0 + 1 := by simpa using hn
        have hv : bits .or .u64 0 (IntKind.u64.wrap (IntKind.u64.wrap (bits .and .u8 (y : Int) 127))) = (x : Int) := by
          simp (disch := omega) only [u8_and127, u64_wrap_id, u64_orv0]
          omega
        have HN' := hid hn'
        clear ha hy hon hn hp HH hc hn'
        go_wp2
        go_ret3
        exact ⟨by rw [HN'.out]; rfl, rfl⟩
      · have hb' : 128 ≤ y := by omega
        rw [eU_big hb'] at hon hn
        have hc := hon 0 _ rfl
        have hlt : i < T.length := by have := (List.getElem?_eq_some_iff.1 hc).1; omega
        have hcell : w.cell? ⟨g, i, none⟩ = some _ := HT.out _ _ hc
        have hon' : On T (i + 0 + 1) (eU (y / 128)) := fun j v hj => by have := hon (j + 1) v hj; rwa [show i + 0 + (j + 1) = i + 0 + 1 + j by omega] at this
        have hn' : N = i + 0 + 1 + (eU (y / 128)).length := by simp at hn; omega
        have hv : bits .or .u64 0 (IntKind.u64.wrap (IntKind.u64.wrap (bits .and .u8 ((y % 128 + 128 : Nat) : Int) 127))) = ((y % 128 : Nat) : Int) := by
          simp (disch := omega) only [u8_and127, u64_wrap_id, u64_orv0]
          omega
        have HR : Hid (y % 128 = x % 2 ^ (7 * (0 + 1)) ∧ y / 128 = x / 2 ^ (7 * (0 + 1)) ∧ On T (i + (0 + 1)) (eU (y / 128)) ∧ N = i + (0 + 1) + (eU (y / 128)).length ∧ (0 < 0 + 1 → 1 ≤ y / 128)) := by
          have eQ : (2 : Nat) ^ (7 * (0 + 1)) = 128 := by decide
          rw [Hid, eQ]
          exact ⟨by omega, by omega, hon', hn', fun _ => by omega⟩
        clear ha hy hon hn hp HH hc hn' hon'
        obtain ⟨c, hcc⟩ : ∃ c : Nat, c = y % 128 + 128 := ⟨_, rfl⟩
        have hcl : c < 256 := by omega
        have hcg : 128 ≤ c := by omega
        rw [← hcc] at hcell hv
        clear hb hb' hcc
        go_wp2
        go_round
        case rel => exact ⟨0 + 1, _, _, by omega, by go_num, by go_num, by go_num, rfl, HR⟩
        case measure => simp [intOf]
    · obtain ⟨ha, hy, hon, hn, hp⟩ := HH.out
      have eP : (2 : Nat) ^ (7 * 1) = 128 := by decide
      rw [eP] at ha hy
      by_cases hb : y < 128
      · rw [eU_small hb] at hon hn
        have hc := hon 0 _ rfl
        have hlt : i + 1 < T.length := by have := (List.getElem?_eq_some_iff.1 hc).1; omega
        have hcell := HT.out _ _ hc
        have hn' : N = i + 1 + 1 := by simpa using hn
        have hv : bits .or .u64 (acc : Int) (IntKind.u64.wrap (IntKind.u64.wrap (bits .and .u8 (y : Int) 127) * 128)) = (x : Int) := by
          simp (disch := omega) only [u8_and127, u64_wrap_id, u64_orv7]
          omega
        have hy1 : 1 ≤ y := hp (by omega)
        have HN' := hid hn'
        clear ha hy hon hn hp HH hc hn'
        go_wp2
        go_ret3
        exact ⟨by rw [HN'.out]; rfl, rfl⟩
      · have hb' : 128 ≤ y := by omega
        rw [eU_big hb'] at hon hn
        have hc := hon 0 _ rfl
        have hlt : i + 1 < T.length := by have := (List.getElem?_eq_some_iff.1 hc).1; omega
        have hcell := HT.out _ _ hc
        have hon' : On T (i + 1 + 1) (eU (y / 128)) := fun j v hj => by have := hon (j + 1) v hj; rwa [show i + 1 + (j + 1) = i + 1 + 1 + j by omega] at this
        have hn' : N = i + 1 + 1 + (eU (y / 128)).length := by simp at hn; omega
        have hv : bits .or .u64 (acc : Int) (IntKind.u64.wrap (IntKind.u64.wrap (bits .and .u8 ((y % 128 + 128 : Nat) : Int) 127) * 128)) = ((acc + y % 128 * 128 : Nat) : Int) := by
          simp (disch := omega) only [u8_and127, u64_wrap_id, u64_orv7]
          omega
        have HR : Hid (acc + y % 128 * 128 = x % 2 ^ (7 * (1 + 1)) ∧ y / 128 = x / 2 ^ (7 * (1 + 1)) ∧ On T (i + (1 + 1)) (eU (y / 128)) ∧ N = i + (1 + 1) + (eU (y / 128)).length ∧ (0 < 1 + 1 → 1 ≤ y / 128)) := by
          have eQ : (2 : Nat) ^ (7 * (1 + 1)) = 16384 := by decide
          rw [Hid, eQ]
          exact ⟨by omega, by omega, hon', hn', fun _ => by omega⟩
        clear ha hy hon hn hp HH hc hn' hon'
        obtain ⟨c, hcc⟩ : ∃ c : Nat, c = y % 128 + 128 := ⟨_, rfl⟩
        have hcl : c < 256 := by omega
        have hcg : 128 ≤ c := by omega
        rw [← hcc] at hcell hv
        clear hb hb' hcc
        go_wp2
        go_round
        case rel => exact ⟨1 + 1, _, _, by omega, by go_num, by go_num, by go_num, rfl, HR⟩
        case measure => simp [intOf]
    · obtain ⟨ha, hy, hon, hn, hp⟩ := HH.out
      have eP : (2 : Nat) ^ (7 * 2) = 16384 := by decide
      rw [eP] at ha hy
      by_cases hb : y < 128
      · rw [eU_small hb] at hon hn
        have hc := hon 0 _ rfl
        have hlt : i + 2 < T.length := by have := (List.getElem?_eq_some_iff.1 hc).1; omega
        have hcell := HT.out _ _ hc
        have hn' : N = i + 2 + 1 := by simpa using hn
        have hv : bits .or .u64 (acc : Int) (IntKind.u64.wrap (IntKind.u64.wrap (bits .and .u8 (y : Int) 127) * 16384)) = (x : Int) := by
          simp (disch := omega) only [u8_and127, u64_wrap_id, u64_orv14]
          omega
        have hy1 : 1 ≤ y := hp (by omega)
        have HN' := hid hn'
        clear ha hy hon hn hp HH hc hn'
        go_wp2
        go_ret3
        exact ⟨by rw [HN'.out]; rfl, rfl⟩
      · have hb' : 128 ≤ y := by omega
        rw [eU_big hb'] at hon hn
        have hc := hon 0 _ rfl
        have hlt : i + 2 < T.length := by have := (List.getElem?_eq_some_iff.1 hc).1; omega
        have hcell := HT.out _ _ hc
        have hon' : On T (i + 2 + 1) (eU (y / 128)) := fun j v hj => by have := hon (j + 1) v hj; rwa [show i + 2 + (j + 1) = i + 2 + 1 + j by omega] at this
        have hn' : N = i + 2 + 1 + (eU (y / 128)).length := by simp at hn; omega
        have hv : bits .or .u64 (acc : Int) (IntKind.u64.wrap (IntKind.u64.wrap (bits .and .u8 ((y % 128 + 128 : Nat) : Int) 127) * 16384)) = ((acc + y % 128 * 16384 : Nat) : Int) := by
          simp (disch := omega) only [u8_and127, u64_wrap_id, u64_orv14]
          omega
        have HR : Hid (acc + y % 128 * 16384 = x % 2 ^ (7 * (2 + 1)) ∧ y / 128 = x / 2 ^ (7 * (2 + 1)) ∧ On T (i + (2 + 1)) (eU (y / 128)) ∧ N = i + (2 + 1) + (eU (y / 128)).length ∧ (0 < 2 + 1 → 1 ≤ y / 128)) := by
          have eQ : (2 : Nat) ^ (7 * (2 + 1)) = 2097152 := by decide
          rw [Hid, eQ]
          exact ⟨by omega, by omega, hon', hn', fun _ => by omega⟩
        clear ha hy hon hn hp HH hc hn' hon'
        obtain ⟨c, hcc⟩ : ∃ c : Nat, c = y % 128 + 128 := ⟨_, rfl⟩
        have hcl : c < 256 := by omega
        have hcg : 128 ≤ c := by omega
        rw [← hcc] at hcell hv
        clear hb hb' hcc
        go_wp2
        go_round
        case rel => exact ⟨2 + 1, _, _, by omega, by go_num, by go_num, by go_num, rfl, HR⟩
        case measure => simp [intOf]
    · obtain ⟨ha, hy, hon, hn, hp⟩ := HH.out
      have eP : (2 : Nat) ^ (7 * 3) = 2097152 := by decide
      rw [eP] at ha hy
      by_cases hb : y < 128
      · rw [eU_small hb] at hon hn
        have hc := hon 0 _ rfl
        have hlt : i + 3 < T.length := by have := (List.getElem?_eq_some_iff.1 hc).1; omega
        have hcell := HT.out _ _ hc
        have hn' : N = i + 3 + 1 := by simpa using hn
        have hv : bits .or .u64 (acc : Int) (IntKind.u64.wrap (IntKind.u64.wrap (bits .and .u8 (y : Int) 127) * 2097152)) = (x : Int) := by
          simp (disch := omega) only [u8_and127, u64_wrap_id, u64_orv21]
          omega
        have hy1 : 1 ≤ y := hp (by omega)
        have HN' := hid hn'
        clear ha hy hon hn hp HH hc hn'
        go_wp2
        go_ret3
        exact ⟨by rw [HN'.out]; rfl, rfl⟩
      · have hb' : 128 ≤ y := by omega
        rw [eU_big hb'] at hon hn
        have hc := hon 0 _ rfl
        have hlt : i + 3 < T.length := by have := (List.getElem?_eq_some_iff.1 hc).1; omega
        have hcell := HT.out _ _ hc
        have hon' : On T (i + 3 + 1) (eU (y / 128)) := fun j v hj => by have := hon (j + 1) v hj; rwa [show i + 3 + (j + 1) = i + 3 + 1 + j by omega] at this
        have hn' : N = i + 3 + 1 + (eU (y / 128)).length := by simp at hn; omega
        have hv : bits .or .u64 (acc : Int) (IntKind.u64.wrap (IntKind.u64.wrap (bits .and .u8 ((y % 128 + 128 : Nat) : Int) 127) * 2097152)) = ((acc + y % 128 * 2097152 : Nat) : Int) := by
          simp (disch := omega) only [u8_and127, u64_wrap_id, u64_orv21]
          omega
        have HR : Hid (acc + y % 128 * 2097152 = x % 2 ^ (7 * (3 + 1)) ∧ y / 128 = x / 2 ^ (7 * (3 + 1)) ∧ On T (i + (3 + 1)) (eU (y / 128)) ∧ N = i + (3 + 1) + (eU (y / 128)).length ∧ (0 < 3 + 1 → 1 ≤ y / 128)) := by
          have eQ : (2 : Nat) ^ (7 * (3 + 1)) = 268435456 := by decide
          rw [Hid, eQ]
          exact ⟨by omega, by omega, hon', hn', fun _ => by omega⟩
        clear ha hy hon hn hp HH hc hn' hon'
        obtain ⟨c, hcc⟩ : ∃ c : Nat, c = y % 128 + 128 := ⟨_, rfl⟩
        have hcl : c < 256 := by omega
        have hcg : 128 ≤ c := by omega
        rw [← hcc] at hcell hv
        clear hb hb' hcc
        go_wp2
        go_round
        case rel => exact ⟨3 + 1, _, _, by omega, by go_num, by go_num, by go_num, rfl, HR⟩
        case measure => simp [intOf]
    · obtain ⟨ha, hy, hon, hn, hp⟩ := HH.out
      have eP : (2 : Nat) ^ (7 * 4) = 268435456 := by decide
      rw [eP] at ha hy
      by_cases hb : y < 128
      · rw [eU_small hb] at hon hn
        have hc := hon 0 _ rfl
        have hlt : i + 4 < T.length := by have := (List.getElem?_eq_some_iff.1 hc).1; omega
        have hcell := HT.out _ _ hc
        have hn' : N = i + 4 + 1 := by simpa using hn
        have hv : bits .or .u64 (acc : Int) (IntKind.u64.wrap (IntKind.u64.wrap (bits .and .u8 (y : Int) 127) * 268435456)) = (x : Int) := by
          simp (disch := omega) only [u8_and127, u64_wrap_id, u64_orv28]
          omega
        have hy1 : 1 ≤ y := hp (by omega)
        have HN' := hid hn'
        clear ha hy hon hn hp HH hc hn'
        go_wp2
        go_ret3
        exact ⟨by rw [HN'.out]; rfl, rfl⟩
      · have hb' : 128 ≤ y := by omega
        rw [eU_big hb'] at hon hn
        have hc := hon 0 _ rfl
        have hlt : i + 4 < T.length := by have := (List.getElem?_eq_some_iff.1 hc).1; omega
        have hcell := HT.out _ _ hc
        have hon' : On T (i + 4 + 1) (eU (y / 128)) := fun j v hj => by have := hon (j + 1) v hj; rwa [show i + 4 + (j + 1) = i + 4 + 1 + j by omega] at this
        have hn' : N = i + 4 + 1 + (eU (y / 128)).length := by simp at hn; omega
        have hv : bits .or .u64 (acc : Int) (IntKind.u64.wrap (IntKind.u64.wrap (bits .and .u8 ((y % 128 + 128 : Nat) : Int) 127) * 268435456)) = ((acc + y % 128 * 268435456 : Nat) : Int) := by
          simp (disch := omega) only [u8_and127, u64_wrap_id, u64_orv28]
          omega
        have HR : Hid (acc + y % 128 * 268435456 = x % 2 ^ (7 * (4 + 1)) ∧ y / 128 = x / 2 ^ (7 * (4 + 1)) ∧ On T (i + (4 + 1)) (eU (y / 128)) ∧ N = i + (4 + 1) + (eU (y / 128)).length ∧ (0 < 4 + 1 → 1 ≤ y / 128)) := by
          have eQ : (2 : Nat) ^ (7 * (4 + 1)) = 34359738368 := by decide
          rw [Hid, eQ]
          exact ⟨by omega, by omega, hon', hn', fun _ => by omega⟩
        clear ha hy hon hn hp HH hc hn' hon'
        obtain ⟨c, hcc⟩ : ∃ c : Nat, c = y % 128 + 128 := ⟨_, rfl⟩
        have hcl : c < 256 := by omega
        have hcg : 128 ≤ c := by omega
        rw [← hcc] at hcell hv
        clear hb hb' hcc
        go_wp2
        go_round
        case rel => exact ⟨4 + 1, _, _, by omega, by go_num, by go_num, by go_num, rfl, HR⟩
        case measure => simp [intOf]
    · obtain ⟨ha, hy, hon, hn, hp⟩ := HH.out
      have eP : (2 : Nat) ^ (7 * 5) = 34359738368 := by decide
      rw [eP] at ha hy
      by_cases hb : y < 128
      · rw [eU_small hb] at hon hn
        have hc := hon 0 _ rfl
        have hlt : i + 5 < T.length := by have := (List.getElem?_eq_some_iff.1 hc).1; omega
        have hcell := HT.out _ _ hc
        have hn' : N = i + 5 + 1 := by simpa using hn
        have hv : bits .or .u64 (acc : Int) (IntKind.u64.wrap (IntKind.u64.wrap (bits .and .u8 (y : Int) 127) * 34359738368)) = (x : Int) := by
          simp (disch := omega) only [u8_and127, u64_wrap_id, u64_orv35]
          omega
        have hy1 : 1 ≤ y := hp (by omega)
        have HN' := hid hn'
        clear ha hy hon hn hp HH hc hn'
        go_wp2
        go_ret3
        exact ⟨by rw [HN'.out]; rfl, rfl⟩
      · have hb' : 128 ≤ y := by omega
        rw [eU_big hb'] at hon hn
        have hc := hon 0 _ rfl
        have hlt : i + 5 < T.length := by have := (List.getElem?_eq_some_iff.1 hc).1; omega
        have hcell := HT.out _ _ hc
        have hon' : On T (i + 5 + 1) (eU (y / 128)) := fun j v hj => by have := hon (j + 1) v hj; rwa [show i + 5 + (j + 1) = i + 5 + 1 + j by omega] at this
        have hn' : N = i + 5 + 1 + (eU (y / 128)).length := by simp at hn; omega
        have hv : bits .or .u64 (acc : Int) (IntKind.u64.wrap (IntKind.u64.wrap (bits .and .u8 ((y % 128 + 128 : Nat) : Int) 127) * 34359738368)) = ((acc + y % 128 * 34359738368 : Nat) : Int) := by
          simp (disch := omega) only [u8_and127, u64_wrap_id, u64_orv35]
          omega
        have HR : Hid (acc + y % 128 * 34359738368 = x % 2 ^ (7 * (5 + 1)) ∧ y / 128 = x / 2 ^ (7 * (5 + 1)) ∧ On T (i + (5 + 1)) (eU (y / 128)) ∧ N = i + (5 + 1) + (eU (y / 128)).length ∧ (0 < 5 + 1 → 1 ≤ y / 128)) := by
          have eQ : (2 : Nat) ^ (7 * (5 + 1)) = 4398046511104 := by decide
          rw [Hid, eQ]
          exact ⟨by omega, by omega, hon', hn', fun _ => by omega⟩
        clear ha hy hon hn hp HH hc hn' hon'
        obtain ⟨c, hcc⟩ : ∃ c : Nat, c = y % 128 + 128 := ⟨_, rfl⟩
        have hcl : c < 256 := by omega
        have hcg : 128 ≤ c := by omega
        rw [← hcc] at hcell hv
        clear hb hb' hcc
        go_wp2
        go_round
        case rel => exact ⟨5 + 1, _, _, by omega, by go_num, by go_num, by go_num, rfl, HR⟩
        case measure => simp [intOf]
    · obtain ⟨ha, hy, hon, hn, hp⟩ := HH.out
      have eP : (2 : Nat) ^ (7 * 6) = 4398046511104 := by decide
      rw [eP] at ha hy
      by_cases hb : y < 128
      · rw [eU_small hb] at hon hn
        have hc := hon 0 _ rfl
        have hlt : i + 6 < T.length := by have := (List.getElem?_eq_some_iff.1 hc).1; omega
        have hcell := HT.out _ _ hc
        have hn' : N = i + 6 + 1 := by simpa using hn
        have hv : bits .or .u64 (acc : Int) (IntKind.u64.wrap (IntKind.u64.wrap (bits .and .u8 (y : Int) 127) * 4398046511104)) = (x : Int) := by
          simp (disch := omega) only [u8_and127, u64_wrap_id, u64_orv42]
          omega
        have hy1 : 1 ≤ y := hp (by omega)
        have HN' := hid hn'
        clear ha hy hon hn hp HH hc hn'
        go_wp2
        go_ret3
        exact ⟨by rw [HN'.out]; rfl, rfl⟩
      · have hb' : 128 ≤ y := by omega
        rw [eU_big hb'] at hon hn
        have hc := hon 0 _ rfl
        have hlt : i + 6 < T.length := by have := (List.getElem?_eq_some_iff.1 hc).1; omega
        have hcell := HT.out _ _ hc
        have hon' : On T (i + 6 + 1) (eU (y / 128)) := fun j v hj => by have := hon (j + 1) v hj; rwa [show i + 6 + (j + 1) = i + 6 + 1 + j by omega] at this
        have hn' : N = i + 6 + 1 + (eU (y / 128)).length := by simp at hn; omega
        have hv : bits .or .u64 (acc : Int) (IntKind.u64.wrap (IntKind.u64.wrap (bits .and .u8 ((y % 128 + 128 : Nat) : Int) 127) * 4398046511104)) = ((acc + y % 128 * 4398046511104 : Nat) : Int) := by
          simp (disch := omega) only [u8_and127, u64_wrap_id, u64_orv42]
          omega
        have HR : Hid (acc + y % 128 * 4398046511104 = x % 2 ^ (7 * (6 + 1)) ∧ y / 128 = x / 2 ^ (7 * (6 + 1)) ∧ On T (i + (6 + 1)) (eU (y / 128)) ∧ N = i + (6 + 1) + (eU (y / 128)).length ∧ (0 < 6 + 1 → 1 ≤ y / 128)) := by
          have eQ : (2 : Nat) ^ (7 * (6 + 1)) = 562949953421312 := by decide
          rw [Hid, eQ]
          exact ⟨by omega, by omega, hon', hn', fun _ => by omega⟩
        clear ha hy hon hn hp HH hc hn' hon'
        obtain ⟨c, hcc⟩ : ∃ c : Nat, c = y % 128 + 128 := ⟨_, rfl⟩
        have hcl : c < 256 := by omega
        have hcg : 128 ≤ c := by omega
        rw [← hcc] at hcell hv
        clear hb hb' hcc
        go_wp2
        go_round
        case rel => exact ⟨6 + 1, _, _, by omega, by go_num, by go_num, by go_num, rfl, HR⟩
        case measure => simp [intOf]
    · obtain ⟨ha, hy, hon, hn, hp⟩ := HH.out
      have eP : (2 : Nat) ^ (7 * 7) = 562949953421312 := by decide
      rw [eP] at ha hy
      by_cases hb : y < 128
      · rw [eU_small hb] at hon hn
        have hc := hon 0 _ rfl
        have hlt : i + 7 < T.length := by have := (List.getElem?_eq_some_iff.1 hc).1; omega
        have hcell := HT.out _ _ hc
        have hn' : N = i + 7 + 1 := by simpa using hn
        have hv : bits .or .u64 (acc : Int) (IntKind.u64.wrap (IntKind.u64.wrap (bits .and .u8 (y : Int) 127) * 562949953421312)) = (x : Int) := by
          simp (disch := omega) only [u8_and127, u64_wrap_id, u64_orv49]
          omega
        have hy1 : 1 ≤ y := hp (by omega)
        have HN' := hid hn'
        clear ha hy hon hn hp HH hc hn'
        go_wp2
        go_ret3
        exact ⟨by rw [HN'.out]; rfl, rfl⟩
      · have hb' : 128 ≤ y := by omega
        rw [eU_big hb'] at hon hn
        have hc := hon 0 _ rfl
        have hlt : i + 7 < T.length := by have := (List.getElem?_eq_some_iff.1 hc).1; omega
        have hcell := HT.out _ _ hc
        have hon' : On T (i + 7 + 1) (eU (y / 128)) := fun j v hj => by have := hon (j + 1) v hj; rwa [show i + 7 + (j + 1) = i + 7 + 1 + j by omega] at this
        have hn' : N = i + 7 + 1 + (eU (y / 128)).length := by simp at hn; omega
        have hv : bits .or .u64 (acc : Int) (IntKind.u64.wrap (IntKind.u64.wrap (bits .and .u8 ((y % 128 + 128 : Nat) : Int) 127) * 562949953421312)) = ((acc + y % 128 * 562949953421312 : Nat) : Int) := by
          simp (disch := omega) only [u8_and127, u64_wrap_id, u64_orv49]
          omega
        have HR : Hid (acc + y % 128 * 562949953421312 = x % 2 ^ (7 * (7 + 1)) ∧ y / 128 = x / 2 ^ (7 * (7 + 1)) ∧ On T (i + (7 + 1)) (eU (y / 128)) ∧ N = i + (7 + 1) + (eU (y / 128)).length ∧ (0 < 7 + 1 → 1 ≤ y / 128)) := by
          have eQ : (2 : Nat) ^ (7 * (7 + 1)) = 72057594037927936 := by decide
          rw [Hid, eQ]
          exact ⟨by omega, by omega, hon', hn', fun _ => by omega⟩
        clear ha hy hon hn hp HH hc hn' hon'
        obtain ⟨c, hcc⟩ : ∃ c : Nat, c = y % 128 + 128 := ⟨_, rfl⟩
        have hcl : c < 256 := by omega
        have hcg : 128 ≤ c := by omega
        rw [← hcc] at hcell hv
        clear hb hb' hcc
        go_wp2
        go_round
        case rel => exact ⟨7 + 1, _, _, by omega, by go_num, by go_num, by go_num, rfl, HR⟩
        case measure => simp [intOf]
    · obtain ⟨ha, hy, hon, hn, hp⟩ := HH.out
      have eP : (2 : Nat) ^ (7 * 8) = 72057594037927936 := by decide
      rw [eP] at ha hy
      by_cases hb : y < 128
      · rw [eU_small hb] at hon hn
        have hc := hon 0 _ rfl
        have hlt : i + 8 < T.length := by have := (List.getElem?_eq_some_iff.1 hc).1; omega
        have hcell := HT.out _ _ hc
        have hn' : N = i + 8 + 1 := by simpa using hn
        have hv : bits .or .u64 (acc : Int) (IntKind.u64.wrap (IntKind.u64.wrap (bits .and .u8 (y : Int) 127) * 72057594037927936)) = (x : Int) := by
          simp (disch := omega) only [u8_and127, u64_wrap_id, u64_orv56]
          omega
        have hy1 : 1 ≤ y := hp (by omega)
        have HN' := hid hn'
        clear ha hy hon hn hp HH hc hn'
        go_wp2
        go_ret3
        exact ⟨by rw [HN'.out]; rfl, rfl⟩
      · have hb' : 128 ≤ y := by omega
        rw [eU_big hb'] at hon hn
        have hc := hon 0 _ rfl
        have hlt : i + 8 < T.length := by have := (List.getElem?_eq_some_iff.1 hc).1; omega
        have hcell := HT.out _ _ hc
        have hon' : On T (i + 8 + 1) (eU (y / 128)) := fun j v hj => by have := hon (j + 1) v hj; rwa [show i + 8 + (j + 1) = i + 8 + 1 + j by omega] at this
        have hn' : N = i + 8 + 1 + (eU (y / 128)).length := by simp at hn; omega
        have hv : bits .or .u64 (acc : Int) (IntKind.u64.wrap (IntKind.u64.wrap (bits .and .u8 ((y % 128 + 128 : Nat) : Int) 127) * 72057594037927936)) = ((acc + y % 128 * 72057594037927936 : Nat) : Int) := by
          simp (disch := omega) only [u8_and127, u64_wrap_id, u64_orv56]
          omega
        have HR : Hid (acc + y % 128 * 72057594037927936 = x % 2 ^ (7 * (8 + 1)) ∧ y / 128 = x / 2 ^ (7 * (8 + 1)) ∧ On T (i + (8 + 1)) (eU (y / 128)) ∧ N = i + (8 + 1) + (eU (y / 128)).length ∧ (0 < 8 + 1 → 1 ≤ y / 128)) := by
          have eQ : (2 : Nat) ^ (7 * (8 + 1)) = 9223372036854775808 := by decide
          rw [Hid, eQ]
          exact ⟨by omega, by omega, hon', hn', fun _ => by omega⟩
        clear ha hy hon hn hp HH hc hn' hon'
        obtain ⟨c, hcc⟩ : ∃ c : Nat, c = y % 128 + 128 := ⟨_, rfl⟩
        have hcl : c < 256 := by omega
        have hcg : 128 ≤ c := by omega
        rw [← hcc] at hcell hv
        clear hb hb' hcc
        go_wp2
        go_round
        case rel => exact ⟨8 + 1, _, _, by omega, by go_num, by go_num, by go_num, rfl, HR⟩
        case measure => simp [intOf]
    · obtain ⟨ha, hy, hon, hn, hp⟩ := HH.out
      have eP : (2 : Nat) ^ (7 * 9) = 9223372036854775808 := by decide
      rw [eP] at ha hy
      by_cases hb : y < 128
      · rw [eU_small hb] at hon hn
        have hc := hon 0 _ rfl
        have hlt : i + 9 < T.length := by have := (List.getElem?_eq_some_iff.1 hc).1; omega
        have hcell := HT.out _ _ hc
        have hn' : N = i + 9 + 1 := by simpa using hn
        have hv : bits .or .u64 (acc : Int) (IntKind.u64.wrap (IntKind.u64.wrap (bits .and .u8 (y : Int) 127) * 9223372036854775808)) = (x : Int) := by
          simp (disch := omega) only [u8_and127, u64_wrap_id, u64_orv63]
          omega
        have hy1 : 1 ≤ y := hp (by omega)
        have hy2 : y ≤ 1 := by omega
        have HN' := hid hn'
        clear ha hy hon hn hp HH hc hn'
        go_wp2
        go_ret3
        exact ⟨by rw [HN'.out]; rfl, rfl⟩
      · exfalso; omega
end Go.Proofs.Qxb6609540aGreatDoor
