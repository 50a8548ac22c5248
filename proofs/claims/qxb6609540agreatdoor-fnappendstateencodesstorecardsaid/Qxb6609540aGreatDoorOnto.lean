/-
  Appending onto a row of the call's own: what stays, to the block.
-/
import Derived.Test.Qxb6609540aGreatDoorBuild
import Derived.Deep.Onto
import Derived.Lib.AppendStr
namespace Go.Proofs.Qxb6609540aGreatDoor
open Go.RowKit Go.ChangeMaps
set_option linter.unusedSimpArgs false
set_option linter.unnecessarySimpa false

theorem keptBut_block {w w' : World} {may : MemPlace → Prop} (h : w.keptBut w' may) {k : Nat} (hk : k < w.heap.size) (h1 : ∀ j, ¬ may (.cell k j)) (h2 : ¬ may (.map k)) : w'.heap[k]? = w.heap[k]? := by
  have h3 := h.2.2 k hk
  revert h3
  rcases e1 : w.heap[k]? with _ | o
  · rw [Array.getElem?_eq_none_iff] at e1; omega
  rcases e2 : w'.heap[k]? with _ | o'
  · cases o <;> simp
  cases o <;> cases o' <;> simp only [] <;> intro h3
  all_goals try (first | exact h3 | (simp at h3; done))
  · obtain ⟨rfl, rfl, h4, h5⟩ := h3
    congr 2
    apply Array.ext_getElem?
    intro j
    exact h5 j (h1 j)
  · rcases h3 with h3 | ⟨rfl, rfl⟩
    · exact absurd h3 h2
    · rfl

theorem frozen_zero {w : World} {g o : Nat} {cs : Array Value} {t : TypeId} (h : w.heap[g]? = some (.cells cs t (0, 0))) : w.frozen? ⟨g, o, none⟩ = false := by
  unfold World.frozen?; rw [h]; simp
/-- A row of the call's own, as a slice that came in. -/
theorem came_of_own {w : World} {B n : Nat} {sv : Value} {xs : List Value} (h : w.ownsRow B 5 1 sv n xs) :
    ∃ ao g cap, sv = .slice ao n cap ∧ Came w 1 ao g 0 n cap xs ∧ ((ao = some ⟨g, 0, none⟩ ∧ B ≤ g ∧ cap ≤ maxLen ∧ ∃ cur, w.heap[g]? = some (.cells cur 5 (0, 0)) ∧ cur.size = cap) ∨ (ao = none ∧ n = 0 ∧ cap = 0)) := by
  obtain ⟨h0, h⟩ := h
  rcases h with ⟨rfl, rfl⟩ | ⟨g, cap, cur, rfl, h1, h2, h3, h4, h5, h6⟩
  · have hx : xs = [] := List.eq_nil_of_length_eq_zero (by omega)
    subst hx
    exact ⟨none, 0, 0, rfl, ⟨Nat.le_refl _, fun h => absurd h (Nat.not_lt_zero _), fun h => absurd h (Nat.not_lt_zero _), rfl, fun j u hj => by simp at hj, fun j hj => by simp at hj⟩, .inr ⟨rfl, rfl, rfl⟩⟩
  · rw [Nat.mul_one] at h5 h6
    have hc : ∀ j, w.cell? ⟨g, j, none⟩ = cur[j]? := fun j => by unfold World.cell?; rw [h2]; simp
    refine ⟨some ⟨g, 0, none⟩, g, cap, rfl, ⟨h3, fun _ => rfl, fun _ => block_lt h2, by omega, fun j u hj => ?_, fun j hj => ?_⟩, .inl ⟨rfl, h1, h4, cur, h2, h5⟩⟩
    · rw [Nat.zero_add, hc j]
      rw [← h6, List.getElem?_take] at hj
      split at hj
      · simpa using hj
      · cases hj
    · refine ⟨?_, frozen_zero h2⟩
      rw [hc, Array.getElem?_eq_getElem (by omega)]; rfl
/-- What appending onto sv leaves as it was. -/
structure Apd (sv v : Value) (w w' : World) : Prop where
  os : w'.os = w.os
  output : w'.output = w.output
  size : w.heap.size ≤ w'.heap.size
  block : ∀ k, k < w.heap.size → sv.ownBlock ≠ some k → w'.heap[k]? = w.heap[k]?
  moved : ∀ k, v.ownBlock = some k → sv.ownBlock = some k ∨ w.heap.size ≤ k
theorem Apd.trans {sv v1 v2 : Value} {w w1 w2 : World} (h : Apd sv v1 w w1) (k : Apd v1 v2 w1 w2) : Apd sv v2 w w2 :=
  ⟨k.os.trans h.os, k.output.trans h.output, Nat.le_trans h.size k.size, fun q hq hne => (k.block q (Nat.lt_of_lt_of_le hq h.size) (fun e => by
      rcases h.moved q e with e' | e'
      · exact hne e'
      · omega)).trans (h.block q hq hne), fun q e => by
      rcases k.moved q e with e' | e'
      · exact h.moved q e'
      · exact .inr (Nat.le_trans h.size e')⟩
theorem Apd.refl (sv : Value) (w : World) : Apd sv sv w w := ⟨rfl, rfl, Nat.le_refl _, fun _ _ _ => rfl, fun _ h => .inl h⟩
theorem Apd.kept {sv v : Value} {w w' : World} {B : Nat} (h : Apd sv v w w') (hB : B ≤ w.heap.size) (hs : ∀ k, sv.ownBlock = some k → B ≤ k) : Kept B w w' :=
  ⟨h.os, h.output, h.size, fun k hk => h.block k (by omega) (fun e => by have := hs k e; omega)⟩
theorem Apd.of_grown {sv v : Value} {w w' : World} (h : w.grownBy w' sv.ownBlock) (hm : ∀ k, v.ownBlock = some k → sv.ownBlock = some k ∨ w.heap.size ≤ k) : Apd sv v w w' :=
  ⟨h.os, h.output, h.size, fun k hk hne => h.block k hk (fun e => hne e.symm), hm⟩
theorem apd_of_onto {w w' : World} {B n cap g m : Nat} {ao : Option Addr} {xs ks : List Value} {v : Value} (hc : Came w 1 ao g 0 n cap xs) (hx : xs.length = n)
    (hk : (ao = some ⟨g, 0, none⟩ ∧ B ≤ g ∧ cap ≤ maxLen ∧ ∃ cur, w.heap[g]? = some (.cells cur 5 (0, 0)) ∧ cur.size = cap) ∨ (ao = none ∧ n = 0 ∧ cap = 0)) (hBw : B ≤ w.heap.size) (hsz : w.heap.size ≤ w'.heap.size) (h : Onto w 5 1 ao g 0 n cap xs w' v m ks) :
    w'.ownsRow B 5 1 v (n + m) (xs ++ ks) ∧ Apd (.slice ao n cap) v w w' ∧ ∀ g' n' c j, Value.slice ao n cap = .slice (some ⟨g', 0, none⟩) n' c → j < n' → w'.cell? ⟨g', j, none⟩ = w.cell? ⟨g', j, none⟩ := by
  have hks : ks.length = m := by have := h.ksLen; omega
  have hb : ∀ k, k < w.heap.size → (Value.slice ao n cap).ownBlock ≠ some k → w'.heap[k]? = w.heap[k]? := fun k hkk hne => by
    refine keptBut_block h.kept hkk (fun j hj => ?_) (fun hj => ?_)
    · obtain ⟨q, h1, h2, h3⟩ := hj
      simp only [MemPlace.cell.injEq] at h3
      rcases hk with ⟨e, _⟩ | ⟨_, _, e⟩
      · rw [e] at hne; exact hne (by simp [Value.ownBlock, h3.1])
      · omega
    · obtain ⟨q, h1, h2, h3⟩ := hj
      cases h3
  have hrow : ∀ g' n' c j, Value.slice ao n cap = .slice (some ⟨g', 0, none⟩) n' c → j < n' → w'.cell? ⟨g', j, none⟩ = w.cell? ⟨g', j, none⟩ := fun g' n' c j he hj => by
    simp only [Value.slice.injEq] at he
    obtain ⟨e1, rfl, rfl⟩ := he
    rcases hk with ⟨e, _⟩ | ⟨e, _⟩
    · rw [e] at e1
      simp only [Option.some.injEq, Addr.mk.injEq, and_true] at e1
      subst e1
      exact h.old (hc.lt (by have := hc.le; omega)) (fun q _ _ hq => by omega)
    · rw [e] at e1; cases e1
  rcases h.val with ⟨hle, hv⟩ | ⟨hgt, ho⟩
  · subst hv
    refine ⟨⟨by rw [List.length_append]; omega, ?_⟩, ⟨h.kept.1, h.kept.2.1, hsz, hb, fun k hk' => .inl (by cases ao <;> simpa [Value.ownBlock] using hk')⟩, hrow⟩
    rcases hk with ⟨rfl, hBg, hmx, cur, hcur, hcs⟩ | ⟨rfl, rfl, rfl⟩
    · have h3 := h.kept.2.2 g (block_lt hcur)
      rw [hcur] at h3
      have hwl : ∃ c', w'.heap[g]? = some (.cells c' 5 (0, 0)) ∧ c'.size = cur.size := by
        revert h3
        rcases e2 : w'.heap[g]? with _ | o'
        · intro h3; cases h3
        cases o' <;> intro h3
        all_goals try (cases h3; done)
        · obtain ⟨rfl, rfl, h4, _⟩ := h3
          exact ⟨_, rfl, h4⟩
      obtain ⟨c', hc', hs'⟩ := hwl
      refine .inr ⟨g, cap, c', rfl, hBg, hc', by omega, hmx, by omega, ?_⟩
      have hcell : ∀ j, c'[j]? = w'.cell? ⟨g, j, none⟩ := fun j => by unfold World.cell?; rw [hc']; simp
      apply List.ext_getElem?
      intro j
      rw [Nat.mul_one, List.getElem?_take]
      by_cases hj : j < n + m
      · rw [if_pos hj, Array.getElem?_toList, hcell j]
        by_cases hjn : j < n
        · rw [hrow g n cap j rfl hjn, List.getElem?_append_left (by omega)]
          have := hc.olds j xs[j] (List.getElem?_eq_getElem (by omega))
          rw [Nat.zero_add] at this
          rw [this, List.getElem?_eq_getElem (by omega)]
        · have := h.written (j - n) (by omega) (by omega)
          rw [Nat.mul_one, show 0 + n + (j - n) = j by omega] at this
          rw [this, List.getElem?_append_right (by omega), hx]
      · rw [if_neg hj, List.getElem?_eq_none (by rw [List.length_append]; omega)]
    · have hm : m = 0 := by omega
      subst hm
      exact .inl ⟨rfl, rfl⟩
  · refine ⟨ho.mono hBw, ⟨h.kept.1, h.kept.2.1, hsz, hb, fun k hk' => .inr (ho.lt k hk').1⟩, hrow⟩

/-- A string's bytes appended onto a row: where the row then lies. -/
theorem append_string_moved {w w' : World} {B g n cap : Nat} {xs : List Value} {i : TypeInfo} {s : ByteArray} {v' : Value} {ty : TypeId} (hi : Tryz.prog.info? 5 = some i) (hz : i.zero = some (.int .u8 0)) (hs : i.size = 1) (hby : i.bytes = 1)
    (hown : w.ownsRow B 5 1 (.slice (some ⟨g, 0, none⟩) n cap) n xs) (hb : n + s.size ≤ 140737488355328) (hr : (Builtin.append_ #[22, 9] ty #[.slice (some ⟨g, 0, none⟩) n cap, .string s]).run Tryz.prog w = .ok v' w') :
    ∀ k, v'.ownBlock = some k → k = g ∨ w.heap.size ≤ k := by
  obtain ⟨cur, hcur, hcs, _⟩ := ownsRow_block hown
  have hxl : xs.length = n := by simpa using hown.1
  by_cases hroom : n + s.size ≤ cap
  · have h1 := Lib.run_append_room_string (P := Tryz.prog) w 22 9 ty 5 i Tryz.underlying22 Tryz.underlying9 hi hs g n cap cur hcur s hroom (by omega)
    rw [hr] at h1
    simp only [Result.ok.injEq] at h1
    rw [h1.1]
    intro k hk
    simp [Value.ownBlock] at hk
    exact .inl hk.symm
  · have holds : ∀ j u, xs[j]? = some u → w.cell? ((⟨g, 0, none⟩ : Addr).add j) = some u := hown.cells (g := g) rfl
    have h1 := Lib.run_append_grow_string (P := Tryz.prog) w 22 9 ty 5 i (.int .u8 0) Tryz.underlying22 Tryz.underlying9 hi hz ⟨g, 0, none⟩ n cap xs (by rw [hs]; simpa using hxl) holds s (by omega) (by omega) (by rw [hby]; exact growslice_fits (by omega) (by omega))
    rw [hr] at h1
    simp only [Result.ok.injEq] at h1
    rw [h1.1]
    intro k hk
    simp [Value.ownBlock] at hk
    exact .inr (by omega)
/-- The operation, for the walk. -/
theorem wpList_append_string_apd {w : World} {ops : Array Oper} {rest : List Oper} {o : Oper} {a : Act} {Q : Exit → Act → World → Prop} (hgd : o.guard = none) (sl x : Operand)
    (ho : o.op = .call { callee := .builtin .append, args := #[sl, x], argTypes := #[22, 9] }) (B : Nat) (v : Value) (xs : List Value) (hs : a.eval sl = v) (hown : w.ownsRow B 5 1 v xs.length xs) (hpos : 0 < xs.length) (s : ByteArray) (hx : a.eval x = .string s)
    (hb : xs.length + s.size ≤ 140737488355328) (hbase : B ≤ w.heap.size)
    (h : ∀ v' w', w'.ownsRow B 5 1 v' (xs.length + s.size) (xs ++ Lib.strCells s) → Apd v v' w w' → wpList Tryz.prog ops Q rest (a.put o.dst v') w') : wpList Tryz.prog ops Q (o :: rest) a w := by
  obtain ⟨i0, hi, hz0, hz1, hz2⟩ := info_parts Tryz.info5
  refine wpList_plain hgd fun K hK => ?_
  obtain ⟨v', w', hr, h2, h3, h4⟩ := Lib.run_append_own_string (P := Tryz.prog) w B 22 9 o.type 5 i0 Tryz.underlying22 Tryz.underlying9 hi hz0 hz1 hz2 v xs.length xs hown s (by unfold maxLen; omega) hb hbase
  have hmv : ∀ k, v'.ownBlock = some k → v.ownBlock = some k ∨ w.heap.size ≤ k := by
    rcases hown.2 with ⟨_, h0⟩ | ⟨g, cap, cur, rfl, _⟩
    · omega
    · intro k hk
      rcases append_string_moved hi hz0 hz1 hz2 hown hb hr k hk with e | e
      · exact .inl (by simp [Value.ownBlock, e])
      · exact .inr e
  unfold Oper.wp execOp
  simp only [ho, resolve, invoke, builtin, Sem.run_bind, Sem.run_pure, Result.andThen_ok, List.map_toArray, List.map_cons, List.map_nil, hs, hx, hr]
  exact hK _ _ (h v' w' h2 (Apd.of_grown h3 hmv))
end Go.Proofs.Qxb6609540aGreatDoor
