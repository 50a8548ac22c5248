/-
  The store's parts as they lie in memory: all that is said is said of cells at or beyond a block 'lo'.
-/
import Derived.Test.Qxb6609540aGreatDoorNews
import Derived.MapKept
import Derived.Maps.OwnSet
namespace Go.Proofs.Qxb6609540aGreatDoor
open Go.RowKit Go.ChangeMaps

/-- A block of cells that no string shares. -/
def Plain (w : World) (k : Nat) : Prop := ∃ cs t, w.heap[k]? = some (.cells cs t (0, 0))
/-- Every cell at or beyond block lo holds what it held; a plain block stays one. -/
def CK (lo : Nat) (w w' : World) : Prop := w.heap.size ≤ w'.heap.size ∧ (∀ p v, lo ≤ p.block → w.cell? p = some v → w'.cell? p = some v) ∧ ∀ k, lo ≤ k → Plain w k → Plain w' k
theorem CK.of_kept {lo : Nat} {w w' : World} (h : Kept w.heap.size w w') : CK lo w w' := ⟨h.size, fun _ _ _ hv => (h.cell (World.block_lt_of_cell? _ _ hv)).trans hv, fun k _ ⟨cs, t, hk⟩ => ⟨cs, t, (h.block k (block_lt hk)).trans hk⟩⟩
theorem CK.of_below {lo : Nat} {w w' : World} (h : Below w.heap.size w w') : CK lo w w' := CK.of_kept (Kept.of h)
theorem CK.refl (lo : Nat) (w : World) : CK lo w w := ⟨Nat.le_refl _, fun _ _ _ h => h, fun _ _ h => h⟩
theorem CK.trans {lo : Nat} {a b c : World} (h : CK lo a b) (k : CK lo b c) : CK lo a c := ⟨Nat.le_trans h.1 k.1, fun p v hp hv => k.2.1 p v hp (h.2.1 p v hp hv), fun i hi hp => k.2.2 i hi (h.2.2 i hi hp)⟩
theorem CK.mono {lo lo' : Nat} {w w' : World} (h : CK lo w w') (hl : lo ≤ lo') : CK lo' w w' := ⟨h.1, fun p v hp hv => h.2.1 p v (Nat.le_trans hl hp) hv, fun k hk hp => h.2.2 k (Nat.le_trans hl hk) hp⟩
theorem CK.setCell {lo : Nat} {w : World} {p : Addr} (hp : p.block < lo) (u : Value) : CK lo w (w.setCell p u) :=
  ⟨by simp, fun q v hq hv => (World.cell?_of_block (w := w) (Below.heap_setCell w p u q.block (by omega))).trans hv, fun k hk ⟨cs, t, hc⟩ => ⟨cs, t, (Below.heap_setCell w p u k (by omega)).trans hc⟩⟩
theorem CK.turned {lo : Nat} {w w' : World} {r : Nat} (h : w.mapTurned w' r) : CK lo w w' := by
  obtain ⟨es, clock, es', clock', hb, rfl⟩ := h
  have hne : ∀ k, k ≠ r → (setBlock w r (.map es' clock')).heap[k]? = w.heap[k]? := fun k hk => heap_setBlock_other hb _ hk
  refine ⟨by simp [setBlock], fun q v _ hv => ?_, fun k _ ⟨cs, t, hc⟩ => ?_⟩
  · have hq : q.block ≠ r := fun e => by
      unfold World.cell? at hv; rw [e, hb] at hv; cases hv
    exact (World.cell?_of_block (w := w) (hne _ hq)).trans hv
  · have hk : k ≠ r := fun e => by rw [e, hb] at hc; cases hc
    exact ⟨cs, t, (hne _ hk).trans hc⟩
theorem plain_new (w : World) (cs : Array Value) (t : TypeId) : Plain (w.alloc (.cells cs t)) w.heap.size := ⟨cs, t, heap_alloc_new w _⟩

def StrsL (lo : Nat) (w : World) (a : Option Addr) (L : List ByteArray) : Prop :=
  L.length * 16 ≤ 140737488351232 ∧ ∀ k s, L[k]? = some s → ∃ b off, a = some ⟨b, off, none⟩ ∧ lo ≤ b ∧ w.cell? ⟨b, off + k, none⟩ = some (.string s) ∧ s.size ≤ 9223372036854775807
/-- A segment. -/
def SegP (lo : Nat) (w : World) (g : Nat) (s : SegV) : Prop :=
  lo ≤ g ∧ w.cell? ⟨g, 0, none⟩ = some (.int .u64 s.id) ∧ w.cell? ⟨g, 2, none⟩ = some (.int .i64 s.size) ∧ (∃ am cm, w.cell? ⟨g, 3, none⟩ = some (.slice am s.ms.length cm) ∧ StrsL lo w am s.ms) ∧ U64 s.id ∧ I64 s.size
/-- A slice of pointers to segments. -/
def SegPs (lo : Nat) (w : World) (a : Option Addr) (L : List SegV) : Prop :=
  L.length * 8 ≤ 140737488351232 ∧ ∀ k s, L[k]? = some s → ∃ b off g, a = some ⟨b, off, none⟩ ∧ lo ≤ b ∧ w.cell? ⟨b, off + k, none⟩ = some (.pointer (some ⟨g, 0, none⟩)) ∧ SegP lo w g s
section
variable {lo lo' : Nat} {w w' : World} {a : Option Addr} {g : Nat}
theorem StrsL.ck {L : List ByteArray} (h : StrsL lo w a L) (hc : CK lo w w') : StrsL lo w' a L :=
  ⟨h.1, fun k s hk => by
    obtain ⟨b, off, h1, h2, h3, h4⟩ := h.2 k s hk
    exact ⟨b, off, h1, h2, hc.2.1 _ _ h2 h3, h4⟩⟩
theorem StrsL.mono {L : List ByteArray} (h : StrsL lo w a L) (hl : lo' ≤ lo) : StrsL lo' w a L :=
  ⟨h.1, fun k s hk => by
    obtain ⟨b, off, h1, h2, h3, h4⟩ := h.2 k s hk
    exact ⟨b, off, h1, Nat.le_trans hl h2, h3, h4⟩⟩
theorem SegP.ck {s : SegV} (h : SegP lo w g s) (hc : CK lo w w') : SegP lo w' g s := by
  obtain ⟨h0, h1, h2, ⟨am, cm, h3, h4⟩, h5⟩ := h
  exact ⟨h0, hc.2.1 _ _ h0 h1, hc.2.1 _ _ h0 h2, ⟨am, cm, hc.2.1 _ _ h0 h3, h4.ck hc⟩, h5⟩
theorem SegP.mono {s : SegV} (h : SegP lo w g s) (hl : lo' ≤ lo) : SegP lo' w g s := by
  obtain ⟨h0, h1, h2, ⟨am, cm, h3, h4⟩, h5⟩ := h
  exact ⟨Nat.le_trans hl h0, h1, h2, ⟨am, cm, h3, h4.mono hl⟩, h5⟩
theorem SegPs.ck {L : List SegV} (h : SegPs lo w a L) (hc : CK lo w w') : SegPs lo w' a L :=
  ⟨h.1, fun k s hk => by
    obtain ⟨b, off, g, h1, h2, h3, h4⟩ := h.2 k s hk
    exact ⟨b, off, g, h1, h2, hc.2.1 _ _ h2 h3, h4.ck hc⟩⟩
theorem SegPs.mono {L : List SegV} (h : SegPs lo w a L) (hl : lo' ≤ lo) : SegPs lo' w a L :=
  ⟨h.1, fun k s hk => by
    obtain ⟨b, off, g, h1, h2, h3, h4⟩ := h.2 k s hk
    exact ⟨b, off, g, h1, Nat.le_trans hl h2, h3, h4.mono hl⟩⟩
theorem StrsL.of {L : List ByteArray} (h : StrsAt w a L) (hb : ∀ b off, a = some ⟨b, off, none⟩ → lo ≤ b) : StrsL lo w a L :=
  ⟨h.1, fun k s hk => by
    obtain ⟨b, off, h1, h2, h3, h4⟩ := h.2 k s hk
    exact ⟨b, off, h1, hb b off h1, h3, h4⟩⟩
end
/-- The new segment. -/
theorem SegP.new {lo : Nat} {w : World} {s : SegV} {am : Option Addr} {cm : Nat} (hl : lo ≤ w.heap.size) (hm : StrsL lo w am s.ms) (hu : U64 s.id) (hz : I64 s.size) :
    SegP lo (w.alloc (.cells #[.int .u64 s.id, .string ByteArray.empty, .int .i64 s.size, .slice am s.ms.length cm] 122)) w.heap.size s :=
  ⟨hl, by rw [World.cell?_alloc_at _ _ _ _ rfl]; rfl, by rw [World.cell?_alloc_at _ _ _ _ rfl]; rfl,
    ⟨am, cm, by rw [World.cell?_alloc_at _ _ _ _ rfl]; rfl, hm.ck (CK.of_below ((Below.refl _ _).alloc (Nat.le_refl _) _))⟩, hu, hz⟩
end Go.Proofs.Qxb6609540aGreatDoor
