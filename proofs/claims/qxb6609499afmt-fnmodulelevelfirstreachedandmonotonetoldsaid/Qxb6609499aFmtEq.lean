/-
  Equality of byte arrays of 48 cells.
-/
import Derived.Test.Qxb6609499aFmtShapes
import Derived.Stop.BytesEq
import Derived.Laws.StructEq
namespace Go.Proofs.Qxb6609499aFmt
open Go.RowKit
open Go.Extern.Stop (cell)
theorem B8_cells (zs : List Int) (n : Nat) (h : Byt zs n) : B8 zs = (zs.map (fun z => z.toNat.toUInt8)).map cell := by
  unfold B8
  rw [List.map_map]
  refine List.map_congr_left fun z hz => ?_
  have := h.2 z hz
  simp only [Function.comp, cell]
  congr 1
  simp
  omega
theorem bytes_beq {za zb : List Int} {n : Nat} (ha : Byt za n) (hb : Byt zb n) : (za.map (fun z => z.toNat.toUInt8) == zb.map (fun z => z.toNat.toUInt8)) = (za == zb) := by
  rw [Bool.eq_iff_iff]
  simp only [beq_iff_eq]
  constructor
  · intro h
    have inj : ∀ x ∈ za, ∀ y ∈ zb, x.toNat.toUInt8 = y.toNat.toUInt8 → x = y := fun x hx y hy e => by
      have h1 := ha.2 x hx
      have h2 := hb.2 y hy
      have := congrArg UInt8.toNat e
      simp at this
      omega
    have hl : za.length = zb.length := ha.1.trans hb.1.symm
    apply List.ext_getElem hl
    intro i h1 h2
    exact inj _ (List.getElem_mem h1) _ (List.getElem_mem h2) (by
      have := congrArg (fun l => l[i]?) h
      simpa [h1, h2] using this)
  · rintro rfl; rfl
theorem Tryf.size5w (w : World) : (sizeOf 5).run Tryf.prog w = .ok 1 w := by kernel_rfl
theorem eql48 {za zb : List Int} (ha : Byt za 48) (hb : Byt zb 48) (w : World) : (binOp .eql 23 (.agg (B8 za).toArray) (.agg (B8 zb).toArray)).run Tryf.prog w = .ok (.bool (za == zb)) w := by
  rw [B8_cells za 48 ha, B8_cells zb 48 hb, run_eql_bytes w 23 5 48 Tryf.underlying23 Tryf.underlying5 Tryf.size5w _ _ (by simp [ha.1]) (by simp [hb.1]), bytes_beq ha hb]
theorem neq48 {za zb : List Int} (ha : Byt za 48) (hb : Byt zb 48) (w : World) : (binOp .neq 23 (.agg (B8 za).toArray) (.agg (B8 zb).toArray)).run Tryf.prog w = .ok (.bool (!(za == zb))) w := by
  rw [B8_cells za 48 ha, B8_cells zb 48 hb, run_neq_struct, run_equalIn_bytes w 9998 23 5 48 Tryf.underlying23 Tryf.underlying5 Tryf.size5w _ _ (by simp [ha.1]) (by simp [hb.1]), bytes_beq ha hb]
  rfl
end Go.Proofs.Qxb6609499aFmt
