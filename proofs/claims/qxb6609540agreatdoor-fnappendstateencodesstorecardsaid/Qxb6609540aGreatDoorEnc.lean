/-
  The encoding of the state, as bytes; contracts of the lengths in the form that a quiet walk takes.
-/
import Derived.Test.Qxb6609540aGreatDoorSegsLen
namespace Go.Proofs.Qxb6609540aGreatDoor
open Go.RowKit
def eGrp (g : GrpV) : List Value := eV g.st ++ (eV g.en ++ eSegs (bif g.planned then g.plan else g.segs))
def ePolF (p : PolV) : List Value := ePol p ++ (eU p.grps.length ++ (p.grps.flatMap eGrp ++ eU 0))
def eDb (d : DbV) : List Value := eS d.name ++ (eU (uN d.ord) ++ (eS d.dp ++ (eU d.pols.length ++ d.pols.flatMap ePolF)))
def eState (nx cr : Int) (D : List DbV) : List Value := eU (uN nx) ++ (eU (uN cr) ++ (eU D.length ++ D.flatMap eDb))
theorem sLenQ_any (s : ByteArray) (hs : s.size ≤ 9223372036854770000) (w : World) :
    Calls Tryz.prog 31 #[.string s] w fun e w' => e = .returned (.int .i64 ((eS s).length : Nat)) ∧ w' = w := (sLen_any s hs w).mono fun _ _ ⟨h1, h2⟩ => ⟨h1, h2.symm⟩
theorem vLenQ_any (x : Int) (hx : I64 x) (w : World) :
    Calls Tryz.prog 32 #[.int .i64 x] w fun e w' => e = .returned (.int .i64 ((eV x).length : Nat)) ∧ w' = w := (vLen_any x hx w).mono fun _ _ ⟨h1, h2⟩ => ⟨h1, h2.symm⟩
theorem flat_perm_length {α : Type} (f : α → List Value) {A B : List α} (h : A.Perm B) : (A.flatMap f).length = (B.flatMap f).length := by
  exact (h.flatMap_right f).length_eq
theorem eGrp_length (g : GrpV) : (eGrp g).length = (eV g.st).length + (eV g.en).length + (eSegs (bif g.planned then g.plan else g.segs)).length := by
  simp only [eGrp, List.length_append]; omega
theorem ePol_length (p : PolV) : (ePol p).length = (eS p.name).length + (eV p.dur).length + (eV p.sgd).length + (eU (uN p.rep)).length := by
  simp only [ePol, List.length_append]; omega
theorem eU_zero : (eU 0).length = 1 := by rw [eU_length, Lib.uvarint_small (by omega)]; rfl
theorem ePolF_length (p : PolV) : (ePolF p).length = (ePol p).length + (eU p.grps.length).length + (p.grps.flatMap eGrp).length + 1 := by
  simp only [ePolF, List.length_append, eU_zero]; omega
theorem eDb_length (d : DbV) : (eDb d).length = (eS d.name).length + (eU (uN d.ord)).length + (eS d.dp).length + (eU d.pols.length).length + (d.pols.flatMap ePolF).length := by
  simp only [eDb, List.length_append]; omega
theorem eState_length (nx cr : Int) (D : List DbV) : (eState nx cr D).length = (eU (uN nx)).length + (eU (uN cr)).length + (eU D.length).length + (D.flatMap eDb).length := by
  simp only [eState, List.length_append]; omega
end Go.Proofs.Qxb6609540aGreatDoor
