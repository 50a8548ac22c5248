/-
  DERIVED. GIVEN WITH THE SEED: THE CARDS: each row of Qxb6609499aFmtRows.lean that lists a variable, with what it lists TIED to the program's text (the seventh form; the later family's looks); each row that meets fmt, with fmt's text TOLD by the authors' own Lean function (tested against real Go, not proved from fmt's source: count such statements apart). THE CARD IS WHAT COUNTS. Prove the row's statement (the work); the ties are given (Qxb6609499aFmtTie.lean); close each card by the builder's one call (the guide's Derived/Test/ToyasCard.lean, 'card_holds'). Laid BY PROGRAM, IN A SANDBOX (cutbox-door.mjs). By AI agents, Wed Nov 11 2026. No macro, syntax, notation, axiom, sorry.
-/
import Derived.Test.Qxb6609499aFmtRows
import GoSem.ClaimSeven
namespace Go.Proofs.Qxb6609499aFmt
namespace Rows

/-- THE TOLD CARD OF 'zzlaws_root_b1.FnModuleLevelFirstReachedAndMonotone'. -/
def fnModuleLevelFirstReachedAndMonotoneCard : Claim7 := { stood := { row := fnModuleLevelFirstReachedAndMonotoneRow, standIns := [], harness := (true, "e600c4eb4e677daca4e5cddb823cc828de08b2ab168667227dc888b54806a2da"), looks := false }, told := true, goes := false }
def FnModuleLevelFirstReachedAndMonotoneToldSaid : Prop := Claim7.holds Tryf.pinned (.plain (OpenSpec.ofChange fnModuleLevelFirstReachedAndMonotoneSpec)) fnModuleLevelFirstReachedAndMonotoneCard
/-- ITS FALSE NEIGHBOUR. Refute it at one input. -/
def FnModuleLevelFirstReachedAndMonotoneToldWrongFalsely : Prop := Claim7.holds Tryf.pinned (.plain (OpenSpec.ofChange fnModuleLevelFirstReachedAndMonotoneWrong)) fnModuleLevelFirstReachedAndMonotoneCard
end Rows
end Go.Proofs.Qxb6609499aFmt
