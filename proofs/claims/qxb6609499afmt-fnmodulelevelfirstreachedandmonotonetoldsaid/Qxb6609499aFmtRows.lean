/-
  No cell of these rows narrows 'for every input' (looked for: loops, veiled, ifaces, maps, wideKeys, modest, calm, conditions, laid).
  DERIVED. THE GIVEN ROWS OF THIS SEAT. 1 by the template 'for every input the law returns true; each argument reads behind the call as it read before'; 0 by the template 'total and deterministic' (their statements: Qxb6609499aFmtTotals.lean).
  GIVEN WITH THE SEED: the statements are not yours to turn. If you find one false, say at which input.
  Laid BY PROGRAM, IN A SANDBOX (cutbox-rows.mjs): the forced cells as the released guide's own fill.sh prints them over the translation 125030f90647e96e… (all of the seat's roots in one cut). By AI agents, Wed Nov 11 2026. No macro, syntax, notation, axiom, sorry.
-/
import Derived.Test.Qxb6609499aFmtChecked
import GoSem.Claim
import GoSem.ClaimJoined
import GoSem.ClaimMapViews
import Derived.JoinedTies
import Derived.KernelRfl
namespace Go.Proofs.Qxb6609499aFmt
/- THE CELL 'sum', in the pinned program and in every row, IS THE sha256 OF THE DUMP (.gsa) THAT Qxb6609499aFmtProg.lean LOADS. Nothing in Lean hashes anything: it is a label: what it is worth is what the hold of that sum in a sandbox is worth. -/
noncomputable def Tryf.pinned : Pinned := { name := "qxb6609499afmt", sum := "125030f90647e96e387f1f2dd75bfd61d1097294f3210ea89d11b4038ca87f47", checked := Tryf.checked }
namespace Rows
def none {H : Type} : Left H := { results := [], args := [] }

/-- 'zzlaws_root_b1.FnModuleLevelFirstReachedAndMonotone': WHATEVER THE INPUT: true; the input reads as it did. -/
def fnModuleLevelFirstReachedAndMonotoneSpec : ChangeSpec := { name := "fnModuleLevelFirstReachedAndMonotone", fn := fun _ => fun
  | [d1, d2, d3, d4] => { results := [.lit (.bool true)], args := [d1, d2, d3, d4] }
  | _ => none }
def fnModuleLevelFirstReachedAndMonotoneRow : OpenClaim := { program := "qxb6609499afmt", sum := "125030f90647e96e387f1f2dd75bfd61d1097294f3210ea89d11b4038ca87f47", func := "example.com/enclave-attest/enclave-attest/zzlaws_root_b1.FnModuleLevelFirstReachedAndMonotone", spec := "fnModuleLevelFirstReachedAndMonotone", stops := ["fmt.Sprintf", "fmt.errorf"], inPlace := ["fmt.Sprintf", "fmt.errorf"], unfollowed := true, recurses := true, apart := false }
/-- NO THEOREM (fmt's text is open here; it may be false): for the released tool's asking of the row's closed facts alone. THE STATEMENT IS 'FnModuleLevelFirstReachedAndMonotoneToldSaid' (Qxb6609499aFmtCards.lean). -/
def FnModuleLevelFirstReachedAndMonotoneFormAsk : Prop := fnModuleLevelFirstReachedAndMonotoneRow.holds Tryf.pinned (OpenSpec.ofChange fnModuleLevelFirstReachedAndMonotoneSpec)

/-- ITS FALSE NEIGHBOUR: 'it returns false'. Refute it at one input. -/
def fnModuleLevelFirstReachedAndMonotoneWrong : ChangeSpec := { name := "fnModuleLevelFirstReachedAndMonotone", fn := fun _ => fun
  | [d1, d2, d3, d4] => { results := [.lit (.bool false)], args := [d1, d2, d3, d4] }
  | _ => none }
def FnModuleLevelFirstReachedAndMonotoneWrongFormAsk : Prop := fnModuleLevelFirstReachedAndMonotoneRow.holds Tryf.pinned (OpenSpec.ofChange fnModuleLevelFirstReachedAndMonotoneWrong)

end Rows
end Go.Proofs.Qxb6609499aFmt
