/-
  No cell of these rows narrows 'for every input' (looked for: loops, veiled, ifaces, maps, wideKeys, modest, calm, conditions, laid).
  DERIVED. THE GIVEN ROWS OF THIS SEAT. 2 by the template 'for every input the law returns true; each argument reads behind the call as it read before'; 0 by the template 'total and deterministic' (their statements: Qxb6613893aTotals.lean).
  GIVEN WITH THE SEED: the statements are not yours to turn. If you find one false, say at which input.
  Laid BY PROGRAM, IN A SANDBOX (cutbox-rows.mjs): the forced cells as the released guide's own fill.sh prints them over the translation dfcb460e9454c07f… (all of the seat's roots in one cut). By AI agents, Wed Nov 11 2026. No macro, syntax, notation, axiom, sorry.
-/
import Derived.Test.Qxb6613893aChecked
import GoSem.Claim
import GoSem.ClaimJoined
import GoSem.ClaimMapViews
import Derived.JoinedTies
import Derived.KernelRfl
namespace Go.Proofs.Qxb6613893a
/- THE CELL 'sum', in the pinned program and in every row, IS THE sha256 OF THE DUMP (.gsa) THAT Qxb6613893aProg.lean LOADS. Nothing in Lean hashes anything: it is a label: what it is worth is what the hold of that sum in a sandbox is worth. -/
noncomputable def Try.pinned : Pinned := { name := "qxb6613893a", sum := "dfcb460e9454c07f4832e10de83f9db08d99d7324ea0e625da56a978d39d60a7", checked := Try.checked }
namespace Rows
def none {H : Type} : Left H := { results := [], args := [] }

/-- 'zzlaws_capture_b1.FnSwap32ReversesOctets': WHATEVER THE INPUT: true; the input reads as it did. -/
def fnSwap32ReversesOctetsSpec : ChangeSpec := { name := "fnSwap32ReversesOctets", fn := fun _ => fun
  | [d] => { results := [.lit (.bool true)], args := [d] }
  | _ => none }
def fnSwap32ReversesOctetsRow : OpenClaim := { program := "qxb6613893a", sum := "dfcb460e9454c07f4832e10de83f9db08d99d7324ea0e625da56a978d39d60a7", func := "example.com/tunnelwright/tunnelwright/zzlaws_capture_b1.FnSwap32ReversesOctets", spec := "fnSwap32ReversesOctets", apart := false }
def FnSwap32ReversesOctetsSaid : Prop := fnSwap32ReversesOctetsRow.holds Try.pinned (OpenSpec.ofChange fnSwap32ReversesOctetsSpec)

/-- ITS FALSE NEIGHBOUR: 'it returns false'. Refute it at one input. -/
def fnSwap32ReversesOctetsWrong : ChangeSpec := { name := "fnSwap32ReversesOctets", fn := fun _ => fun
  | [d] => { results := [.lit (.bool false)], args := [d] }
  | _ => none }
def FnSwap32ReversesOctetsWrongFalsely : Prop := fnSwap32ReversesOctetsRow.holds Try.pinned (OpenSpec.ofChange fnSwap32ReversesOctetsWrong)

/-- 'zzlaws_capture_b1.FnSwap32ShiftsOctetsDown': WHATEVER THE INPUT: true; the input reads as it did. -/
def fnSwap32ShiftsOctetsDownSpec : ChangeSpec := { name := "fnSwap32ShiftsOctetsDown", fn := fun _ => fun
  | [d] => { results := [.lit (.bool true)], args := [d] }
  | _ => none }
def fnSwap32ShiftsOctetsDownRow : OpenClaim := { program := "qxb6613893a", sum := "dfcb460e9454c07f4832e10de83f9db08d99d7324ea0e625da56a978d39d60a7", func := "example.com/tunnelwright/tunnelwright/zzlaws_capture_b1.FnSwap32ShiftsOctetsDown", spec := "fnSwap32ShiftsOctetsDown", apart := false }
def FnSwap32ShiftsOctetsDownSaid : Prop := fnSwap32ShiftsOctetsDownRow.holds Try.pinned (OpenSpec.ofChange fnSwap32ShiftsOctetsDownSpec)

/-- ITS FALSE NEIGHBOUR: 'it returns false'. Refute it at one input. -/
def fnSwap32ShiftsOctetsDownWrong : ChangeSpec := { name := "fnSwap32ShiftsOctetsDown", fn := fun _ => fun
  | [d] => { results := [.lit (.bool false)], args := [d] }
  | _ => none }
def FnSwap32ShiftsOctetsDownWrongFalsely : Prop := fnSwap32ShiftsOctetsDownRow.holds Try.pinned (OpenSpec.ofChange fnSwap32ShiftsOctetsDownWrong)

end Rows
end Go.Proofs.Qxb6613893a
