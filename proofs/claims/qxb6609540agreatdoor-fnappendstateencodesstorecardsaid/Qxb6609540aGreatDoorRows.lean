/-
  NARROWER THAN 'FOR EVERY INPUT', by the rows' own cells (each row's printed sentence says how): FnAppendStateEncodesStore: laid · FnAppendStateSizeAndPrefixFree: laid.
  DERIVED. THE GIVEN ROWS OF THIS SEAT. 2 by the template 'for every input the law returns true; each argument reads behind the call as it read before'; 0 by the template 'total and deterministic' (their statements: Qxb6609540aGreatDoorTotals.lean).
  GIVEN WITH THE SEED: the statements are not yours to turn. If you find one false, say at which input.
  Laid BY PROGRAM, IN A SANDBOX (cutbox-rows.mjs): the forced cells as the released guide's own fill.sh prints them over the translation fdb89548727fbfec… (all of the seat's roots in one cut). By AI agents, Wed Nov 11 2026. No macro, syntax, notation, axiom, sorry.
-/
import Derived.Test.Qxb6609540aGreatDoorChecked
import GoSem.Claim
import GoSem.ClaimJoined
import GoSem.ClaimMapViews
import Derived.JoinedTies
import Derived.KernelRfl
namespace Go.Proofs.Qxb6609540aGreatDoor
/- THE CELL 'sum', in the pinned program and in every row, IS THE sha256 OF THE DUMP (.gsa) THAT Qxb6609540aGreatDoorProg.lean LOADS. Nothing in Lean hashes anything: it is a label: what it is worth is what the hold of that sum in a sandbox is worth. -/
noncomputable def Tryz.pinned : Pinned := { name := "qxb6609540agreatdoor", sum := "fdb89548727fbfecbd9a60072c7fae4eab2bea64f55f602597b4abb142108cda", checked := Tryz.checked }
namespace Rows
def none {H : Type} : Left H := { results := [], args := [] }

/- WHAT THE LISTED PACKAGE-LEVEL VARIABLES READ AS WHEN THE CALL BEGINS. Each datum BY PROGRAM (the guide's laid-datum.mjs) off the statement by which the dump's own 'gosem.cut.vars' lays the variable. In a bare row this is a premise. The card (Qxb6609540aGreatDoorCards.lean) ties it to the program's text. -/
def laid_example_com_ingestrel_ingestrel_storage_fieldKinds {H : Type} : DataW H := .agg [.lit (.int .u8 1), .lit (.int .u8 2), .lit (.int .u8 3), .lit (.int .u8 4)]

/-- 'zzlaws_storage_b1.FnAppendStateEncodesStore': WHATEVER THE INPUT: true; the input reads as it did. -/
def fnAppendStateEncodesStoreSpec : ChangeSpec := { name := "fnAppendStateEncodesStore", vars := ["example.com/ingestrel/ingestrel/storage.fieldKinds"], fn := fun _ => fun
  | [d1, d2, d3, d4, d5, g1] => { results := [.lit (.bool true)], args := [d1, d2, d3, d4, d5], vars := [g1] }
  | _ => none }
def fnAppendStateEncodesStoreRow : OpenClaim := { program := "qxb6609540agreatdoor", sum := "fdb89548727fbfecbd9a60072c7fae4eab2bea64f55f602597b4abb142108cda", func := "example.com/ingestrel/ingestrel/zzlaws_storage_b1.FnAppendStateEncodesStore", spec := "fnAppendStateEncodesStore", unfollowed := true, recurses := true, named := ["example.com/ingestrel/ingestrel/storage.fieldKinds"], apart := false, laid := [("example.com/ingestrel/ingestrel/storage.fieldKinds", laid_example_com_ingestrel_ingestrel_storage_fieldKinds)] }
def FnAppendStateEncodesStoreSaid : Prop := fnAppendStateEncodesStoreRow.holds Tryz.pinned (OpenSpec.ofChange fnAppendStateEncodesStoreSpec)

/-- ITS FALSE NEIGHBOUR: 'it returns false'. Refute it at one input. -/
def fnAppendStateEncodesStoreWrong : ChangeSpec := { name := "fnAppendStateEncodesStore", vars := ["example.com/ingestrel/ingestrel/storage.fieldKinds"], fn := fun _ => fun
  | [d1, d2, d3, d4, d5, g1] => { results := [.lit (.bool false)], args := [d1, d2, d3, d4, d5], vars := [g1] }
  | _ => none }
def FnAppendStateEncodesStoreWrongFalsely : Prop := fnAppendStateEncodesStoreRow.holds Tryz.pinned (OpenSpec.ofChange fnAppendStateEncodesStoreWrong)

/-- 'zzlaws_storage_b1.FnAppendStateSizeAndPrefixFree': WHATEVER THE INPUT: true; the input reads as it did. -/
def fnAppendStateSizeAndPrefixFreeSpec : ChangeSpec := { name := "fnAppendStateSizeAndPrefixFree", vars := ["example.com/ingestrel/ingestrel/storage.fieldKinds"], fn := fun _ => fun
  | [d1, d2, d3, d4, d5, g1] => { results := [.lit (.bool true)], args := [d1, d2, d3, d4, d5], vars := [g1] }
  | _ => none }
def fnAppendStateSizeAndPrefixFreeRow : OpenClaim := { program := "qxb6609540agreatdoor", sum := "fdb89548727fbfecbd9a60072c7fae4eab2bea64f55f602597b4abb142108cda", func := "example.com/ingestrel/ingestrel/zzlaws_storage_b1.FnAppendStateSizeAndPrefixFree", spec := "fnAppendStateSizeAndPrefixFree", unfollowed := true, recurses := true, named := ["example.com/ingestrel/ingestrel/storage.fieldKinds"], apart := false, laid := [("example.com/ingestrel/ingestrel/storage.fieldKinds", laid_example_com_ingestrel_ingestrel_storage_fieldKinds)] }
def FnAppendStateSizeAndPrefixFreeSaid : Prop := fnAppendStateSizeAndPrefixFreeRow.holds Tryz.pinned (OpenSpec.ofChange fnAppendStateSizeAndPrefixFreeSpec)

/-- ITS FALSE NEIGHBOUR: 'it returns false'. Refute it at one input. -/
def fnAppendStateSizeAndPrefixFreeWrong : ChangeSpec := { name := "fnAppendStateSizeAndPrefixFree", vars := ["example.com/ingestrel/ingestrel/storage.fieldKinds"], fn := fun _ => fun
  | [d1, d2, d3, d4, d5, g1] => { results := [.lit (.bool false)], args := [d1, d2, d3, d4, d5], vars := [g1] }
  | _ => none }
def FnAppendStateSizeAndPrefixFreeWrongFalsely : Prop := fnAppendStateSizeAndPrefixFreeRow.holds Tryz.pinned (OpenSpec.ofChange fnAppendStateSizeAndPrefixFreeWrong)

end Rows
end Go.Proofs.Qxb6609540aGreatDoor
