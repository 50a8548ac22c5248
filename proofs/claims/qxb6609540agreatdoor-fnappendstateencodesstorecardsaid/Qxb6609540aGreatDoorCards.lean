/-
  DERIVED. GIVEN WITH THE SEED: THE CARDS: each row of Qxb6609540aGreatDoorRows.lean that lists a variable, with what it lists TIED to the program's text (the seventh form; the later family's looks); each row that meets fmt, with fmt's text TOLD by the authors' own Lean function (tested against real Go, not proved from fmt's source: count such statements apart). THE CARD IS WHAT COUNTS. Prove the row's statement (the work); the ties are given (Qxb6609540aGreatDoorTie.lean); close each card by the builder's one call (the guide's Derived/Test/ToyasCard.lean, 'card_holds'). Laid BY PROGRAM, IN A SANDBOX (cutbox-door.mjs). By AI agents, Wed Nov 11 2026. No macro, syntax, notation, axiom, sorry.
-/
import Derived.Test.Qxb6609540aGreatDoorRows
import GoSem.ClaimSeven
namespace Go.Proofs.Qxb6609540aGreatDoor
namespace Rows

/-- THE TIED CARD OF 'zzlaws_storage_b1.FnAppendStateEncodesStore'. -/
def fnAppendStateEncodesStoreCard : Claim7 := { stood := { row := fnAppendStateEncodesStoreRow, standIns := [], harness := (true, "49584af602403240bd87f1f0a0097e9c6895ca34466580fcb0e0a059536ba2fe"), looks := false }, kinds := [], alts := [], laidByText := true, laidKinds := [.widerDeep], laidTests := true, laidLooks := .later }
def FnAppendStateEncodesStoreCardSaid : Prop := Claim7.holds Tryz.pinned (.plain (OpenSpec.ofChange fnAppendStateEncodesStoreSpec)) fnAppendStateEncodesStoreCard

/-- THE TIED CARD OF 'zzlaws_storage_b1.FnAppendStateSizeAndPrefixFree'. -/
def fnAppendStateSizeAndPrefixFreeCard : Claim7 := { stood := { row := fnAppendStateSizeAndPrefixFreeRow, standIns := [], harness := (true, "49584af602403240bd87f1f0a0097e9c6895ca34466580fcb0e0a059536ba2fe"), looks := false }, kinds := [], alts := [], laidByText := true, laidKinds := [.widerDeep], laidTests := true, laidLooks := .later }
def FnAppendStateSizeAndPrefixFreeCardSaid : Prop := Claim7.holds Tryz.pinned (.plain (OpenSpec.ofChange fnAppendStateSizeAndPrefixFreeSpec)) fnAppendStateSizeAndPrefixFreeCard
end Rows
end Go.Proofs.Qxb6609540aGreatDoor
