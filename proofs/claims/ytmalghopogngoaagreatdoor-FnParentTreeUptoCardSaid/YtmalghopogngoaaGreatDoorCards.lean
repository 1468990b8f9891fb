/-
  DERIVED. GIVEN WITH THE SEED: THE CARDS: each row of YtmalghopogngoaaGreatDoorRows.lean that lists a variable, with what it lists TIED to the program's text (the seventh form; the later family's looks); each row that meets fmt, with fmt's text TOLD by the authors' own Lean function (tested against real Go, not proved from fmt's source: count such statements apart). THE CARD IS WHAT COUNTS. Prove the row's statement (the work); the ties are given (YtmalghopogngoaaGreatDoorTie.lean); close each card by the builder's one call (the guide's Derived/Test/ToyasCard.lean, 'card_holds'). Laid BY PROGRAM, IN A SANDBOX (cutbox-door.mjs). By AI agents, Wed Nov 11 2026. No macro, syntax, notation, axiom, sorry.
-/
import Derived.Test.YtmalghopogngoaaGreatDoorRows
import GoSem.ClaimSeven
namespace Go.Proofs.YtmalghopogngoaaGreatDoor
namespace Rows

/-- THE TIED CARD OF 'laws.FnParentTree'. -/
def fnParentTreeCard : Claim7 := { stood := { row := fnParentTreeRow, standIns := [], harness := (true, "23feaca4a15fb9bc7cd5b914d9f14c0ccb8cf9855d7b94ab544d75d282ed93ef"), looks := true }, kinds := [], alts := [], laidByText := true, laidKinds := [.data, .data, .widerDeep, .widerDeep, .data, .data, .data, .data, .data, .sentinel, .sentinel, .pinned, .pinned], laidTests := true, laidLooks := .later }
def FnParentTreeCardSaid : Prop := Claim7.holds Tryz.pinned (.plain (OpenSpec.ofChange fnParentTreeSpec)) fnParentTreeCard

/-- THE SECOND FORM's CARD OF 'laws.FnParentTree'. -/
def fnParentTreeUptoCard : Claim7 := { stood := { row := fnParentTreeUptoRow, standIns := [], harness := (true, "23feaca4a15fb9bc7cd5b914d9f14c0ccb8cf9855d7b94ab544d75d282ed93ef"), looks := true }, kinds := [], alts := [], laidByText := true, laidKinds := [.data, .data, .widerDeep, .widerDeep, .data, .data, .data, .data, .data, .sentinel, .sentinel, .pinned, .pinned], laidTests := true, laidLooks := .later }
def FnParentTreeUptoCardSaid : Prop := Claim7.holds Tryz.pinned (.plain (OpenSpec.upto fnParentTreeSpec)) fnParentTreeUptoCard
end Rows
end Go.Proofs.YtmalghopogngoaaGreatDoor
