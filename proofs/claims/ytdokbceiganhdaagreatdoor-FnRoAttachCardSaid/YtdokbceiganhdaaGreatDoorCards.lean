/-
  DERIVED. GIVEN WITH THE SEED: THE CARDS: each row of YtdokbceiganhdaaGreatDoorRows.lean that lists a variable, with what it lists TIED to the program's text (the seventh form; the later family's looks); each row that meets fmt, with fmt's text TOLD by the authors' own Lean function (tested against real Go, not proved from fmt's source: count such statements apart). THE CARD IS WHAT COUNTS. Prove the row's statement (the work); the ties are given (YtdokbceiganhdaaGreatDoorTie.lean); close each card by the builder's one call (the guide's Derived/Test/ToyasCard.lean, 'card_holds'). Laid BY PROGRAM, IN A SANDBOX (cutbox-door.mjs). By AI agents, Wed Nov 11 2026. No macro, syntax, notation, axiom, sorry.
-/
import Derived.Test.YtdokbceiganhdaaGreatDoorRows
import GoSem.ClaimSeven
namespace Go.Proofs.YtdokbceiganhdaaGreatDoor
namespace Rows

/-- THE TIED CARD OF 'laws.FnRoAttach'. -/
def fnRoAttachCard : Claim7 := { stood := { row := fnRoAttachRow, standIns := [], harness := (true, "aeef1fd9332d03edcd98f6c05ebcdac4e0b6feda2bbdb7130f12c7cb7a4ff826"), looks := true }, kinds := [], alts := [], laidByText := true, laidKinds := [.sentinel, .sentinel, .sentinel, .sentinel, .sentinel, .sentinel, .sentinel, .sentinel, .sentinel, .sentinel, .sentinel, .sentinel, .sentinel, .sentinel, .sentinel, .sentinel, .data, .sentinel, .sentinel, .sentinel, .sentinel], laidTests := true, laidLooks := .later }
def FnRoAttachCardSaid : Prop := Claim7.holds Tryz.pinned (.plain (OpenSpec.ofChange fnRoAttachSpec)) fnRoAttachCard

/-- THE SECOND FORM's CARD OF 'laws.FnRoAttach'. -/
def fnRoAttachUptoCard : Claim7 := { stood := { row := fnRoAttachUptoRow, standIns := [], harness := (true, "aeef1fd9332d03edcd98f6c05ebcdac4e0b6feda2bbdb7130f12c7cb7a4ff826"), looks := true }, kinds := [], alts := [], laidByText := true, laidKinds := [.sentinel, .sentinel, .sentinel, .sentinel, .sentinel, .sentinel, .sentinel, .sentinel, .sentinel, .sentinel, .sentinel, .sentinel, .sentinel, .sentinel, .sentinel, .sentinel, .data, .sentinel, .sentinel, .sentinel, .sentinel], laidTests := true, laidLooks := .later }
def FnRoAttachUptoCardSaid : Prop := Claim7.holds Tryz.pinned (.plain (OpenSpec.upto fnRoAttachSpec)) fnRoAttachUptoCard
end Rows
end Go.Proofs.YtdokbceiganhdaaGreatDoor
