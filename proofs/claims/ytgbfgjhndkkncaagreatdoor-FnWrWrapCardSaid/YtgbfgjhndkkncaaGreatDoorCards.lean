/-
  DERIVED. GIVEN WITH THE SEED: THE CARDS: each row of YtgbfgjhndkkncaaGreatDoorRows.lean that lists a variable, with what it lists TIED to the program's text (the seventh form; the later family's looks); each row that meets fmt, with fmt's text TOLD by the authors' own Lean function (tested against real Go, not proved from fmt's source: count such statements apart). THE CARD IS WHAT COUNTS. Prove the row's statement (the work); the ties are given (YtgbfgjhndkkncaaGreatDoorTie.lean); close each card by the builder's one call (the guide's Derived/Test/ToyasCard.lean, 'card_holds'). Laid BY PROGRAM, IN A SANDBOX (cutbox-door.mjs). By AI agents, Wed Nov 11 2026. No macro, syntax, notation, axiom, sorry.
-/
import Derived.Test.YtgbfgjhndkkncaaGreatDoorRows
import GoSem.ClaimSeven
namespace Go.Proofs.YtgbfgjhndkkncaaGreatDoor
namespace Rows

/-- THE TIED CARD OF 'laws.FnWrWrap'. -/
def fnWrWrapCard : Claim7 := { stood := { row := fnWrWrapRow, standIns := [], harness := (true, "4b354cb693d693c92ee48efd1d722218cdeebf029f33c8e3ca9dd2f1a440de74"), looks := true }, kinds := [], alts := [], laidByText := true, laidKinds := [.sentinel, .sentinel, .sentinel, .sentinel, .sentinel, .sentinel, .sentinel, .sentinel, .sentinel, .sentinel, .sentinel, .sentinel, .sentinel, .sentinel, .sentinel, .sentinel, .data, .sentinel, .sentinel, .sentinel, .sentinel], laidTests := true, laidLooks := .later }
def FnWrWrapCardSaid : Prop := Claim7.holds Tryz.pinned (.plain (OpenSpec.ofChange fnWrWrapSpec)) fnWrWrapCard

/-- THE SECOND FORM's CARD OF 'laws.FnWrWrap'. -/
def fnWrWrapUptoCard : Claim7 := { stood := { row := fnWrWrapUptoRow, standIns := [], harness := (true, "4b354cb693d693c92ee48efd1d722218cdeebf029f33c8e3ca9dd2f1a440de74"), looks := true }, kinds := [], alts := [], laidByText := true, laidKinds := [.sentinel, .sentinel, .sentinel, .sentinel, .sentinel, .sentinel, .sentinel, .sentinel, .sentinel, .sentinel, .sentinel, .sentinel, .sentinel, .sentinel, .sentinel, .sentinel, .data, .sentinel, .sentinel, .sentinel, .sentinel], laidTests := true, laidLooks := .later }
def FnWrWrapUptoCardSaid : Prop := Claim7.holds Tryz.pinned (.plain (OpenSpec.upto fnWrWrapSpec)) fnWrWrapUptoCard
end Rows
end Go.Proofs.YtgbfgjhndkkncaaGreatDoor
