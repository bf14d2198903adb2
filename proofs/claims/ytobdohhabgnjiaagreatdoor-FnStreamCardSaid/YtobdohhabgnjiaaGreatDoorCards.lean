/-
  DERIVED. GIVEN WITH THE SEED: THE CARDS: each row of YtobdohhabgnjiaaGreatDoorRows.lean that lists a variable, with what it lists TIED to the program's text (the seventh form; the later family's looks); each row that meets fmt, with fmt's text TOLD by the authors' own Lean function (tested against real Go, not proved from fmt's source: count such statements apart). THE CARD IS WHAT COUNTS. Prove the row's statement (the work); the ties are given (YtobdohhabgnjiaaGreatDoorTie.lean); close each card by the builder's one call (the guide's Derived/Test/ToyasCard.lean, 'card_holds'). Laid BY PROGRAM, IN A SANDBOX (cutbox-door.mjs). By AI agents, Wed Nov 11 2026. No macro, syntax, notation, axiom, sorry.
-/
import Derived.Test.YtobdohhabgnjiaaGreatDoorRows
import GoSem.ClaimSeven
namespace Go.Proofs.YtobdohhabgnjiaaGreatDoor
namespace Rows

/-- THE TIED CARD OF 'laws.FnStream'. -/
def fnStreamCard : Claim7 := { stood := { row := fnStreamRow, standIns := [], harness := (true, "7a83371405209de88b238829fb25eed35dfb941f431269dbc3f34f377be854e7"), looks := true }, kinds := [], alts := [], laidByText := true, laidKinds := [.sentinel, .sentinel, .sentinel, .sentinel, .sentinel, .sentinel, .sentinel, .sentinel, .sentinel, .sentinel, .sentinel, .sentinel], laidTests := true, laidLooks := .later }
def FnStreamCardSaid : Prop := Claim7.holds Tryz.pinned (.plain (OpenSpec.ofChange fnStreamSpec)) fnStreamCard

/-- THE SECOND FORM's CARD OF 'laws.FnStream'. -/
def fnStreamUptoCard : Claim7 := { stood := { row := fnStreamUptoRow, standIns := [], harness := (true, "7a83371405209de88b238829fb25eed35dfb941f431269dbc3f34f377be854e7"), looks := true }, kinds := [], alts := [], laidByText := true, laidKinds := [.sentinel, .sentinel, .sentinel, .sentinel, .sentinel, .sentinel, .sentinel, .sentinel, .sentinel, .sentinel, .sentinel, .sentinel], laidTests := true, laidLooks := .later }
def FnStreamUptoCardSaid : Prop := Claim7.holds Tryz.pinned (.plain (OpenSpec.upto fnStreamSpec)) fnStreamUptoCard
end Rows
end Go.Proofs.YtobdohhabgnjiaaGreatDoor
