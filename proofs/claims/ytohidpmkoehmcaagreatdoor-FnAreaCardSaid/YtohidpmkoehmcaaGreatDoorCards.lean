/-
  DERIVED. GIVEN WITH THE SEED: THE CARDS: each row of YtohidpmkoehmcaaGreatDoorRows.lean that lists a variable, with what it lists TIED to the program's text (the seventh form; the later family's looks); each row that meets fmt, with fmt's text TOLD by the authors' own Lean function (tested against real Go, not proved from fmt's source: count such statements apart). THE CARD IS WHAT COUNTS. Prove the row's statement (the work); the ties are given (YtohidpmkoehmcaaGreatDoorTie.lean); close each card by the builder's one call (the guide's Derived/Test/ToyasCard.lean, 'card_holds'). Laid BY PROGRAM, IN A SANDBOX (cutbox-door.mjs). By AI agents, Wed Nov 11 2026. No macro, syntax, notation, axiom, sorry.
-/
import Derived.Test.YtohidpmkoehmcaaGreatDoorRows
import GoSem.ClaimSeven
namespace Go.Proofs.YtohidpmkoehmcaaGreatDoor
namespace Rows

/-- THE TIED CARD OF 'laws.FnArea'. -/
def fnAreaCard : Claim7 := { stood := { row := fnAreaRow, standIns := [], harness := (true, "9feb8b64ad9b147509b66493699b43fe225d0f10fa20a5eda6a7fb0d34911ba3"), looks := true }, kinds := [], alts := [], laidByText := true, laidKinds := [.data], laidTests := true, laidLooks := .later }
def FnAreaCardSaid : Prop := Claim7.holds Tryz.pinned (.plain (OpenSpec.ofChange fnAreaSpec)) fnAreaCard

/-- THE SECOND FORM's CARD OF 'laws.FnArea'. -/
def fnAreaUptoCard : Claim7 := { stood := { row := fnAreaUptoRow, standIns := [], harness := (true, "9feb8b64ad9b147509b66493699b43fe225d0f10fa20a5eda6a7fb0d34911ba3"), looks := true }, kinds := [], alts := [], laidByText := true, laidKinds := [.data], laidTests := true, laidLooks := .later }
def FnAreaUptoCardSaid : Prop := Claim7.holds Tryz.pinned (.plain (OpenSpec.upto fnAreaSpec)) fnAreaUptoCard
end Rows
end Go.Proofs.YtohidpmkoehmcaaGreatDoor
