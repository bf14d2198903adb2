/-
  DERIVED. GIVEN WITH THE SEED: THE CARDS: each row of YtnmdgdmnmoghhaaDoorRows.lean that lists a variable, with what it lists TIED to the program's text (the seventh form; the later family's looks); each row that meets fmt, with fmt's text TOLD by the authors' own Lean function (tested against real Go, not proved from fmt's source: count such statements apart). THE CARD IS WHAT COUNTS. Prove the row's statement (the work); the ties are given (YtnmdgdmnmoghhaaDoorTie.lean); close each card by the builder's one call (the guide's Derived/Test/ToyasCard.lean, 'card_holds'). Laid BY PROGRAM, IN A SANDBOX (cutbox-door.mjs). By AI agents, Wed Nov 11 2026. No macro, syntax, notation, axiom, sorry.
-/
import Derived.Test.YtnmdgdmnmoghhaaDoorRows
import GoSem.ClaimSeven
namespace Go.Proofs.YtnmdgdmnmoghhaaDoor
namespace Rows

/-- THE TIED CARD OF 'laws.FnRingHas'. -/
def fnRingHasCard : Claim7 := { stood := { row := fnRingHasRow, standIns := [], harness := (true, "d95aa8fafe39a122008e8c7d50892261e9039fcba2c9ab109a1087d084856b22"), looks := true }, kinds := [], alts := [], laidByText := true, laidKinds := [.data], laidTests := true, laidLooks := .later }
def FnRingHasCardSaid : Prop := Claim7.holds Tryd.pinned (.plain (OpenSpec.ofChange fnRingHasSpec)) fnRingHasCard

/-- THE SECOND FORM's CARD OF 'laws.FnRingHas'. -/
def fnRingHasUptoCard : Claim7 := { stood := { row := fnRingHasUptoRow, standIns := [], harness := (true, "d95aa8fafe39a122008e8c7d50892261e9039fcba2c9ab109a1087d084856b22"), looks := true }, kinds := [], alts := [], laidByText := true, laidKinds := [.data], laidTests := true, laidLooks := .later }
def FnRingHasUptoCardSaid : Prop := Claim7.holds Tryd.pinned (.plain (OpenSpec.upto fnRingHasSpec)) fnRingHasUptoCard
end Rows
end Go.Proofs.YtnmdgdmnmoghhaaDoor
