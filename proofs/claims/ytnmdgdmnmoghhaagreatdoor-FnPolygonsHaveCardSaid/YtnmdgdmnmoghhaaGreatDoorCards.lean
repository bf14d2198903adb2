/-
  DERIVED. GIVEN WITH THE SEED: THE CARDS: each row of YtnmdgdmnmoghhaaGreatDoorRows.lean that lists a variable, with what it lists TIED to the program's text (the seventh form; the later family's looks); each row that meets fmt, with fmt's text TOLD by the authors' own Lean function (tested against real Go, not proved from fmt's source: count such statements apart). THE CARD IS WHAT COUNTS. Prove the row's statement (the work); the ties are given (YtnmdgdmnmoghhaaGreatDoorTie.lean); close each card by the builder's one call (the guide's Derived/Test/ToyasCard.lean, 'card_holds'). Laid BY PROGRAM, IN A SANDBOX (cutbox-door.mjs). By AI agents, Wed Nov 11 2026. No macro, syntax, notation, axiom, sorry.
-/
import Derived.Test.YtnmdgdmnmoghhaaGreatDoorRows
import GoSem.ClaimSeven
namespace Go.Proofs.YtnmdgdmnmoghhaaGreatDoor
namespace Rows

/-- THE TIED CARD OF 'laws.FnPolygonHas'. -/
def fnPolygonHasCard : Claim7 := { stood := { row := fnPolygonHasRow, standIns := [], harness := (true, "44fbfca77336f01338c11994ec48970108db6b836f870cec6674ee3ebce64296"), looks := true }, kinds := [], alts := [], laidByText := true, laidKinds := [.data], laidTests := true, laidLooks := .later }
def FnPolygonHasCardSaid : Prop := Claim7.holds Tryz.pinned (.plain (OpenSpec.ofChange fnPolygonHasSpec)) fnPolygonHasCard

/-- THE TIED CARD OF 'laws.FnPolygonsHave'. -/
def fnPolygonsHaveCard : Claim7 := { stood := { row := fnPolygonsHaveRow, standIns := [], harness := (true, "44fbfca77336f01338c11994ec48970108db6b836f870cec6674ee3ebce64296"), looks := true }, kinds := [], alts := [], laidByText := true, laidKinds := [.data], laidTests := true, laidLooks := .later }
def FnPolygonsHaveCardSaid : Prop := Claim7.holds Tryz.pinned (.plain (OpenSpec.ofChange fnPolygonsHaveSpec)) fnPolygonsHaveCard

/-- THE TIED CARD OF 'laws.FnArea'. -/
def fnAreaCard : Claim7 := { stood := { row := fnAreaRow, standIns := [], harness := (true, "44fbfca77336f01338c11994ec48970108db6b836f870cec6674ee3ebce64296"), looks := true }, kinds := [], alts := [], laidByText := true, laidKinds := [.data], laidTests := true, laidLooks := .later }
def FnAreaCardSaid : Prop := Claim7.holds Tryz.pinned (.plain (OpenSpec.ofChange fnAreaSpec)) fnAreaCard

/-- THE SECOND FORM's CARD OF 'laws.FnPolygonHas'. -/
def fnPolygonHasUptoCard : Claim7 := { stood := { row := fnPolygonHasUptoRow, standIns := [], harness := (true, "44fbfca77336f01338c11994ec48970108db6b836f870cec6674ee3ebce64296"), looks := true }, kinds := [], alts := [], laidByText := true, laidKinds := [.data], laidTests := true, laidLooks := .later }
def FnPolygonHasUptoCardSaid : Prop := Claim7.holds Tryz.pinned (.plain (OpenSpec.upto fnPolygonHasSpec)) fnPolygonHasUptoCard

/-- THE SECOND FORM's CARD OF 'laws.FnPolygonsHave'. -/
def fnPolygonsHaveUptoCard : Claim7 := { stood := { row := fnPolygonsHaveUptoRow, standIns := [], harness := (true, "44fbfca77336f01338c11994ec48970108db6b836f870cec6674ee3ebce64296"), looks := true }, kinds := [], alts := [], laidByText := true, laidKinds := [.data], laidTests := true, laidLooks := .later }
def FnPolygonsHaveUptoCardSaid : Prop := Claim7.holds Tryz.pinned (.plain (OpenSpec.upto fnPolygonsHaveSpec)) fnPolygonsHaveUptoCard

/-- THE SECOND FORM's CARD OF 'laws.FnArea'. -/
def fnAreaUptoCard : Claim7 := { stood := { row := fnAreaUptoRow, standIns := [], harness := (true, "44fbfca77336f01338c11994ec48970108db6b836f870cec6674ee3ebce64296"), looks := true }, kinds := [], alts := [], laidByText := true, laidKinds := [.data], laidTests := true, laidLooks := .later }
def FnAreaUptoCardSaid : Prop := Claim7.holds Tryz.pinned (.plain (OpenSpec.upto fnAreaSpec)) fnAreaUptoCard
end Rows
end Go.Proofs.YtnmdgdmnmoghhaaGreatDoor
