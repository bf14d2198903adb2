/-
  DERIVED. GIVEN WITH THE SEED: THE CARDS: each row of YtcljppkejabibaaDoorRows.lean that lists a variable, with what it lists TIED to the program's text (the seventh form; the later family's looks); each row that meets fmt, with fmt's text TOLD by the authors' own Lean function (tested against real Go, not proved from fmt's source: count such statements apart). THE CARD IS WHAT COUNTS. Prove the row's statement (the work); the ties are given (YtcljppkejabibaaDoorTie.lean); close each card by the builder's one call (the guide's Derived/Test/ToyasCard.lean, 'card_holds'). Laid BY PROGRAM, IN A SANDBOX (cutbox-door.mjs). By AI agents, Wed Nov 11 2026. No macro, syntax, notation, axiom, sorry.
-/
import Derived.Test.YtcljppkejabibaaDoorRows
import GoSem.ClaimSeven
namespace Go.Proofs.YtcljppkejabibaaDoor
namespace Rows

/-- THE TIED CARD OF 'laws.FnRingArea'. -/
def fnRingAreaCard : Claim7 := { stood := { row := fnRingAreaRow, standIns := [], harness := (true, "1da96676d948552a6dac09b0fb2074b8559b4570140e39e74649ba81623d2a49"), looks := true }, kinds := [], alts := [], laidByText := true, laidKinds := [.data], laidTests := true, laidLooks := .later }
def FnRingAreaCardSaid : Prop := Claim7.holds Tryd.pinned (.plain (OpenSpec.ofChange fnRingAreaSpec)) fnRingAreaCard

/-- THE TIED CARD OF 'laws.FnRingHas'. -/
def fnRingHasCard : Claim7 := { stood := { row := fnRingHasRow, standIns := [], harness := (true, "1da96676d948552a6dac09b0fb2074b8559b4570140e39e74649ba81623d2a49"), looks := true }, kinds := [], alts := [], laidByText := true, laidKinds := [.data], laidTests := true, laidLooks := .later }
def FnRingHasCardSaid : Prop := Claim7.holds Tryd.pinned (.plain (OpenSpec.ofChange fnRingHasSpec)) fnRingHasCard

/-- THE TIED CARD OF 'laws.FnCentroid'. -/
def fnCentroidCard : Claim7 := { stood := { row := fnCentroidRow, standIns := [], harness := (true, "1da96676d948552a6dac09b0fb2074b8559b4570140e39e74649ba81623d2a49"), looks := true }, kinds := [], alts := [], laidByText := true, laidKinds := [.data], laidTests := true, laidLooks := .later }
def FnCentroidCardSaid : Prop := Claim7.holds Tryd.pinned (.plain (OpenSpec.ofChange fnCentroidSpec)) fnCentroidCard

/-- THE TIED CARD OF 'laws.FnLength'. -/
def fnLengthCard : Claim7 := { stood := { row := fnLengthRow, standIns := [], harness := (true, "1da96676d948552a6dac09b0fb2074b8559b4570140e39e74649ba81623d2a49"), looks := true }, kinds := [], alts := [], laidByText := true, laidKinds := [.data], laidTests := true, laidLooks := .later }
def FnLengthCardSaid : Prop := Claim7.holds Tryd.pinned (.plain (OpenSpec.ofChange fnLengthSpec)) fnLengthCard

/-- THE TIED CARD OF 'laws.FnNearest'. -/
def fnNearestCard : Claim7 := { stood := { row := fnNearestRow, standIns := [], harness := (true, "1da96676d948552a6dac09b0fb2074b8559b4570140e39e74649ba81623d2a49"), looks := true }, kinds := [], alts := [], laidByText := true, laidKinds := [.data], laidTests := true, laidLooks := .later }
def FnNearestCardSaid : Prop := Claim7.holds Tryd.pinned (.plain (OpenSpec.ofChange fnNearestSpec)) fnNearestCard

/-- THE SECOND FORM's CARD OF 'laws.FnRingArea'. -/
def fnRingAreaUptoCard : Claim7 := { stood := { row := fnRingAreaUptoRow, standIns := [], harness := (true, "1da96676d948552a6dac09b0fb2074b8559b4570140e39e74649ba81623d2a49"), looks := true }, kinds := [], alts := [], laidByText := true, laidKinds := [.data], laidTests := true, laidLooks := .later }
def FnRingAreaUptoCardSaid : Prop := Claim7.holds Tryd.pinned (.plain (OpenSpec.upto fnRingAreaSpec)) fnRingAreaUptoCard

/-- THE SECOND FORM's CARD OF 'laws.FnRingHas'. -/
def fnRingHasUptoCard : Claim7 := { stood := { row := fnRingHasUptoRow, standIns := [], harness := (true, "1da96676d948552a6dac09b0fb2074b8559b4570140e39e74649ba81623d2a49"), looks := true }, kinds := [], alts := [], laidByText := true, laidKinds := [.data], laidTests := true, laidLooks := .later }
def FnRingHasUptoCardSaid : Prop := Claim7.holds Tryd.pinned (.plain (OpenSpec.upto fnRingHasSpec)) fnRingHasUptoCard

/-- THE SECOND FORM's CARD OF 'laws.FnCentroid'. -/
def fnCentroidUptoCard : Claim7 := { stood := { row := fnCentroidUptoRow, standIns := [], harness := (true, "1da96676d948552a6dac09b0fb2074b8559b4570140e39e74649ba81623d2a49"), looks := true }, kinds := [], alts := [], laidByText := true, laidKinds := [.data], laidTests := true, laidLooks := .later }
def FnCentroidUptoCardSaid : Prop := Claim7.holds Tryd.pinned (.plain (OpenSpec.upto fnCentroidSpec)) fnCentroidUptoCard

/-- THE SECOND FORM's CARD OF 'laws.FnLength'. -/
def fnLengthUptoCard : Claim7 := { stood := { row := fnLengthUptoRow, standIns := [], harness := (true, "1da96676d948552a6dac09b0fb2074b8559b4570140e39e74649ba81623d2a49"), looks := true }, kinds := [], alts := [], laidByText := true, laidKinds := [.data], laidTests := true, laidLooks := .later }
def FnLengthUptoCardSaid : Prop := Claim7.holds Tryd.pinned (.plain (OpenSpec.upto fnLengthSpec)) fnLengthUptoCard

/-- THE SECOND FORM's CARD OF 'laws.FnNearest'. -/
def fnNearestUptoCard : Claim7 := { stood := { row := fnNearestUptoRow, standIns := [], harness := (true, "1da96676d948552a6dac09b0fb2074b8559b4570140e39e74649ba81623d2a49"), looks := true }, kinds := [], alts := [], laidByText := true, laidKinds := [.data], laidTests := true, laidLooks := .later }
def FnNearestUptoCardSaid : Prop := Claim7.holds Tryd.pinned (.plain (OpenSpec.upto fnNearestSpec)) fnNearestUptoCard
end Rows
end Go.Proofs.YtcljppkejabibaaDoor
