/-
  DERIVED. GIVEN WITH THE SEED: THE CARDS: each row of YtnmokjgiilfdlaaGreatDoorRows.lean that lists a variable, with what it lists TIED to the program's text (the seventh form; the later family's looks); each row that meets fmt, with fmt's text TOLD by the authors' own Lean function (tested against real Go, not proved from fmt's source: count such statements apart). THE CARD IS WHAT COUNTS. Prove the row's statement (the work); the ties are given (YtnmokjgiilfdlaaGreatDoorTie.lean); close each card by the builder's one call (the guide's Derived/Test/ToyasCard.lean, 'card_holds'). Laid BY PROGRAM, IN A SANDBOX (cutbox-door.mjs). By AI agents, Wed Nov 11 2026. No macro, syntax, notation, axiom, sorry.
-/
import Derived.Test.YtnmokjgiilfdlaaGreatDoorRows
import GoSem.ClaimSeven
namespace Go.Proofs.YtnmokjgiilfdlaaGreatDoor
namespace Rows

/-- THE TIED CARD OF 'laws.FnDecode'. -/
def fnDecodeCard : Claim7 := { stood := { row := fnDecodeRow, standIns := [], harness := (true, "9531ae56d1d75565cc8b774e6b4d63bc293cfd89e184445e428845d1876b804d"), looks := true }, kinds := [], alts := [], laidByText := true, laidKinds := [.sentinel, .sentinel, .sentinel, .sentinel, .sentinel, .sentinel, .sentinel, .sentinel, .sentinel, .sentinel, .sentinel, .sentinel], laidTests := true, laidLooks := .later }
def FnDecodeCardSaid : Prop := Claim7.holds Tryz.pinned (.plain (OpenSpec.ofChange fnDecodeSpec)) fnDecodeCard

/-- THE TIED CARD OF 'laws.FnDecodeCut'. -/
def fnDecodeCutCard : Claim7 := { stood := { row := fnDecodeCutRow, standIns := [], harness := (true, "9531ae56d1d75565cc8b774e6b4d63bc293cfd89e184445e428845d1876b804d"), looks := true }, kinds := [], alts := [], laidByText := true, laidKinds := [.sentinel, .sentinel, .sentinel, .sentinel, .sentinel, .sentinel, .sentinel, .sentinel, .sentinel, .sentinel, .sentinel, .sentinel], laidTests := true, laidLooks := .later }
def FnDecodeCutCardSaid : Prop := Claim7.holds Tryz.pinned (.plain (OpenSpec.ofChange fnDecodeCutSpec)) fnDecodeCutCard

/-- THE TIED CARD OF 'laws.FnDecodeKind'. -/
def fnDecodeKindCard : Claim7 := { stood := { row := fnDecodeKindRow, standIns := [], harness := (true, "9531ae56d1d75565cc8b774e6b4d63bc293cfd89e184445e428845d1876b804d"), looks := true }, kinds := [], alts := [], laidByText := true, laidKinds := [.sentinel, .sentinel, .sentinel, .sentinel, .sentinel, .sentinel, .sentinel, .sentinel, .sentinel, .sentinel, .sentinel, .sentinel], laidTests := true, laidLooks := .later }
def FnDecodeKindCardSaid : Prop := Claim7.holds Tryz.pinned (.plain (OpenSpec.ofChange fnDecodeKindSpec)) fnDecodeKindCard

/-- THE TIED CARD OF 'laws.FnDecodeOrder'. -/
def fnDecodeOrderCard : Claim7 := { stood := { row := fnDecodeOrderRow, standIns := [], harness := (true, "9531ae56d1d75565cc8b774e6b4d63bc293cfd89e184445e428845d1876b804d"), looks := true }, kinds := [], alts := [], laidByText := true, laidKinds := [.sentinel, .sentinel, .sentinel, .sentinel, .sentinel, .sentinel, .sentinel, .sentinel, .sentinel, .sentinel, .sentinel, .sentinel], laidTests := true, laidLooks := .later }
def FnDecodeOrderCardSaid : Prop := Claim7.holds Tryz.pinned (.plain (OpenSpec.ofChange fnDecodeOrderSpec)) fnDecodeOrderCard

/-- THE TIED CARD OF 'laws.FnDecodeTurns'. -/
def fnDecodeTurnsCard : Claim7 := { stood := { row := fnDecodeTurnsRow, standIns := [], harness := (true, "9531ae56d1d75565cc8b774e6b4d63bc293cfd89e184445e428845d1876b804d"), looks := true }, kinds := [], alts := [], laidByText := true, laidKinds := [.sentinel, .sentinel, .sentinel, .sentinel, .sentinel, .sentinel, .sentinel, .sentinel, .sentinel, .sentinel, .sentinel, .sentinel], laidTests := true, laidLooks := .later }
def FnDecodeTurnsCardSaid : Prop := Claim7.holds Tryz.pinned (.plain (OpenSpec.ofChange fnDecodeTurnsSpec)) fnDecodeTurnsCard

/-- THE TIED CARD OF 'laws.FnEncode'. -/
def fnEncodeCard : Claim7 := { stood := { row := fnEncodeRow, standIns := [], harness := (true, "9531ae56d1d75565cc8b774e6b4d63bc293cfd89e184445e428845d1876b804d"), looks := true }, kinds := [], alts := [], laidByText := true, laidKinds := [.sentinel, .sentinel, .sentinel, .sentinel, .sentinel, .sentinel, .sentinel, .sentinel, .sentinel, .sentinel, .sentinel, .sentinel], laidTests := true, laidLooks := .later }
def FnEncodeCardSaid : Prop := Claim7.holds Tryz.pinned (.plain (OpenSpec.ofChange fnEncodeSpec)) fnEncodeCard

/-- THE TIED CARD OF 'laws.FnThereAndBack'. -/
def fnThereAndBackCard : Claim7 := { stood := { row := fnThereAndBackRow, standIns := [], harness := (true, "9531ae56d1d75565cc8b774e6b4d63bc293cfd89e184445e428845d1876b804d"), looks := true }, kinds := [], alts := [], laidByText := true, laidKinds := [.sentinel, .sentinel, .sentinel, .sentinel, .sentinel, .sentinel, .sentinel, .sentinel, .sentinel, .sentinel, .sentinel, .sentinel], laidTests := true, laidLooks := .later }
def FnThereAndBackCardSaid : Prop := Claim7.holds Tryz.pinned (.plain (OpenSpec.ofChange fnThereAndBackSpec)) fnThereAndBackCard

/-- THE TIED CARD OF 'laws.FnDecodeWith'. -/
def fnDecodeWithCard : Claim7 := { stood := { row := fnDecodeWithRow, standIns := [], harness := (true, "9531ae56d1d75565cc8b774e6b4d63bc293cfd89e184445e428845d1876b804d"), looks := true }, kinds := [], alts := [], laidByText := true, laidKinds := [.sentinel, .sentinel, .sentinel, .sentinel, .sentinel, .sentinel, .sentinel, .sentinel, .sentinel, .sentinel, .sentinel, .sentinel, .sentinel, .sentinel, .sentinel, .sentinel], laidTests := true, laidLooks := .later }
def FnDecodeWithCardSaid : Prop := Claim7.holds Tryz.pinned (.plain (OpenSpec.ofChange fnDecodeWithSpec)) fnDecodeWithCard

/-- THE TIED CARD OF 'laws.FnEncodeHex'. -/
def fnEncodeHexCard : Claim7 := { stood := { row := fnEncodeHexRow, standIns := [], harness := (true, "9531ae56d1d75565cc8b774e6b4d63bc293cfd89e184445e428845d1876b804d"), looks := true }, kinds := [], alts := [], laidByText := true, laidKinds := [.sentinel, .sentinel, .sentinel, .sentinel, .sentinel, .sentinel, .sentinel, .sentinel, .sentinel, .sentinel, .sentinel, .sentinel], laidTests := true, laidLooks := .later }
def FnEncodeHexCardSaid : Prop := Claim7.holds Tryz.pinned (.plain (OpenSpec.ofChange fnEncodeHexSpec)) fnEncodeHexCard

/-- THE TIED CARD OF 'laws.FnStream'. -/
def fnStreamCard : Claim7 := { stood := { row := fnStreamRow, standIns := [], harness := (true, "9531ae56d1d75565cc8b774e6b4d63bc293cfd89e184445e428845d1876b804d"), looks := true }, kinds := [], alts := [], laidByText := true, laidKinds := [.sentinel, .sentinel, .sentinel, .sentinel, .sentinel, .sentinel, .sentinel, .sentinel, .sentinel, .sentinel, .sentinel, .sentinel], laidTests := true, laidLooks := .later }
def FnStreamCardSaid : Prop := Claim7.holds Tryz.pinned (.plain (OpenSpec.ofChange fnStreamSpec)) fnStreamCard

/-- THE TIED CARD OF 'laws.FnEncodeWith'. -/
def fnEncodeWithCard : Claim7 := { stood := { row := fnEncodeWithRow, standIns := [], harness := (true, "9531ae56d1d75565cc8b774e6b4d63bc293cfd89e184445e428845d1876b804d"), looks := true }, kinds := [], alts := [], laidByText := true, laidKinds := [.sentinel, .sentinel, .sentinel, .sentinel, .sentinel, .sentinel, .sentinel, .sentinel, .sentinel, .sentinel, .sentinel, .sentinel], laidTests := true, laidLooks := .later }
def FnEncodeWithCardSaid : Prop := Claim7.holds Tryz.pinned (.plain (OpenSpec.ofChange fnEncodeWithSpec)) fnEncodeWithCard

/-- THE SECOND FORM's CARD OF 'laws.FnDecode'. -/
def fnDecodeUptoCard : Claim7 := { stood := { row := fnDecodeUptoRow, standIns := [], harness := (true, "9531ae56d1d75565cc8b774e6b4d63bc293cfd89e184445e428845d1876b804d"), looks := true }, kinds := [], alts := [], laidByText := true, laidKinds := [.sentinel, .sentinel, .sentinel, .sentinel, .sentinel, .sentinel, .sentinel, .sentinel, .sentinel, .sentinel, .sentinel, .sentinel], laidTests := true, laidLooks := .later }
def FnDecodeUptoCardSaid : Prop := Claim7.holds Tryz.pinned (.plain (OpenSpec.upto fnDecodeSpec)) fnDecodeUptoCard

/-- THE SECOND FORM's CARD OF 'laws.FnDecodeCut'. -/
def fnDecodeCutUptoCard : Claim7 := { stood := { row := fnDecodeCutUptoRow, standIns := [], harness := (true, "9531ae56d1d75565cc8b774e6b4d63bc293cfd89e184445e428845d1876b804d"), looks := true }, kinds := [], alts := [], laidByText := true, laidKinds := [.sentinel, .sentinel, .sentinel, .sentinel, .sentinel, .sentinel, .sentinel, .sentinel, .sentinel, .sentinel, .sentinel, .sentinel], laidTests := true, laidLooks := .later }
def FnDecodeCutUptoCardSaid : Prop := Claim7.holds Tryz.pinned (.plain (OpenSpec.upto fnDecodeCutSpec)) fnDecodeCutUptoCard

/-- THE SECOND FORM's CARD OF 'laws.FnDecodeKind'. -/
def fnDecodeKindUptoCard : Claim7 := { stood := { row := fnDecodeKindUptoRow, standIns := [], harness := (true, "9531ae56d1d75565cc8b774e6b4d63bc293cfd89e184445e428845d1876b804d"), looks := true }, kinds := [], alts := [], laidByText := true, laidKinds := [.sentinel, .sentinel, .sentinel, .sentinel, .sentinel, .sentinel, .sentinel, .sentinel, .sentinel, .sentinel, .sentinel, .sentinel], laidTests := true, laidLooks := .later }
def FnDecodeKindUptoCardSaid : Prop := Claim7.holds Tryz.pinned (.plain (OpenSpec.upto fnDecodeKindSpec)) fnDecodeKindUptoCard

/-- THE SECOND FORM's CARD OF 'laws.FnDecodeOrder'. -/
def fnDecodeOrderUptoCard : Claim7 := { stood := { row := fnDecodeOrderUptoRow, standIns := [], harness := (true, "9531ae56d1d75565cc8b774e6b4d63bc293cfd89e184445e428845d1876b804d"), looks := true }, kinds := [], alts := [], laidByText := true, laidKinds := [.sentinel, .sentinel, .sentinel, .sentinel, .sentinel, .sentinel, .sentinel, .sentinel, .sentinel, .sentinel, .sentinel, .sentinel], laidTests := true, laidLooks := .later }
def FnDecodeOrderUptoCardSaid : Prop := Claim7.holds Tryz.pinned (.plain (OpenSpec.upto fnDecodeOrderSpec)) fnDecodeOrderUptoCard

/-- THE SECOND FORM's CARD OF 'laws.FnDecodeTurns'. -/
def fnDecodeTurnsUptoCard : Claim7 := { stood := { row := fnDecodeTurnsUptoRow, standIns := [], harness := (true, "9531ae56d1d75565cc8b774e6b4d63bc293cfd89e184445e428845d1876b804d"), looks := true }, kinds := [], alts := [], laidByText := true, laidKinds := [.sentinel, .sentinel, .sentinel, .sentinel, .sentinel, .sentinel, .sentinel, .sentinel, .sentinel, .sentinel, .sentinel, .sentinel], laidTests := true, laidLooks := .later }
def FnDecodeTurnsUptoCardSaid : Prop := Claim7.holds Tryz.pinned (.plain (OpenSpec.upto fnDecodeTurnsSpec)) fnDecodeTurnsUptoCard

/-- THE SECOND FORM's CARD OF 'laws.FnEncode'. -/
def fnEncodeUptoCard : Claim7 := { stood := { row := fnEncodeUptoRow, standIns := [], harness := (true, "9531ae56d1d75565cc8b774e6b4d63bc293cfd89e184445e428845d1876b804d"), looks := true }, kinds := [], alts := [], laidByText := true, laidKinds := [.sentinel, .sentinel, .sentinel, .sentinel, .sentinel, .sentinel, .sentinel, .sentinel, .sentinel, .sentinel, .sentinel, .sentinel], laidTests := true, laidLooks := .later }
def FnEncodeUptoCardSaid : Prop := Claim7.holds Tryz.pinned (.plain (OpenSpec.upto fnEncodeSpec)) fnEncodeUptoCard

/-- THE SECOND FORM's CARD OF 'laws.FnThereAndBack'. -/
def fnThereAndBackUptoCard : Claim7 := { stood := { row := fnThereAndBackUptoRow, standIns := [], harness := (true, "9531ae56d1d75565cc8b774e6b4d63bc293cfd89e184445e428845d1876b804d"), looks := true }, kinds := [], alts := [], laidByText := true, laidKinds := [.sentinel, .sentinel, .sentinel, .sentinel, .sentinel, .sentinel, .sentinel, .sentinel, .sentinel, .sentinel, .sentinel, .sentinel], laidTests := true, laidLooks := .later }
def FnThereAndBackUptoCardSaid : Prop := Claim7.holds Tryz.pinned (.plain (OpenSpec.upto fnThereAndBackSpec)) fnThereAndBackUptoCard

/-- THE SECOND FORM's CARD OF 'laws.FnDecodeWith'. -/
def fnDecodeWithUptoCard : Claim7 := { stood := { row := fnDecodeWithUptoRow, standIns := [], harness := (true, "9531ae56d1d75565cc8b774e6b4d63bc293cfd89e184445e428845d1876b804d"), looks := true }, kinds := [], alts := [], laidByText := true, laidKinds := [.sentinel, .sentinel, .sentinel, .sentinel, .sentinel, .sentinel, .sentinel, .sentinel, .sentinel, .sentinel, .sentinel, .sentinel, .sentinel, .sentinel, .sentinel, .sentinel], laidTests := true, laidLooks := .later }
def FnDecodeWithUptoCardSaid : Prop := Claim7.holds Tryz.pinned (.plain (OpenSpec.upto fnDecodeWithSpec)) fnDecodeWithUptoCard

/-- THE SECOND FORM's CARD OF 'laws.FnEncodeHex'. -/
def fnEncodeHexUptoCard : Claim7 := { stood := { row := fnEncodeHexUptoRow, standIns := [], harness := (true, "9531ae56d1d75565cc8b774e6b4d63bc293cfd89e184445e428845d1876b804d"), looks := true }, kinds := [], alts := [], laidByText := true, laidKinds := [.sentinel, .sentinel, .sentinel, .sentinel, .sentinel, .sentinel, .sentinel, .sentinel, .sentinel, .sentinel, .sentinel, .sentinel], laidTests := true, laidLooks := .later }
def FnEncodeHexUptoCardSaid : Prop := Claim7.holds Tryz.pinned (.plain (OpenSpec.upto fnEncodeHexSpec)) fnEncodeHexUptoCard

/-- THE SECOND FORM's CARD OF 'laws.FnStream'. -/
def fnStreamUptoCard : Claim7 := { stood := { row := fnStreamUptoRow, standIns := [], harness := (true, "9531ae56d1d75565cc8b774e6b4d63bc293cfd89e184445e428845d1876b804d"), looks := true }, kinds := [], alts := [], laidByText := true, laidKinds := [.sentinel, .sentinel, .sentinel, .sentinel, .sentinel, .sentinel, .sentinel, .sentinel, .sentinel, .sentinel, .sentinel, .sentinel], laidTests := true, laidLooks := .later }
def FnStreamUptoCardSaid : Prop := Claim7.holds Tryz.pinned (.plain (OpenSpec.upto fnStreamSpec)) fnStreamUptoCard

/-- THE SECOND FORM's CARD OF 'laws.FnEncodeWith'. -/
def fnEncodeWithUptoCard : Claim7 := { stood := { row := fnEncodeWithUptoRow, standIns := [], harness := (true, "9531ae56d1d75565cc8b774e6b4d63bc293cfd89e184445e428845d1876b804d"), looks := true }, kinds := [], alts := [], laidByText := true, laidKinds := [.sentinel, .sentinel, .sentinel, .sentinel, .sentinel, .sentinel, .sentinel, .sentinel, .sentinel, .sentinel, .sentinel, .sentinel], laidTests := true, laidLooks := .later }
def FnEncodeWithUptoCardSaid : Prop := Claim7.holds Tryz.pinned (.plain (OpenSpec.upto fnEncodeWithSpec)) fnEncodeWithUptoCard
end Rows
end Go.Proofs.YtnmokjgiilfdlaaGreatDoor
