/-
  DERIVED. GIVEN WITH THE SEED: THE CARDS: each row of YtpneioocmpagmaaGreatDoorRows.lean that lists a variable, with what it lists TIED to the program's text (the seventh form; the later family's looks); each row that meets fmt, with fmt's text TOLD by the authors' own Lean function (tested against real Go, not proved from fmt's source: count such statements apart). THE CARD IS WHAT COUNTS. Prove the row's statement (the work); the ties are given (YtpneioocmpagmaaGreatDoorTie.lean); close each card by the builder's one call (the guide's Derived/Test/ToyasCard.lean, 'card_holds'). Laid BY PROGRAM, IN A SANDBOX (cutbox-door.mjs). By AI agents, Wed Nov 11 2026. No macro, syntax, notation, axiom, sorry.
-/
import Derived.Test.YtpneioocmpagmaaGreatDoorRows
import GoSem.ClaimSeven
namespace Go.Proofs.YtpneioocmpagmaaGreatDoor
namespace Rows

/-- THE TIED CARD OF 'laws.FnTextDelims'. -/
def fnTextDelimsCard : Claim7 := { stood := { row := fnTextDelimsRow, standIns := [], harness := (true, "941b040c91a7ddcad9f465ff8c0f049a5a28d61a6427f69f15a7a5c5117e1861"), looks := true }, kinds := [], alts := [], laidByText := true, laidKinds := [.data, .data, .data, .data, .data, .sentinel, .sentinel, .sentinel, .pinned, .pinned, .pinned], laidTests := true, laidLooks := .later }
def FnTextDelimsCardSaid : Prop := Claim7.holds Tryz.pinned (.plain (OpenSpec.ofChange fnTextDelimsSpec)) fnTextDelimsCard

/-- THE TIED CARD OF 'laws.FnTextWays'. -/
def fnTextWaysCard : Claim7 := { stood := { row := fnTextWaysRow, standIns := [], harness := (true, "941b040c91a7ddcad9f465ff8c0f049a5a28d61a6427f69f15a7a5c5117e1861"), looks := true }, kinds := [], alts := [], laidByText := true, laidKinds := [.data, .data, .data, .data, .data, .sentinel, .sentinel, .sentinel, .pinned, .pinned, .pinned], laidTests := true, laidLooks := .later }
def FnTextWaysCardSaid : Prop := Claim7.holds Tryz.pinned (.plain (OpenSpec.ofChange fnTextWaysSpec)) fnTextWaysCard

/-- THE TIED CARD OF 'laws.FnTextHex'. -/
def fnTextHexCard : Claim7 := { stood := { row := fnTextHexRow, standIns := [], harness := (true, "941b040c91a7ddcad9f465ff8c0f049a5a28d61a6427f69f15a7a5c5117e1861"), looks := true }, kinds := [], alts := [], laidByText := true, laidKinds := [.data, .data, .widerDeep, .widerDeep, .data, .data, .data, .data, .data, .data, .sentinel, .sentinel, .sentinel, .pinned, .pinned, .pinned, .pinned], laidTests := true, laidLooks := .later }
def FnTextHexCardSaid : Prop := Claim7.holds Tryz.pinned (.plain (OpenSpec.ofChange fnTextHexSpec)) fnTextHexCard

/-- THE TIED CARD OF 'laws.FnTextInts'. -/
def fnTextIntsCard : Claim7 := { stood := { row := fnTextIntsRow, standIns := [], harness := (true, "941b040c91a7ddcad9f465ff8c0f049a5a28d61a6427f69f15a7a5c5117e1861"), looks := true }, kinds := [], alts := [], laidByText := true, laidKinds := [.data, .data, .widerDeep, .widerDeep, .data, .data, .data, .data, .data, .data, .sentinel, .sentinel, .sentinel, .pinned, .pinned, .pinned, .pinned], laidTests := true, laidLooks := .later }
def FnTextIntsCardSaid : Prop := Claim7.holds Tryz.pinned (.plain (OpenSpec.ofChange fnTextIntsSpec)) fnTextIntsCard

/-- THE TIED CARD OF 'laws.FnTextUints'. -/
def fnTextUintsCard : Claim7 := { stood := { row := fnTextUintsRow, standIns := [], harness := (true, "941b040c91a7ddcad9f465ff8c0f049a5a28d61a6427f69f15a7a5c5117e1861"), looks := true }, kinds := [], alts := [], laidByText := true, laidKinds := [.data, .data, .widerDeep, .widerDeep, .data, .data, .data, .data, .data, .data, .sentinel, .sentinel, .sentinel, .pinned, .pinned, .pinned, .pinned], laidTests := true, laidLooks := .later }
def FnTextUintsCardSaid : Prop := Claim7.holds Tryz.pinned (.plain (OpenSpec.ofChange fnTextUintsSpec)) fnTextUintsCard

/-- THE TIED CARD OF 'laws.FnTextJoined'. -/
def fnTextJoinedCard : Claim7 := { stood := { row := fnTextJoinedRow, standIns := [], harness := (true, "941b040c91a7ddcad9f465ff8c0f049a5a28d61a6427f69f15a7a5c5117e1861"), looks := true }, kinds := [], alts := [], laidByText := true, laidKinds := [.data, .data, .widerDeep, .widerDeep, .data, .data, .data, .data, .data, .data, .sentinel, .sentinel, .sentinel, .pinned, .pinned, .pinned, .pinned], laidTests := true, laidLooks := .later }
def FnTextJoinedCardSaid : Prop := Claim7.holds Tryz.pinned (.plain (OpenSpec.ofChange fnTextJoinedSpec)) fnTextJoinedCard

/-- THE SECOND FORM's CARD OF 'laws.FnTextDelims'. -/
def fnTextDelimsUptoCard : Claim7 := { stood := { row := fnTextDelimsUptoRow, standIns := [], harness := (true, "941b040c91a7ddcad9f465ff8c0f049a5a28d61a6427f69f15a7a5c5117e1861"), looks := true }, kinds := [], alts := [], laidByText := true, laidKinds := [.data, .data, .data, .data, .data, .sentinel, .sentinel, .sentinel, .pinned, .pinned, .pinned], laidTests := true, laidLooks := .later }
def FnTextDelimsUptoCardSaid : Prop := Claim7.holds Tryz.pinned (.plain (OpenSpec.upto fnTextDelimsSpec)) fnTextDelimsUptoCard

/-- THE SECOND FORM's CARD OF 'laws.FnTextWays'. -/
def fnTextWaysUptoCard : Claim7 := { stood := { row := fnTextWaysUptoRow, standIns := [], harness := (true, "941b040c91a7ddcad9f465ff8c0f049a5a28d61a6427f69f15a7a5c5117e1861"), looks := true }, kinds := [], alts := [], laidByText := true, laidKinds := [.data, .data, .data, .data, .data, .sentinel, .sentinel, .sentinel, .pinned, .pinned, .pinned], laidTests := true, laidLooks := .later }
def FnTextWaysUptoCardSaid : Prop := Claim7.holds Tryz.pinned (.plain (OpenSpec.upto fnTextWaysSpec)) fnTextWaysUptoCard

/-- THE SECOND FORM's CARD OF 'laws.FnTextHex'. -/
def fnTextHexUptoCard : Claim7 := { stood := { row := fnTextHexUptoRow, standIns := [], harness := (true, "941b040c91a7ddcad9f465ff8c0f049a5a28d61a6427f69f15a7a5c5117e1861"), looks := true }, kinds := [], alts := [], laidByText := true, laidKinds := [.data, .data, .widerDeep, .widerDeep, .data, .data, .data, .data, .data, .data, .sentinel, .sentinel, .sentinel, .pinned, .pinned, .pinned, .pinned], laidTests := true, laidLooks := .later }
def FnTextHexUptoCardSaid : Prop := Claim7.holds Tryz.pinned (.plain (OpenSpec.upto fnTextHexSpec)) fnTextHexUptoCard

/-- THE SECOND FORM's CARD OF 'laws.FnTextInts'. -/
def fnTextIntsUptoCard : Claim7 := { stood := { row := fnTextIntsUptoRow, standIns := [], harness := (true, "941b040c91a7ddcad9f465ff8c0f049a5a28d61a6427f69f15a7a5c5117e1861"), looks := true }, kinds := [], alts := [], laidByText := true, laidKinds := [.data, .data, .widerDeep, .widerDeep, .data, .data, .data, .data, .data, .data, .sentinel, .sentinel, .sentinel, .pinned, .pinned, .pinned, .pinned], laidTests := true, laidLooks := .later }
def FnTextIntsUptoCardSaid : Prop := Claim7.holds Tryz.pinned (.plain (OpenSpec.upto fnTextIntsSpec)) fnTextIntsUptoCard

/-- THE SECOND FORM's CARD OF 'laws.FnTextUints'. -/
def fnTextUintsUptoCard : Claim7 := { stood := { row := fnTextUintsUptoRow, standIns := [], harness := (true, "941b040c91a7ddcad9f465ff8c0f049a5a28d61a6427f69f15a7a5c5117e1861"), looks := true }, kinds := [], alts := [], laidByText := true, laidKinds := [.data, .data, .widerDeep, .widerDeep, .data, .data, .data, .data, .data, .data, .sentinel, .sentinel, .sentinel, .pinned, .pinned, .pinned, .pinned], laidTests := true, laidLooks := .later }
def FnTextUintsUptoCardSaid : Prop := Claim7.holds Tryz.pinned (.plain (OpenSpec.upto fnTextUintsSpec)) fnTextUintsUptoCard

/-- THE SECOND FORM's CARD OF 'laws.FnTextJoined'. -/
def fnTextJoinedUptoCard : Claim7 := { stood := { row := fnTextJoinedUptoRow, standIns := [], harness := (true, "941b040c91a7ddcad9f465ff8c0f049a5a28d61a6427f69f15a7a5c5117e1861"), looks := true }, kinds := [], alts := [], laidByText := true, laidKinds := [.data, .data, .widerDeep, .widerDeep, .data, .data, .data, .data, .data, .data, .sentinel, .sentinel, .sentinel, .pinned, .pinned, .pinned, .pinned], laidTests := true, laidLooks := .later }
def FnTextJoinedUptoCardSaid : Prop := Claim7.holds Tryz.pinned (.plain (OpenSpec.upto fnTextJoinedSpec)) fnTextJoinedUptoCard
end Rows
end Go.Proofs.YtpneioocmpagmaaGreatDoor
