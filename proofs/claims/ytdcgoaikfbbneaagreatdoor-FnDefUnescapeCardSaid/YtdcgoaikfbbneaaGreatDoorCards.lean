/-
  DERIVED. GIVEN WITH THE SEED: THE CARDS: each row of YtdcgoaikfbbneaaGreatDoorRows.lean that lists a variable, with what it lists TIED to the program's text (the seventh form; the later family's looks); each row that meets fmt, with fmt's text TOLD by the authors' own Lean function (tested against real Go, not proved from fmt's source: count such statements apart). THE CARD IS WHAT COUNTS. Prove the row's statement (the work); the ties are given (YtdcgoaikfbbneaaGreatDoorTie.lean); close each card by the builder's one call (the guide's Derived/Test/ToyasCard.lean, 'card_holds'). Laid BY PROGRAM, IN A SANDBOX (cutbox-door.mjs). By AI agents, Wed Nov 11 2026. No macro, syntax, notation, axiom, sorry.
-/
import Derived.Test.YtdcgoaikfbbneaaGreatDoorRows
import GoSem.ClaimSeven
namespace Go.Proofs.YtdcgoaikfbbneaaGreatDoor
namespace Rows

/-- THE TIED CARD OF 'laws.FnDefInts'. -/
def fnDefIntsCard : Claim7 := { stood := { row := fnDefIntsRow, standIns := [], harness := (true, "79efe753ccdd4caf5b879c69d20dce273c1646e27a6b7857092211239428e12a"), looks := true }, kinds := [], alts := [], laidByText := true, laidKinds := [.data, .data, .widerDeep, .widerDeep, .data, .data, .data, .data, .data, .data, .sentinel, .sentinel, .sentinel, .pinned, .pinned, .pinned], laidTests := true, laidLooks := .later }
def FnDefIntsCardSaid : Prop := Claim7.holds Tryz.pinned (.plain (OpenSpec.ofChange fnDefIntsSpec)) fnDefIntsCard

/-- THE TIED CARD OF 'laws.FnDefUnescape'. -/
def fnDefUnescapeCard : Claim7 := { stood := { row := fnDefUnescapeRow, standIns := [], harness := (true, "79efe753ccdd4caf5b879c69d20dce273c1646e27a6b7857092211239428e12a"), looks := true }, kinds := [], alts := [], laidByText := true, laidKinds := [.data, .data, .widerDeep, .widerDeep, .data, .data, .data, .data, .data, .data, .sentinel, .sentinel, .sentinel, .pinned, .pinned, .pinned], laidTests := true, laidLooks := .later }
def FnDefUnescapeCardSaid : Prop := Claim7.holds Tryz.pinned (.plain (OpenSpec.ofChange fnDefUnescapeSpec)) fnDefUnescapeCard

/-- THE SECOND FORM's CARD OF 'laws.FnDefInts'. -/
def fnDefIntsUptoCard : Claim7 := { stood := { row := fnDefIntsUptoRow, standIns := [], harness := (true, "79efe753ccdd4caf5b879c69d20dce273c1646e27a6b7857092211239428e12a"), looks := true }, kinds := [], alts := [], laidByText := true, laidKinds := [.data, .data, .widerDeep, .widerDeep, .data, .data, .data, .data, .data, .data, .sentinel, .sentinel, .sentinel, .pinned, .pinned, .pinned], laidTests := true, laidLooks := .later }
def FnDefIntsUptoCardSaid : Prop := Claim7.holds Tryz.pinned (.plain (OpenSpec.upto fnDefIntsSpec)) fnDefIntsUptoCard

/-- THE SECOND FORM's CARD OF 'laws.FnDefUnescape'. -/
def fnDefUnescapeUptoCard : Claim7 := { stood := { row := fnDefUnescapeUptoRow, standIns := [], harness := (true, "79efe753ccdd4caf5b879c69d20dce273c1646e27a6b7857092211239428e12a"), looks := true }, kinds := [], alts := [], laidByText := true, laidKinds := [.data, .data, .widerDeep, .widerDeep, .data, .data, .data, .data, .data, .data, .sentinel, .sentinel, .sentinel, .pinned, .pinned, .pinned], laidTests := true, laidLooks := .later }
def FnDefUnescapeUptoCardSaid : Prop := Claim7.holds Tryz.pinned (.plain (OpenSpec.upto fnDefUnescapeSpec)) fnDefUnescapeUptoCard
end Rows
end Go.Proofs.YtdcgoaikfbbneaaGreatDoor
