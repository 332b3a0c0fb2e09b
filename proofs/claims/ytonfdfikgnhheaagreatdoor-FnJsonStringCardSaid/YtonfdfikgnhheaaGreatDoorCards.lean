/-
  DERIVED. GIVEN WITH THE SEED: THE CARDS: each row of YtonfdfikgnhheaaGreatDoorRows.lean that lists a variable, with what it lists TIED to the program's text (the seventh form; the later family's looks); each row that meets fmt, with fmt's text TOLD by the authors' own Lean function (tested against real Go, not proved from fmt's source: count such statements apart). THE CARD IS WHAT COUNTS. Prove the row's statement (the work); the ties are given (YtonfdfikgnhheaaGreatDoorTie.lean); close each card by the builder's one call (the guide's Derived/Test/ToyasCard.lean, 'card_holds'). Laid BY PROGRAM, IN A SANDBOX (cutbox-door.mjs). By AI agents, Wed Nov 11 2026. No macro, syntax, notation, axiom, sorry.
-/
import Derived.Test.YtonfdfikgnhheaaGreatDoorRows
import GoSem.ClaimSeven
namespace Go.Proofs.YtonfdfikgnhheaaGreatDoor
namespace Rows

/-- THE TIED CARD OF 'laws.FnJsonCut'. -/
def fnJsonCutCard : Claim7 := { stood := { row := fnJsonCutRow, standIns := [], harness := (true, "69a26630e7ed8394af9c8cfd646b9d75e567e2e99109119a1d1ee95264344980"), looks := true }, kinds := [], alts := [], laidByText := true, laidKinds := [.data, .data, .data, .data, .data, .sentinel, .sentinel, .sentinel, .sentinel, .pinned, .pinned, .pinned], laidTests := true, laidLooks := .later }
def FnJsonCutCardSaid : Prop := Claim7.holds Tryz.pinned (.plain (OpenSpec.ofChange fnJsonCutSpec)) fnJsonCutCard

/-- THE TIED CARD OF 'laws.FnJsonSpaces'. -/
def fnJsonSpacesCard : Claim7 := { stood := { row := fnJsonSpacesRow, standIns := [], harness := (true, "69a26630e7ed8394af9c8cfd646b9d75e567e2e99109119a1d1ee95264344980"), looks := true }, kinds := [], alts := [], laidByText := true, laidKinds := [.data, .data, .data, .data, .data, .sentinel, .sentinel, .sentinel, .sentinel, .pinned, .pinned, .pinned], laidTests := true, laidLooks := .later }
def FnJsonSpacesCardSaid : Prop := Claim7.holds Tryz.pinned (.plain (OpenSpec.ofChange fnJsonSpacesSpec)) fnJsonSpacesCard

/-- THE TIED CARD OF 'laws.FnJsonString'. -/
def fnJsonStringCard : Claim7 := { stood := { row := fnJsonStringRow, standIns := [], harness := (true, "69a26630e7ed8394af9c8cfd646b9d75e567e2e99109119a1d1ee95264344980"), looks := true }, kinds := [], alts := [], laidByText := true, laidKinds := [.data, .data, .data, .data, .data, .sentinel, .sentinel, .sentinel, .sentinel, .pinned, .pinned, .pinned], laidTests := true, laidLooks := .later }
def FnJsonStringCardSaid : Prop := Claim7.holds Tryz.pinned (.plain (OpenSpec.ofChange fnJsonStringSpec)) fnJsonStringCard

/-- THE TIED CARD OF 'laws.FnJsonTwo'. -/
def fnJsonTwoCard : Claim7 := { stood := { row := fnJsonTwoRow, standIns := [], harness := (true, "69a26630e7ed8394af9c8cfd646b9d75e567e2e99109119a1d1ee95264344980"), looks := true }, kinds := [], alts := [], laidByText := true, laidKinds := [.data, .data, .data, .data, .data, .sentinel, .sentinel, .sentinel, .sentinel, .pinned, .pinned, .pinned], laidTests := true, laidLooks := .later }
def FnJsonTwoCardSaid : Prop := Claim7.holds Tryz.pinned (.plain (OpenSpec.ofChange fnJsonTwoSpec)) fnJsonTwoCard

/-- THE TIED CARD OF 'laws.FnJsonWays'. -/
def fnJsonWaysCard : Claim7 := { stood := { row := fnJsonWaysRow, standIns := [], harness := (true, "69a26630e7ed8394af9c8cfd646b9d75e567e2e99109119a1d1ee95264344980"), looks := true }, kinds := [], alts := [], laidByText := true, laidKinds := [.data, .data, .data, .data, .data, .sentinel, .sentinel, .sentinel, .sentinel, .pinned, .pinned, .pinned], laidTests := true, laidLooks := .later }
def FnJsonWaysCardSaid : Prop := Claim7.holds Tryz.pinned (.plain (OpenSpec.ofChange fnJsonWaysSpec)) fnJsonWaysCard

/-- THE TIED CARD OF 'laws.FnJsonInts'. -/
def fnJsonIntsCard : Claim7 := { stood := { row := fnJsonIntsRow, standIns := [], harness := (true, "69a26630e7ed8394af9c8cfd646b9d75e567e2e99109119a1d1ee95264344980"), looks := true }, kinds := [], alts := [], laidByText := true, laidKinds := [.data, .data, .widerDeep, .widerDeep, .data, .data, .data, .data, .data, .data, .sentinel, .sentinel, .sentinel, .pinned, .pinned, .pinned], laidTests := true, laidLooks := .later }
def FnJsonIntsCardSaid : Prop := Claim7.holds Tryz.pinned (.plain (OpenSpec.ofChange fnJsonIntsSpec)) fnJsonIntsCard

/-- THE TIED CARD OF 'laws.FnDefEnums'. -/
def fnDefEnumsCard : Claim7 := { stood := { row := fnDefEnumsRow, standIns := [], harness := (true, "69a26630e7ed8394af9c8cfd646b9d75e567e2e99109119a1d1ee95264344980"), looks := true }, kinds := [], alts := [], laidByText := true, laidKinds := [.data, .data, .widerDeep, .widerDeep, .data, .data, .data, .data, .data, .data, .sentinel, .sentinel, .sentinel, .pinned, .pinned, .pinned], laidTests := true, laidLooks := .later }
def FnDefEnumsCardSaid : Prop := Claim7.holds Tryz.pinned (.plain (OpenSpec.ofChange fnDefEnumsSpec)) fnDefEnumsCard

/-- THE SECOND FORM's CARD OF 'laws.FnJsonCut'. -/
def fnJsonCutUptoCard : Claim7 := { stood := { row := fnJsonCutUptoRow, standIns := [], harness := (true, "69a26630e7ed8394af9c8cfd646b9d75e567e2e99109119a1d1ee95264344980"), looks := true }, kinds := [], alts := [], laidByText := true, laidKinds := [.data, .data, .data, .data, .data, .sentinel, .sentinel, .sentinel, .sentinel, .pinned, .pinned, .pinned], laidTests := true, laidLooks := .later }
def FnJsonCutUptoCardSaid : Prop := Claim7.holds Tryz.pinned (.plain (OpenSpec.upto fnJsonCutSpec)) fnJsonCutUptoCard

/-- THE SECOND FORM's CARD OF 'laws.FnJsonSpaces'. -/
def fnJsonSpacesUptoCard : Claim7 := { stood := { row := fnJsonSpacesUptoRow, standIns := [], harness := (true, "69a26630e7ed8394af9c8cfd646b9d75e567e2e99109119a1d1ee95264344980"), looks := true }, kinds := [], alts := [], laidByText := true, laidKinds := [.data, .data, .data, .data, .data, .sentinel, .sentinel, .sentinel, .sentinel, .pinned, .pinned, .pinned], laidTests := true, laidLooks := .later }
def FnJsonSpacesUptoCardSaid : Prop := Claim7.holds Tryz.pinned (.plain (OpenSpec.upto fnJsonSpacesSpec)) fnJsonSpacesUptoCard

/-- THE SECOND FORM's CARD OF 'laws.FnJsonString'. -/
def fnJsonStringUptoCard : Claim7 := { stood := { row := fnJsonStringUptoRow, standIns := [], harness := (true, "69a26630e7ed8394af9c8cfd646b9d75e567e2e99109119a1d1ee95264344980"), looks := true }, kinds := [], alts := [], laidByText := true, laidKinds := [.data, .data, .data, .data, .data, .sentinel, .sentinel, .sentinel, .sentinel, .pinned, .pinned, .pinned], laidTests := true, laidLooks := .later }
def FnJsonStringUptoCardSaid : Prop := Claim7.holds Tryz.pinned (.plain (OpenSpec.upto fnJsonStringSpec)) fnJsonStringUptoCard

/-- THE SECOND FORM's CARD OF 'laws.FnJsonTwo'. -/
def fnJsonTwoUptoCard : Claim7 := { stood := { row := fnJsonTwoUptoRow, standIns := [], harness := (true, "69a26630e7ed8394af9c8cfd646b9d75e567e2e99109119a1d1ee95264344980"), looks := true }, kinds := [], alts := [], laidByText := true, laidKinds := [.data, .data, .data, .data, .data, .sentinel, .sentinel, .sentinel, .sentinel, .pinned, .pinned, .pinned], laidTests := true, laidLooks := .later }
def FnJsonTwoUptoCardSaid : Prop := Claim7.holds Tryz.pinned (.plain (OpenSpec.upto fnJsonTwoSpec)) fnJsonTwoUptoCard

/-- THE SECOND FORM's CARD OF 'laws.FnJsonWays'. -/
def fnJsonWaysUptoCard : Claim7 := { stood := { row := fnJsonWaysUptoRow, standIns := [], harness := (true, "69a26630e7ed8394af9c8cfd646b9d75e567e2e99109119a1d1ee95264344980"), looks := true }, kinds := [], alts := [], laidByText := true, laidKinds := [.data, .data, .data, .data, .data, .sentinel, .sentinel, .sentinel, .sentinel, .pinned, .pinned, .pinned], laidTests := true, laidLooks := .later }
def FnJsonWaysUptoCardSaid : Prop := Claim7.holds Tryz.pinned (.plain (OpenSpec.upto fnJsonWaysSpec)) fnJsonWaysUptoCard

/-- THE SECOND FORM's CARD OF 'laws.FnJsonInts'. -/
def fnJsonIntsUptoCard : Claim7 := { stood := { row := fnJsonIntsUptoRow, standIns := [], harness := (true, "69a26630e7ed8394af9c8cfd646b9d75e567e2e99109119a1d1ee95264344980"), looks := true }, kinds := [], alts := [], laidByText := true, laidKinds := [.data, .data, .widerDeep, .widerDeep, .data, .data, .data, .data, .data, .data, .sentinel, .sentinel, .sentinel, .pinned, .pinned, .pinned], laidTests := true, laidLooks := .later }
def FnJsonIntsUptoCardSaid : Prop := Claim7.holds Tryz.pinned (.plain (OpenSpec.upto fnJsonIntsSpec)) fnJsonIntsUptoCard

/-- THE SECOND FORM's CARD OF 'laws.FnDefEnums'. -/
def fnDefEnumsUptoCard : Claim7 := { stood := { row := fnDefEnumsUptoRow, standIns := [], harness := (true, "69a26630e7ed8394af9c8cfd646b9d75e567e2e99109119a1d1ee95264344980"), looks := true }, kinds := [], alts := [], laidByText := true, laidKinds := [.data, .data, .widerDeep, .widerDeep, .data, .data, .data, .data, .data, .data, .sentinel, .sentinel, .sentinel, .pinned, .pinned, .pinned], laidTests := true, laidLooks := .later }
def FnDefEnumsUptoCardSaid : Prop := Claim7.holds Tryz.pinned (.plain (OpenSpec.upto fnDefEnumsSpec)) fnDefEnumsUptoCard
end Rows
end Go.Proofs.YtonfdfikgnhheaaGreatDoor
