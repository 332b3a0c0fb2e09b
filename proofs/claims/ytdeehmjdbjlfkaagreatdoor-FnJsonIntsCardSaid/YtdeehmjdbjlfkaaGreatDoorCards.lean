/-
  DERIVED. GIVEN WITH THE SEED: THE CARDS: each row of YtdeehmjdbjlfkaaGreatDoorRows.lean that lists a variable, with what it lists TIED to the program's text (the seventh form; the later family's looks); each row that meets fmt, with fmt's text TOLD by the authors' own Lean function (tested against real Go, not proved from fmt's source: count such statements apart). THE CARD IS WHAT COUNTS. Prove the row's statement (the work); the ties are given (YtdeehmjdbjlfkaaGreatDoorTie.lean); close each card by the builder's one call (the guide's Derived/Test/ToyasCard.lean, 'card_holds'). Laid BY PROGRAM, IN A SANDBOX (cutbox-door.mjs). By AI agents, Wed Nov 11 2026. No macro, syntax, notation, axiom, sorry.
-/
import Derived.Test.YtdeehmjdbjlfkaaGreatDoorRows
import GoSem.ClaimSeven
namespace Go.Proofs.YtdeehmjdbjlfkaaGreatDoor
namespace Rows

/-- THE TIED CARD OF 'laws.FnJsonCut'. -/
def fnJsonCutCard : Claim7 := { stood := { row := fnJsonCutRow, standIns := [], harness := (true, "4391e99e81c43b82983265b770b4108edb71fd1fd7ace432147b2505471cfc6d"), looks := true }, kinds := [], alts := [], laidByText := true, laidKinds := [.data, .data, .data, .data, .data, .sentinel, .sentinel, .sentinel, .sentinel, .pinned, .pinned, .pinned], laidTests := true, laidLooks := .later }
def FnJsonCutCardSaid : Prop := Claim7.holds Tryz.pinned (.plain (OpenSpec.ofChange fnJsonCutSpec)) fnJsonCutCard

/-- THE TIED CARD OF 'laws.FnJsonSpaces'. -/
def fnJsonSpacesCard : Claim7 := { stood := { row := fnJsonSpacesRow, standIns := [], harness := (true, "4391e99e81c43b82983265b770b4108edb71fd1fd7ace432147b2505471cfc6d"), looks := true }, kinds := [], alts := [], laidByText := true, laidKinds := [.data, .data, .data, .data, .data, .sentinel, .sentinel, .sentinel, .sentinel, .pinned, .pinned, .pinned], laidTests := true, laidLooks := .later }
def FnJsonSpacesCardSaid : Prop := Claim7.holds Tryz.pinned (.plain (OpenSpec.ofChange fnJsonSpacesSpec)) fnJsonSpacesCard

/-- THE TIED CARD OF 'laws.FnJsonTwo'. -/
def fnJsonTwoCard : Claim7 := { stood := { row := fnJsonTwoRow, standIns := [], harness := (true, "4391e99e81c43b82983265b770b4108edb71fd1fd7ace432147b2505471cfc6d"), looks := true }, kinds := [], alts := [], laidByText := true, laidKinds := [.data, .data, .data, .data, .data, .sentinel, .sentinel, .sentinel, .sentinel, .pinned, .pinned, .pinned], laidTests := true, laidLooks := .later }
def FnJsonTwoCardSaid : Prop := Claim7.holds Tryz.pinned (.plain (OpenSpec.ofChange fnJsonTwoSpec)) fnJsonTwoCard

/-- THE TIED CARD OF 'laws.FnJsonWays'. -/
def fnJsonWaysCard : Claim7 := { stood := { row := fnJsonWaysRow, standIns := [], harness := (true, "4391e99e81c43b82983265b770b4108edb71fd1fd7ace432147b2505471cfc6d"), looks := true }, kinds := [], alts := [], laidByText := true, laidKinds := [.data, .data, .data, .data, .data, .sentinel, .sentinel, .sentinel, .sentinel, .pinned, .pinned, .pinned], laidTests := true, laidLooks := .later }
def FnJsonWaysCardSaid : Prop := Claim7.holds Tryz.pinned (.plain (OpenSpec.ofChange fnJsonWaysSpec)) fnJsonWaysCard

/-- THE TIED CARD OF 'laws.FnJsonInts'. -/
def fnJsonIntsCard : Claim7 := { stood := { row := fnJsonIntsRow, standIns := [], harness := (true, "4391e99e81c43b82983265b770b4108edb71fd1fd7ace432147b2505471cfc6d"), looks := true }, kinds := [], alts := [], laidByText := true, laidKinds := [.data, .data, .widerDeep, .widerDeep, .data, .data, .data, .data, .data, .data, .sentinel, .sentinel, .sentinel, .pinned, .pinned, .pinned], laidTests := true, laidLooks := .later }
def FnJsonIntsCardSaid : Prop := Claim7.holds Tryz.pinned (.plain (OpenSpec.ofChange fnJsonIntsSpec)) fnJsonIntsCard

/-- THE SECOND FORM's CARD OF 'laws.FnJsonCut'. -/
def fnJsonCutUptoCard : Claim7 := { stood := { row := fnJsonCutUptoRow, standIns := [], harness := (true, "4391e99e81c43b82983265b770b4108edb71fd1fd7ace432147b2505471cfc6d"), looks := true }, kinds := [], alts := [], laidByText := true, laidKinds := [.data, .data, .data, .data, .data, .sentinel, .sentinel, .sentinel, .sentinel, .pinned, .pinned, .pinned], laidTests := true, laidLooks := .later }
def FnJsonCutUptoCardSaid : Prop := Claim7.holds Tryz.pinned (.plain (OpenSpec.upto fnJsonCutSpec)) fnJsonCutUptoCard

/-- THE SECOND FORM's CARD OF 'laws.FnJsonSpaces'. -/
def fnJsonSpacesUptoCard : Claim7 := { stood := { row := fnJsonSpacesUptoRow, standIns := [], harness := (true, "4391e99e81c43b82983265b770b4108edb71fd1fd7ace432147b2505471cfc6d"), looks := true }, kinds := [], alts := [], laidByText := true, laidKinds := [.data, .data, .data, .data, .data, .sentinel, .sentinel, .sentinel, .sentinel, .pinned, .pinned, .pinned], laidTests := true, laidLooks := .later }
def FnJsonSpacesUptoCardSaid : Prop := Claim7.holds Tryz.pinned (.plain (OpenSpec.upto fnJsonSpacesSpec)) fnJsonSpacesUptoCard

/-- THE SECOND FORM's CARD OF 'laws.FnJsonTwo'. -/
def fnJsonTwoUptoCard : Claim7 := { stood := { row := fnJsonTwoUptoRow, standIns := [], harness := (true, "4391e99e81c43b82983265b770b4108edb71fd1fd7ace432147b2505471cfc6d"), looks := true }, kinds := [], alts := [], laidByText := true, laidKinds := [.data, .data, .data, .data, .data, .sentinel, .sentinel, .sentinel, .sentinel, .pinned, .pinned, .pinned], laidTests := true, laidLooks := .later }
def FnJsonTwoUptoCardSaid : Prop := Claim7.holds Tryz.pinned (.plain (OpenSpec.upto fnJsonTwoSpec)) fnJsonTwoUptoCard

/-- THE SECOND FORM's CARD OF 'laws.FnJsonWays'. -/
def fnJsonWaysUptoCard : Claim7 := { stood := { row := fnJsonWaysUptoRow, standIns := [], harness := (true, "4391e99e81c43b82983265b770b4108edb71fd1fd7ace432147b2505471cfc6d"), looks := true }, kinds := [], alts := [], laidByText := true, laidKinds := [.data, .data, .data, .data, .data, .sentinel, .sentinel, .sentinel, .sentinel, .pinned, .pinned, .pinned], laidTests := true, laidLooks := .later }
def FnJsonWaysUptoCardSaid : Prop := Claim7.holds Tryz.pinned (.plain (OpenSpec.upto fnJsonWaysSpec)) fnJsonWaysUptoCard

/-- THE SECOND FORM's CARD OF 'laws.FnJsonInts'. -/
def fnJsonIntsUptoCard : Claim7 := { stood := { row := fnJsonIntsUptoRow, standIns := [], harness := (true, "4391e99e81c43b82983265b770b4108edb71fd1fd7ace432147b2505471cfc6d"), looks := true }, kinds := [], alts := [], laidByText := true, laidKinds := [.data, .data, .widerDeep, .widerDeep, .data, .data, .data, .data, .data, .data, .sentinel, .sentinel, .sentinel, .pinned, .pinned, .pinned], laidTests := true, laidLooks := .later }
def FnJsonIntsUptoCardSaid : Prop := Claim7.holds Tryz.pinned (.plain (OpenSpec.upto fnJsonIntsSpec)) fnJsonIntsUptoCard
end Rows
end Go.Proofs.YtdeehmjdbjlfkaaGreatDoor
