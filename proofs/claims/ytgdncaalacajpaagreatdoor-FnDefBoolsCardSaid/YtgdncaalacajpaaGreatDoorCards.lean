/-
  DERIVED. GIVEN WITH THE SEED: THE CARDS: each row of YtgdncaalacajpaaGreatDoorRows.lean that lists a variable, with what it lists TIED to the program's text (the seventh form; the later family's looks); each row that meets fmt, with fmt's text TOLD by the authors' own Lean function (tested against real Go, not proved from fmt's source: count such statements apart). THE CARD IS WHAT COUNTS. Prove the row's statement (the work); the ties are given (YtgdncaalacajpaaGreatDoorTie.lean); close each card by the builder's one call (the guide's Derived/Test/ToyasCard.lean, 'card_holds'). Laid BY PROGRAM, IN A SANDBOX (cutbox-door.mjs). By AI agents, Wed Nov 11 2026. No macro, syntax, notation, axiom, sorry.
-/
import Derived.Test.YtgdncaalacajpaaGreatDoorRows
import GoSem.ClaimSeven
namespace Go.Proofs.YtgdncaalacajpaaGreatDoor
namespace Rows

/-- THE TIED CARD OF 'laws.FnDefBools'. -/
def fnDefBoolsCard : Claim7 := { stood := { row := fnDefBoolsRow, standIns := [], harness := (true, "0ab2fd245eb5a1ce93b626c1209754c7a691258e91aac06a824e9d646c2faafb"), looks := true }, kinds := [], alts := [], laidByText := true, laidKinds := [.data, .data, .widerDeep, .widerDeep, .data, .data, .data, .data, .data, .data, .sentinel, .sentinel, .sentinel, .pinned, .pinned, .pinned], laidTests := true, laidLooks := .later }
def FnDefBoolsCardSaid : Prop := Claim7.holds Tryz.pinned (.plain (OpenSpec.ofChange fnDefBoolsSpec)) fnDefBoolsCard

/-- THE TIED CARD OF 'laws.FnDefEnums'. -/
def fnDefEnumsCard : Claim7 := { stood := { row := fnDefEnumsRow, standIns := [], harness := (true, "0ab2fd245eb5a1ce93b626c1209754c7a691258e91aac06a824e9d646c2faafb"), looks := true }, kinds := [], alts := [], laidByText := true, laidKinds := [.data, .data, .widerDeep, .widerDeep, .data, .data, .data, .data, .data, .data, .sentinel, .sentinel, .sentinel, .pinned, .pinned, .pinned], laidTests := true, laidLooks := .later }
def FnDefEnumsCardSaid : Prop := Claim7.holds Tryz.pinned (.plain (OpenSpec.ofChange fnDefEnumsSpec)) fnDefEnumsCard

/-- THE SECOND FORM's CARD OF 'laws.FnDefBools'. -/
def fnDefBoolsUptoCard : Claim7 := { stood := { row := fnDefBoolsUptoRow, standIns := [], harness := (true, "0ab2fd245eb5a1ce93b626c1209754c7a691258e91aac06a824e9d646c2faafb"), looks := true }, kinds := [], alts := [], laidByText := true, laidKinds := [.data, .data, .widerDeep, .widerDeep, .data, .data, .data, .data, .data, .data, .sentinel, .sentinel, .sentinel, .pinned, .pinned, .pinned], laidTests := true, laidLooks := .later }
def FnDefBoolsUptoCardSaid : Prop := Claim7.holds Tryz.pinned (.plain (OpenSpec.upto fnDefBoolsSpec)) fnDefBoolsUptoCard

/-- THE SECOND FORM's CARD OF 'laws.FnDefEnums'. -/
def fnDefEnumsUptoCard : Claim7 := { stood := { row := fnDefEnumsUptoRow, standIns := [], harness := (true, "0ab2fd245eb5a1ce93b626c1209754c7a691258e91aac06a824e9d646c2faafb"), looks := true }, kinds := [], alts := [], laidByText := true, laidKinds := [.data, .data, .widerDeep, .widerDeep, .data, .data, .data, .data, .data, .data, .sentinel, .sentinel, .sentinel, .pinned, .pinned, .pinned], laidTests := true, laidLooks := .later }
def FnDefEnumsUptoCardSaid : Prop := Claim7.holds Tryz.pinned (.plain (OpenSpec.upto fnDefEnumsSpec)) fnDefEnumsUptoCard
end Rows
end Go.Proofs.YtgdncaalacajpaaGreatDoor
