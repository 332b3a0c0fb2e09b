/- The closed facts of FnTextHex's row, each by itself. -/
import Derived.Test.YtpneioocmpagmaaGreatDoorChecked
import Derived.Test.YtpneioocmpagmaaGreatDoorRows
import Derived.ProofKit
import Derived.JoinedOf
import Derived.Test.YtpneioocmpagmaaGreatDoorCards
import Derived.Test.YtpneioocmpagmaaGreatDoorTie
import Derived.OpenShut
import Derived.LaidMore
import Derived.Lay
import Derived.SevenTiedAt
import Derived.Stop.Joined
import Derived.Stop.LaidErr
import Derived.Lib.LaidTab
import Derived.Lib.LaidU8T
namespace Go.Proofs.YtpneioocmpagmaaGreatDoor.wh
open Go.RowKit

theorem andt {a b : Bool} (ha : a = true) (hb : b = true) : (a && b) = true := by rw [ha, hb]; rfl

theorem pf10 : (Rows.fnTextHexRow.inPlace == Tryz.pinned.checked.prog.inPlace 5) = true := by kernel_rfl
theorem pf11 : (Rows.fnTextHexRow.unfollowed == Tryz.pinned.checked.prog.unfollowed 5) = true := by kernel_rfl
theorem pf12 : (Rows.fnTextHexRow.recurses == Tryz.pinned.checked.prog.recurses 5) = true := by kernel_rfl
theorem pf13 : (Rows.fnTextHexRow.named == Tryz.pinned.checked.prog.varsNamed 5) = true := by kernel_rfl
theorem pf23 : (Rows.fnTextHexRow.plainKeys == Tryz.pinned.checked.prog.plainKeys) = true := by kernel_rfl
theorem pf25 : Tryz.pinned.checked.prog.stopsHeard = true := by kernel_rfl
theorem pf27 : (Rows.fnTextHexRow.lifted == Tryz.pinned.checked.prog.liftsFinal) = true := by kernel_rfl
theorem pf28 : (Tryz.pinned.checked.prog.make == some Rows.fnTextHexRow.make) = true := by kernel_rfl
theorem pf26 : Tryz.pinned.checked.prog.mayEnter = true := by kernel_rfl

end Go.Proofs.YtpneioocmpagmaaGreatDoor.wh

/- The closed facts of FnTextHex's row, together. -/
namespace Go.Proofs.YtpneioocmpagmaaGreatDoor.wh
open Go.ChangeShapes Go.WideShapes Go.ChangeAt Go.RowKit Go.Shelf Go.Lib
set_option linter.unusedVariables false
set_option linter.unusedSimpArgs false

theorem closed : joinedFacts Tryz.pinned.checked.prog 5 Tryz.f5 Rows.fnTextHexSpec Rows.fnTextHexRow = true := by
  unfold joinedFacts
  exact andt (andt (andt (andt (andt (andt (andt (andt (andt (andt (andt (andt (andt (andt (andt (andt (andt (andt (andt (andt (andt (andt (andt (andt (andt (andt (andt (andt (andt (andt (andt (by kernel_rfl) (by kernel_rfl)) (by kernel_rfl)) (by kernel_rfl)) (by kernel_rfl)) (by kernel_rfl)) (by kernel_rfl)) (by kernel_rfl)) (by kernel_rfl)) pf10) pf11) pf12) pf13) (by kernel_rfl)) (by kernel_rfl)) (by kernel_rfl)) (by kernel_rfl)) (by kernel_rfl)) (by kernel_rfl)) (by kernel_rfl)) (by kernel_rfl)) (by kernel_rfl)) pf23) (by kernel_rfl)) pf25) pf26) pf27) pf28) (by kernel_rfl)) (by kernel_rfl)) (by kernel_rfl)) (by kernel_rfl)

end Go.Proofs.YtpneioocmpagmaaGreatDoor.wh

