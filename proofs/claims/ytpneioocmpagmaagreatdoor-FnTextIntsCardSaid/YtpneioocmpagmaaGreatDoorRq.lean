/- The closed facts of FnTextInts's row, each by itself. -/
import Derived.Test.YtpneioocmpagmaaGreatDoorChecked
import Derived.Test.YtpneioocmpagmaaGreatDoorRows
import Derived.ProofKit
import Derived.JoinedOf
namespace Go.Proofs.YtpneioocmpagmaaGreatDoor.tr
open Go.RowKit

theorem andt {a b : Bool} (ha : a = true) (hb : b = true) : (a && b) = true := by rw [ha, hb]; rfl

theorem pf10 : (Rows.fnTextIntsRow.inPlace == Tryz.pinned.checked.prog.inPlace 6) = true := by kernel_rfl
theorem pf11 : (Rows.fnTextIntsRow.unfollowed == Tryz.pinned.checked.prog.unfollowed 6) = true := by kernel_rfl
theorem pf12 : (Rows.fnTextIntsRow.recurses == Tryz.pinned.checked.prog.recurses 6) = true := by kernel_rfl
theorem pf13 : (Rows.fnTextIntsRow.named == Tryz.pinned.checked.prog.varsNamed 6) = true := by kernel_rfl
theorem pf23 : (Rows.fnTextIntsRow.plainKeys == Tryz.pinned.checked.prog.plainKeys) = true := by kernel_rfl
theorem pf25 : Tryz.pinned.checked.prog.stopsHeard = true := by kernel_rfl
theorem pf27 : (Rows.fnTextIntsRow.lifted == Tryz.pinned.checked.prog.liftsFinal) = true := by kernel_rfl
theorem pf28 : (Tryz.pinned.checked.prog.make == some Rows.fnTextIntsRow.make) = true := by kernel_rfl
theorem pf26 : Tryz.pinned.checked.prog.mayEnter = true := by kernel_rfl

end Go.Proofs.YtpneioocmpagmaaGreatDoor.tr
