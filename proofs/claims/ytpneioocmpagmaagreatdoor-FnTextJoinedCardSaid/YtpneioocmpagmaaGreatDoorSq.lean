/- The closed facts of FnTextJoined's row, each by itself. -/
import Derived.Test.YtpneioocmpagmaaGreatDoorChecked
import Derived.Test.YtpneioocmpagmaaGreatDoorRows
import Derived.ProofKit
import Derived.JoinedOf
namespace Go.Proofs.YtpneioocmpagmaaGreatDoor.ts
open Go.RowKit

theorem andt {a b : Bool} (ha : a = true) (hb : b = true) : (a && b) = true := by rw [ha, hb]; rfl

theorem pf10 : (Rows.fnTextJoinedRow.inPlace == Tryz.pinned.checked.prog.inPlace 8) = true := by kernel_rfl
theorem pf11 : (Rows.fnTextJoinedRow.unfollowed == Tryz.pinned.checked.prog.unfollowed 8) = true := by kernel_rfl
theorem pf12 : (Rows.fnTextJoinedRow.recurses == Tryz.pinned.checked.prog.recurses 8) = true := by kernel_rfl
theorem pf13 : (Rows.fnTextJoinedRow.named == Tryz.pinned.checked.prog.varsNamed 8) = true := by kernel_rfl
theorem pf23 : (Rows.fnTextJoinedRow.plainKeys == Tryz.pinned.checked.prog.plainKeys) = true := by kernel_rfl
theorem pf25 : Tryz.pinned.checked.prog.stopsHeard = true := by kernel_rfl
theorem pf27 : (Rows.fnTextJoinedRow.lifted == Tryz.pinned.checked.prog.liftsFinal) = true := by kernel_rfl
theorem pf28 : (Tryz.pinned.checked.prog.make == some Rows.fnTextJoinedRow.make) = true := by kernel_rfl
theorem pf26 : Tryz.pinned.checked.prog.mayEnter = true := by kernel_rfl

end Go.Proofs.YtpneioocmpagmaaGreatDoor.ts
