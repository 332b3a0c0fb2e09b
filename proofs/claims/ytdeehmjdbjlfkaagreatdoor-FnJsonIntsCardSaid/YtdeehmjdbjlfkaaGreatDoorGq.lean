/- The closed facts of FnJsonInts's row, each by itself. -/
import Derived.Test.YtdeehmjdbjlfkaaGreatDoorChecked
import Derived.Test.YtdeehmjdbjlfkaaGreatDoorRows
import Derived.ProofKit
import Derived.JoinedOf
namespace Go.Proofs.YtdeehmjdbjlfkaaGreatDoor.jn
open Go.RowKit

theorem andt {a b : Bool} (ha : a = true) (hb : b = true) : (a && b) = true := by rw [ha, hb]; rfl

theorem pf10 : (Rows.fnJsonIntsRow.inPlace == Tryz.pinned.checked.prog.inPlace 7) = true := by kernel_rfl
theorem pf11 : (Rows.fnJsonIntsRow.unfollowed == Tryz.pinned.checked.prog.unfollowed 7) = true := by kernel_rfl
theorem pf12 : (Rows.fnJsonIntsRow.recurses == Tryz.pinned.checked.prog.recurses 7) = true := by kernel_rfl
theorem pf13 : (Rows.fnJsonIntsRow.named == Tryz.pinned.checked.prog.varsNamed 7) = true := by kernel_rfl
theorem pf23 : (Rows.fnJsonIntsRow.plainKeys == Tryz.pinned.checked.prog.plainKeys) = true := by kernel_rfl
theorem pf25 : Tryz.pinned.checked.prog.stopsHeard = true := by kernel_rfl
theorem pf27 : (Rows.fnJsonIntsRow.lifted == Tryz.pinned.checked.prog.liftsFinal) = true := by kernel_rfl
theorem pf28 : (Tryz.pinned.checked.prog.make == some Rows.fnJsonIntsRow.make) = true := by kernel_rfl
theorem pf26 : Tryz.pinned.checked.prog.mayEnter = true := by kernel_rfl

end Go.Proofs.YtdeehmjdbjlfkaaGreatDoor.jn
