/- The closed facts of FnDefEnums's row, each by itself. -/
import Derived.Test.YtonfdfikgnhheaaGreatDoorChecked
import Derived.Test.YtonfdfikgnhheaaGreatDoorRows
import Derived.ProofKit
import Derived.JoinedOf
namespace Go.Proofs.YtonfdfikgnhheaaGreatDoor.enums
open Go.RowKit

theorem andt {a b : Bool} (ha : a = true) (hb : b = true) : (a && b) = true := by rw [ha, hb]; rfl

theorem pf10 : (Rows.fnDefEnumsRow.inPlace == Tryz.pinned.checked.prog.inPlace 9) = true := by kernel_rfl
theorem pf11 : (Rows.fnDefEnumsRow.unfollowed == Tryz.pinned.checked.prog.unfollowed 9) = true := by kernel_rfl
theorem pf12 : (Rows.fnDefEnumsRow.recurses == Tryz.pinned.checked.prog.recurses 9) = true := by kernel_rfl
theorem pf13 : (Rows.fnDefEnumsRow.named == Tryz.pinned.checked.prog.varsNamed 9) = true := by kernel_rfl
theorem pf23 : (Rows.fnDefEnumsRow.plainKeys == Tryz.pinned.checked.prog.plainKeys) = true := by kernel_rfl
theorem pf25 : Tryz.pinned.checked.prog.stopsHeard = true := by kernel_rfl
theorem pf27 : (Rows.fnDefEnumsRow.lifted == Tryz.pinned.checked.prog.liftsFinal) = true := by kernel_rfl
theorem pf28 : (Tryz.pinned.checked.prog.make == some Rows.fnDefEnumsRow.make) = true := by kernel_rfl
theorem pf26 : Tryz.pinned.checked.prog.mayEnter = true := by kernel_rfl

end Go.Proofs.YtonfdfikgnhheaaGreatDoor.enums
