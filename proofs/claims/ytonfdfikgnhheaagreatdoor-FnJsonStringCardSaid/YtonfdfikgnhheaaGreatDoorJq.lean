/- The closed facts of FnJsonString's row, each by itself. -/
import Derived.Test.YtonfdfikgnhheaaGreatDoorChecked
import Derived.Test.YtonfdfikgnhheaaGreatDoorRows
import Derived.ProofKit
import Derived.JoinedOf
namespace Go.Proofs.YtonfdfikgnhheaaGreatDoor.js
open Go.RowKit

theorem andt {a b : Bool} (ha : a = true) (hb : b = true) : (a && b) = true := by rw [ha, hb]; rfl

theorem pf10 : (Rows.fnJsonStringRow.inPlace == Tryz.pinned.checked.prog.inPlace 5) = true := by kernel_rfl
theorem pf11 : (Rows.fnJsonStringRow.unfollowed == Tryz.pinned.checked.prog.unfollowed 5) = true := by kernel_rfl
theorem pf12 : (Rows.fnJsonStringRow.recurses == Tryz.pinned.checked.prog.recurses 5) = true := by kernel_rfl
theorem pf13 : (Rows.fnJsonStringRow.named == Tryz.pinned.checked.prog.varsNamed 5) = true := by kernel_rfl
theorem pf23 : (Rows.fnJsonStringRow.plainKeys == Tryz.pinned.checked.prog.plainKeys) = true := by kernel_rfl
theorem pf25 : Tryz.pinned.checked.prog.stopsHeard = true := by kernel_rfl
theorem pf27 : (Rows.fnJsonStringRow.lifted == Tryz.pinned.checked.prog.liftsFinal) = true := by kernel_rfl
theorem pf28 : (Tryz.pinned.checked.prog.make == some Rows.fnJsonStringRow.make) = true := by kernel_rfl
theorem pf26 : Tryz.pinned.checked.prog.mayEnter = true := by kernel_rfl

end Go.Proofs.YtonfdfikgnhheaaGreatDoor.js
