/- The closed facts of FnTextJoined's row, together. -/
import Derived.Test.YtpneioocmpagmaaGreatDoorSq
import Derived.Test.YtpneioocmpagmaaGreatDoorCards
import Derived.Test.YtpneioocmpagmaaGreatDoorTie
import Derived.ProofKit
import Derived.OpenShut
import Derived.LaidMore
import Derived.Lay
import Derived.SevenTiedAt
import Derived.Stop.Joined
import Derived.Stop.LaidErr
import Derived.Lib.LaidTab
import Derived.Lib.LaidU8T
namespace Go.Proofs.YtpneioocmpagmaaGreatDoor.ts
open Go.ChangeShapes Go.WideShapes Go.ChangeAt Go.RowKit Go.Shelf Go.Lib
set_option linter.unusedVariables false
set_option linter.unusedSimpArgs false

theorem closed : joinedFacts Tryz.pinned.checked.prog 8 Tryz.f8 Rows.fnTextJoinedSpec Rows.fnTextJoinedRow = true := by
  unfold joinedFacts
  exact andt (andt (andt (andt (andt (andt (andt (andt (andt (andt (andt (andt (andt (andt (andt (andt (andt (andt (andt (andt (andt (andt (andt (andt (andt (andt (andt (andt (andt (andt (andt (by kernel_rfl) (by kernel_rfl)) (by kernel_rfl)) (by kernel_rfl)) (by kernel_rfl)) (by kernel_rfl)) (by kernel_rfl)) (by kernel_rfl)) (by kernel_rfl)) pf10) pf11) pf12) pf13) (by kernel_rfl)) (by kernel_rfl)) (by kernel_rfl)) (by kernel_rfl)) (by kernel_rfl)) (by kernel_rfl)) (by kernel_rfl)) (by kernel_rfl)) (by kernel_rfl)) pf23) (by kernel_rfl)) pf25) pf26) pf27) pf28) (by kernel_rfl)) (by kernel_rfl)) (by kernel_rfl)) (by kernel_rfl)

end Go.Proofs.YtpneioocmpagmaaGreatDoor.ts
