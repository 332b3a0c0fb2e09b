/- internal/strconv.ParseUint at any base and size: what its contract leans on. -/
import Derived.Test.YtpneioocmpagmaaGreatDoorNum
import Derived.Test.YtpneioocmpagmaaGreatDoorProg
import Derived.WalkKit
import Derived.Handy
import Derived.Lib.ConvBytes
import Derived.Lib.AtoiErrMem
import Derived.Lib.Hide
import Derived.Lib.Strings
import Derived.Deep.DeepCutAuto
import Derived.Deep.CutBlock
import Derived.Deep.LoopGhost
import Derived.Deep.RegionWith
import Derived.BigQuiet
import Derived.Deep.QuietTactic
namespace Go.Proofs.YtpneioocmpagmaaGreatDoor.pu
open Go.RowKit Go.Proofs.YtpneioocmpagmaaGreatDoor.num
set_option linter.unusedVariables false
set_option linter.unusedSimpArgs false

theorem or32 : ∀ c : Nat, c < 256 → bits .or .u8 (c : Int) 32 = ((low c : Nat) : Int) := by decide +kernel

theorem lower_any (c : Int) (w : World) :
    Calls Tryz.prog 141 #[.int .u8 c] w fun e w' => e = .returned (.int .u8 (bits .or .u8 c 32)) ∧ w = w' := by
  go_enter Tryz.func141, Tryz.ntmps141
  go_wp2
  go_ret
  exact ⟨rfl, rfl⟩


end Go.Proofs.YtpneioocmpagmaaGreatDoor.pu
