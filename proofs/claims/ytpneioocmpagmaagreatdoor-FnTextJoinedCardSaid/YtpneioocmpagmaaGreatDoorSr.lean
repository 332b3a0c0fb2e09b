/- laws.FnTextJoined returns true for every list of strings and of bytes, and leaves its arguments as they were; the listed variables hold what the program's text lays. -/
import Derived.Test.YtpneioocmpagmaaGreatDoorQm
import Derived.Test.YtpneioocmpagmaaGreatDoorSs
import Derived.Test.YtpneioocmpagmaaGreatDoorSt
import Derived.Test.YtpneioocmpagmaaGreatDoorCards
import Derived.Test.YtpneioocmpagmaaGreatDoorTie
import Derived.ProofKit
import Derived.OpenShut
import Derived.LaidMore
import Derived.Lay
import Derived.SevenTiedAt
import Derived.Stop.Joined
import Derived.Stop.LaidErr
import Derived.Lib.LaidTab
import Derived.Lib.LaidU8T
namespace Go.Proofs.YtpneioocmpagmaaGreatDoor.ts
open Go.ChangeShapes Go.WideShapes Go.ChangeAt Go.RowKit Go.Shelf Go.Lib
open Go.Proofs.YtpneioocmpagmaaGreatDoor.pu
set_option linter.unusedVariables false
set_option linter.unusedSimpArgs false

theorem said : Rows.FnTextJoinedSaid :=
  OpenClaim.holds_of_wide 8 Tryz.f8 rfl rfl rfl rfl rfl rfl rfl ⟨rfl, rfl, rfl, rfl, rfl⟩ rfl rfl rfl rfl rfl (by kernel_rfl) Tryz.func8 closed
    (of_decide_eq_true (by kernel_rfl)) (by unfold Func.isWrapper; first | (rw [if_pos (by decide +kernel)]; kernel_rfl) | (rw [if_neg (by decide +kernel)]; exact ⟨rfl, rfl⟩))
    (fun os started H enc _ => lifted os started H enc)

theorem card : Rows.FnTextJoinedCardSaid :=
  Claim7.holds_tied_plain_at .later [] _ _ _ _ said (fun _ h => by cases h) (by kernel_rfl) (fun _ h => by cases h) fnTextJoined_row_tie rfl ⟨rfl, rfl⟩ (by kernel_rfl) rfl
    (fun f fn hf hfn => by
      obtain rfl : f = 8 := Option.some.inj ((show Tryz.prog.funcNamed "pub-codicil/laws.FnTextJoined" = some 8 by kernel_rfl).symm.trans hf) |>.symm
      obtain rfl : fn = Tryz.f8 := (Option.some.inj (Tryz.func8.symm.trans hfn)).symm
      exact ⟨by kernel_rfl, fun j t ht => by
        rw [Tryz.params8] at ht
        have hm : t ∈ [50, 25] := by simpa using Array.mem_of_getElem? ht
        have hall : ([50, 25].all fun u => !Tryz.prog.wantsStandIn u) = true := by kernel_rfl
        exact (show Tryz.prog.wantsStandIn t = false by simpa using List.all_eq_true.1 hall t hm)⟩)
    (by kernel_rfl)

end Go.Proofs.YtpneioocmpagmaaGreatDoor.ts
