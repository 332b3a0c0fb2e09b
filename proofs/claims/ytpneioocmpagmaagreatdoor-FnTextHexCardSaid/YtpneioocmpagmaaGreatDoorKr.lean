/- laws.FnTextHex returns true for every whole number, and leaves its argument as it was; the listed variables hold what the program's text lays. -/
import Derived.Test.YtpneioocmpagmaaGreatDoorHk
import Derived.Test.YtpneioocmpagmaaGreatDoorKs
import Derived.Test.YtpneioocmpagmaaGreatDoorKq
import Derived.Test.YtpneioocmpagmaaGreatDoorCards
import Derived.Test.YtpneioocmpagmaaGreatDoorTie
import Derived.ProofKit
import Derived.OpenShut
import Derived.LaidMore
import Derived.Lay
import Derived.SevenTiedAt
import Derived.Stop.Joined
import Derived.Stop.LaidErr
import Derived.Lib.LaidTab
import Derived.Lib.LaidU8T
namespace Go.Proofs.YtpneioocmpagmaaGreatDoor.wh
open Go.ChangeShapes Go.WideShapes Go.ChangeAt Go.RowKit Go.Shelf Go.Lib
open Go.Proofs.YtpneioocmpagmaaGreatDoor.pu Go.Proofs.YtpneioocmpagmaaGreatDoor.fl Go.Proofs.YtpneioocmpagmaaGreatDoor.jn
set_option linter.unusedVariables false
set_option linter.unusedSimpArgs false

theorem said : Rows.FnTextHexSaid :=
  OpenClaim.holds_of_wide 5 Tryz.f5 rfl rfl rfl rfl rfl rfl rfl ⟨rfl, rfl, rfl, rfl, rfl⟩ rfl rfl rfl rfl rfl (by kernel_rfl) Tryz.func5 closed
    (of_decide_eq_true (by kernel_rfl)) (by unfold Func.isWrapper; first | (rw [if_pos (by decide +kernel)]; kernel_rfl) | (rw [if_neg (by decide +kernel)]; exact ⟨rfl, rfl⟩))
    (fun os started H enc _ => lifted (fun u oct up h1 w EB => hx.law_walk u oct up h1 w (EB w (Below.refl _ _)).2 (fun w' h => ⟨(EB w' h).1.few, (EB w' h).1.pe, (EB w' h).1.inf⟩)) os started H enc)

theorem card : Rows.FnTextHexCardSaid :=
  Claim7.holds_tied_plain_at .later [] _ _ _ _ said (fun _ h => by cases h) (by kernel_rfl) (fun _ h => by cases h) fnTextHex_row_tie rfl ⟨rfl, rfl⟩ (by kernel_rfl) rfl
    (fun f fn hf hfn => by
      obtain rfl : f = 5 := Option.some.inj ((show Tryz.prog.funcNamed "pub-codicil/laws.FnTextHex" = some 5 by kernel_rfl).symm.trans hf) |>.symm
      obtain rfl : fn = Tryz.f5 := (Option.some.inj (Tryz.func5.symm.trans hfn)).symm
      exact ⟨by kernel_rfl, fun j t ht => by
        rw [Tryz.params5] at ht
        have hm : t ∈ [39, 4] := by simpa using Array.mem_of_getElem? ht
        have hall : ([39, 4].all fun u => !Tryz.prog.wantsStandIn u) = true := by kernel_rfl
        exact (show Tryz.prog.wantsStandIn t = false by simpa using List.all_eq_true.1 hall t hm)⟩)
    (by kernel_rfl)

end Go.Proofs.YtpneioocmpagmaaGreatDoor.wh

