/- laws.FnJsonInts returns true for every whole number and form, and leaves its arguments as they were; the listed variables hold what the program's text lays. -/
import Derived.Test.YtdeehmjdbjlfkaaGreatDoorGm
import Derived.Test.YtdeehmjdbjlfkaaGreatDoorGs
import Derived.Test.YtdeehmjdbjlfkaaGreatDoorGt
import Derived.Test.YtdeehmjdbjlfkaaGreatDoorCards
import Derived.Test.YtdeehmjdbjlfkaaGreatDoorTie
import Derived.ProofKit
import Derived.OpenShut
import Derived.LaidMore
import Derived.Lay
import Derived.SevenTiedAt
import Derived.Stop.Joined
import Derived.Stop.LaidErr
import Derived.Lib.LaidTab
import Derived.Lib.LaidU8T
namespace Go.Proofs.YtdeehmjdbjlfkaaGreatDoor.jn
open Go.ChangeShapes Go.WideShapes Go.ChangeAt Go.RowKit Go.Shelf Go.Lib
open Go.Proofs.YtdeehmjdbjlfkaaGreatDoor.pu Go.Proofs.YtdeehmjdbjlfkaaGreatDoor.fl
set_option linter.unusedVariables false
set_option linter.unusedSimpArgs false

theorem said : Rows.FnJsonIntsSaid :=
  OpenClaim.holds_of_wide 7 Tryz.f7 rfl rfl rfl rfl rfl rfl rfl ⟨rfl, rfl, rfl, rfl, rfl⟩ rfl rfl rfl rfl rfl (by kernel_rfl) Tryz.func7 closed
    (of_decide_eq_true (by kernel_rfl)) (by unfold Func.isWrapper; first | (rw [if_pos (by decide +kernel)]; kernel_rfl) | (rw [if_neg (by decide +kernel)]; exact ⟨rfl, rfl⟩))
    (fun os started H enc _ => lifted law_all os started H enc)

theorem card : Rows.FnJsonIntsCardSaid :=
  Claim7.holds_tied_plain_at .later [] _ _ _ _ said (fun _ h => by cases h) (by kernel_rfl) (fun _ h => by cases h) fnJsonInts_row_tie rfl ⟨rfl, rfl⟩ (by kernel_rfl) rfl
    (fun f fn hf hfn => by
      obtain rfl : f = 7 := Option.some.inj ((show Tryz.prog.funcNamed "pub-codicil/laws.FnJsonInts" = some 7 by kernel_rfl).symm.trans hf) |>.symm
      obtain rfl : fn = Tryz.f7 := (Option.some.inj (Tryz.func7.symm.trans hfn)).symm
      exact ⟨by kernel_rfl, fun j t ht => by
        rw [Tryz.params7] at ht
        have hm : t ∈ [2, 5] := by simpa using Array.mem_of_getElem? ht
        have hall : ([2, 5].all fun u => !Tryz.prog.wantsStandIn u) = true := by kernel_rfl
        exact (show Tryz.prog.wantsStandIn t = false by simpa using List.all_eq_true.1 hall t hm)⟩)
    (by kernel_rfl)

end Go.Proofs.YtdeehmjdbjlfkaaGreatDoor.jn
