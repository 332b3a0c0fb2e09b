/- internal/strconv.ParseUint at any base and size: what its contract leans on. -/
import Derived.Test.YtpneioocmpagmaaGreatDoorNum
import Derived.Test.YtpneioocmpagmaaGreatDoorProg
import Derived.WalkKit
import Derived.Handy
import Derived.Lib.ConvBytes
import Derived.Lib.AtoiErrMem
import Derived.Lib.Hide
import Derived.Lib.Strings
import Derived.Deep.DeepCutAuto
import Derived.Deep.CutBlock
import Derived.Deep.LoopGhost
import Derived.Deep.RegionWith
import Derived.BigQuiet
import Derived.Deep.QuietTactic
namespace Go.Proofs.YtpneioocmpagmaaGreatDoor.pu
open Go.RowKit Go.Proofs.YtpneioocmpagmaaGreatDoor.num
set_option linter.unusedVariables false
set_option linter.unusedSimpArgs false

theorem or32 : ∀ c : Nat, c < 256 → bits .or .u8 (c : Int) 32 = ((low c : Nat) : Int) := by decide +kernel

theorem lower_any (c : Int) (w : World) :
    Calls Tryz.prog 141 #[.int .u8 c] w fun e w' => e = .returned (.int .u8 (bits .or .u8 c 32)) ∧ w = w' := by
  go_enter Tryz.func141, Tryz.ntmps141
  go_wp2
  go_ret
  exact ⟨rfl, rfl⟩


end Go.Proofs.YtpneioocmpagmaaGreatDoor.pu

/- internal/strconv.underscoreOK returns, whatever the text: its contract. -/
namespace Go.Proofs.YtpneioocmpagmaaGreatDoor.pu
open Go.RowKit Go.Proofs.YtpneioocmpagmaaGreatDoor.num
set_option linter.unusedVariables false
set_option linter.unusedSimpArgs false

def SomeBool (w : World) (e : Ending) (w' : World) : Prop := (∃ b, e = .returned (.bool b)) ∧ w = w'

/-- A Bool in a slot that says that a text has n bytes at least. -/
def Says (n : Nat) (t : ByteArray) (v : Value) : Prop := ∃ b, v = .bool b ∧ (b = true → n ≤ t.size)

def UState (t : ByteArray) (v3 v4 v5 : Value) : Prop := ∃ (s : Int) (i : Nat) (h : Bool), v3 = .int .i32 s ∧ v4 = .int .i64 i ∧ v5 = .bool h ∧ i ≤ t.size

set_option maxHeartbeats 4000000 in
set_option maxRecDepth 100000 in
theorem under_any (t : ByteArray) (hmax : t.size ≤ 140737488355328) (w : World) :
    Calls Tryz.prog 142 #[.string t] w fun e w' => SomeBool w e w' := by
  go_enter Tryz.func142, Tryz.ntmps142
  go_upto_region 3 with fail
  go_cut [18] (fun v18 wx => Says 1 t v18 ∧ w = wx)
  case first =>
    go_wp2_with (first | go_meet | fail)
    all_goals exact ⟨_, rfl, fun _ => by first | omega | contradiction⟩
  case rest => 
    obtain ⟨⟨b3, rfl, hb3⟩, rfl⟩ := hcut
    go_upto_if 18 with fail
    go_cut [0] (fun v0 wx => ∃ t' : ByteArray, v0 = .string t' ∧ t'.size ≤ 140737488355328 ∧ w = wx)
    case first =>
      cases b3 with
      | true =>
        have := hb3 rfl
        go_wp2_with (first | go_meet | fail)
        omega
      | false =>
        go_wp2_with (first | go_meet | fail)
    case rest =>
      obtain ⟨t', rfl, ht', rfl⟩ := hcut
      go_upto_region 6 with fail
      go_cut [46] (fun v46 wx => Says 2 t' v46 ∧ w = wx)
      case first =>
        go_wp2_with (first | go_meet | (go_at_call 141; refine (lower_any _ _).mono ?_; rintro e w' ⟨rfl, rfl⟩))
        all_goals exact ⟨_, rfl, fun _ => by first | omega | contradiction⟩
      case rest =>
        obtain ⟨⟨b6, rfl, hb6⟩, rfl⟩ := hcut
        go_upto_if 46 with fail
        go_cut [3, 4, 5] (fun v3 v4 v5 wx => UState t' v3 v4 v5 ∧ w = wx)
        case first =>
          cases b6 with
          | true =>
            have := hb6 rfl
            go_wp2_with (first | go_meet | (go_at_call 141; refine (lower_any _ _).mono ?_; rintro e w' ⟨rfl, rfl⟩))
            exact ⟨_, 2, _, rfl, rfl, rfl, by omega⟩
          | false =>
            go_wp2_with (first | go_meet | fail)
            exact ⟨_, 0, _, rfl, rfl, rfl, by omega⟩
        case rest =>
          obtain ⟨⟨s, i, h, rfl, rfl, rfl, hi⟩, rfl⟩ := hcut
          go_wp2_with fail
          go_loopg [3, 4] (t'.size - i) (fun g v3 v4 wr => ∃ (s : Int) (i : Nat), v3 = .int .i32 s ∧ v4 = .int .i64 i ∧ i ≤ t'.size ∧ t'.size - i ≤ g ∧ w = wr)
          case atStart => exact ⟨s, i, rfl, rfl, hi, Nat.le_refl _, rfl⟩
          case round =>
            obtain ⟨s, i, rfl, rfl, hi, hg, rfl⟩ := hrel
            by_cases hlt : i < t'.size
            · cases h
              all_goals
               go_upto_region 12 with fail
               go_cut [83] (fun v83 wx => (∃ b, v83 = .bool b) ∧ w = wx)
               case first =>
                 go_wp2_with (first | go_meet | (go_at_call 141; refine (lower_any _ _).mono ?_; rintro e w' ⟨rfl, rfl⟩))
                 all_goals exact ⟨_, rfl⟩
               case rest =>
                 obtain ⟨⟨b, rfl⟩, rfl⟩ := hcut
                 cases b <;> go_wp2_with fail
                 all_goals first
                 | (go_ret; exact ⟨⟨_, rfl⟩, rfl⟩)
                 | (go_roundg (gk - 1); (case measure => omega); (case rel => exact ⟨_, i + 1, rfl, by go_num, by omega, by omega, rfl⟩))
            · go_wp2
              go_ret
              exact ⟨⟨_, rfl⟩, rfl⟩

end Go.Proofs.YtpneioocmpagmaaGreatDoor.pu

