/- The reference's reading of C's escapes: CUnescape, DefBytes; indexNeedEscapeInString. -/
import Derived.Test.YtpneioocmpagmaaGreatDoorUn
import Derived.Test.YtpneioocmpagmaaGreatDoorPu0
import Derived.OwnWalk
import Derived.StillTailTactics
namespace Go.Proofs.YtpneioocmpagmaaGreatDoor.une
open Go.RowKit
set_option linter.unusedVariables false
set_option linter.unusedSimpArgs false

theorem getD_get (t : ByteArray) (i : Nat) (h : i < t.size) : t.data.toList.getD i 0 = t[i] := by
  rw [List.getD_eq_getElem?_getD, List.getElem?_eq_getElem (by simpa using h)]
  simp [ByteArray.getElem_eq_getElem_data]

theorem not_ok {c : Nat} (h : ¬ Ok c) : (c : Int) < 32 ∨ (c : Int) = 34 ∨ (c : Int) = 39 ∨ (c : Int) = 92 ∨ (127 : Int) ≤ c := by
  unfold Ok at h; omega

def Stops (t : ByteArray) (w : World) (e : Ending) (w' : World) : Prop := (∃ i : Nat, e = .returned (.int .i64 i) ∧ i ≤ t.size ∧ ∀ j, j < i → Ok (t.data.toList.getD j 0).toNat) ∧ w = w'

set_option maxHeartbeats 4000000 in
set_option maxRecDepth 100000 in
theorem need_escape (t : ByteArray) (hmax : t.size ≤ 140737488355328) (w : World) :
    Calls Tryz.prog 90 #[.string t] w fun e w' => Stops t w e w' := by
  go_enter Tryz.func90, Tryz.ntmps90
  go_wp2_with fail
  go_loop [3] (fun vi => ∃ k : Nat, vi = .int .i64 k ∧ k ≤ t.size ∧ ∀ j, j < k → Ok (t.data.toList.getD j 0).toNat) (fun vi => t.size - (intOf vi).toNat)
  case atStart => exact ⟨0, rfl, by omega, fun j hj => by omega⟩
  case round =>
    obtain ⟨k, rfl, hk, hok⟩ := hrel
    have HOK := Lib.hid hok
    clear hok
    by_cases hkn : k < t.size
    · have g := getD_get t k hkn
      by_cases ho : Ok (t.data.toList.getD k 0).toNat
      · have HO := Lib.hid ho
        rw [g] at ho
        unfold Ok at ho
        have h32 : (32 : Int) ≤ (t[k].toNat : Int) := by omega
        have h127 : (t[k].toNat : Int) < 127 := by omega
        have h34 : ((t[k].toNat : Int) == 34) = false := by rw [beq_eq_false_iff_ne]; omega
        have h39 : ((t[k].toNat : Int) == 39) = false := by rw [beq_eq_false_iff_ne]; omega
        have h92 : ((t[k].toNat : Int) == 92) = false := by rw [beq_eq_false_iff_ne]; omega
        clear ho g
        go_wp2_with (first | go_meet | fail)
        refine ⟨⟨k + 1, rfl, by omega, fun j hj => ?_⟩, by simp [intOf]; omega⟩
        by_cases e : j = k
        · subst e; exact HO.out
        · exact HOK.out j (by omega)
      · have hn := not_ok ho
        rw [g] at hn
        clear g ho
        have hc : (t[k].toNat : Int) < 32 ∨ ((32 : Int) ≤ (t[k].toNat : Int) ∧ ((t[k].toNat : Int) == 34) = true) ∨ ((32 : Int) ≤ (t[k].toNat : Int) ∧ ((t[k].toNat : Int) == 34) = false ∧ ((t[k].toNat : Int) == 39) = true) ∨
            ((32 : Int) ≤ (t[k].toNat : Int) ∧ ((t[k].toNat : Int) == 34) = false ∧ ((t[k].toNat : Int) == 39) = false ∧ ((t[k].toNat : Int) == 92) = true) ∨
            ((32 : Int) ≤ (t[k].toNat : Int) ∧ ((t[k].toNat : Int) == 34) = false ∧ ((t[k].toNat : Int) == 39) = false ∧ ((t[k].toNat : Int) == 92) = false ∧ (127 : Int) ≤ (t[k].toNat : Int)) := by
          simp only [beq_iff_eq, beq_eq_false_iff_ne]
          omega
        clear hn
        rcases hc with h0 | ⟨h0, h1⟩ | ⟨h0, h1, h2⟩ | ⟨h0, h1, h2, h3⟩ | ⟨h0, h1, h2, h3, h4⟩
        all_goals
          go_wp2_with (first | go_meet | fail)
          go_ret
          exact ⟨⟨k, rfl, hk, HOK.out⟩, rfl⟩
    · go_wp2_with fail
      go_ret
      obtain rfl : k = t.size := by omega
      exact ⟨⟨_, rfl, Nat.le_refl _, HOK.out⟩, rfl⟩

end Go.Proofs.YtpneioocmpagmaaGreatDoor.une
