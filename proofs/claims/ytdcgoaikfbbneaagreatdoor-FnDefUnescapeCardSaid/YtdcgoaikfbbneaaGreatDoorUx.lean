/- The walk of laws.FnDefUnescape. -/
import Derived.Test.YtdcgoaikfbbneaaGreatDoorUw
namespace Go.Proofs.YtdcgoaikfbbneaaGreatDoor.une
open Go.RowKit
set_option linter.unusedVariables false
set_option linter.unusedSimpArgs false

def formOf (tag : Bool) : Int := if tag then 2 else 1

theorem form_any (tag : Bool) (w : World) : Calls Tryz.prog 6 #[.bool tag] w fun e w' => e = .returned (.int .i64 (formOf tag)) ∧ w = w' := by
  cases tag
  all_goals
    go_enter Tryz.func6, Tryz.ntmps6
    go_wp2
    go_ret
    exact ⟨rfl, rfl⟩

set_option maxHeartbeats 4000000 in
set_option maxRecDepth 100000 in
theorem law_long (s : ByteArray) (tag : Bool) (h : (2147483647 : Int) < s.size ∨ ((s.size : Int) ≤ 2147483647 ∧ (2000 : Int) < s.size)) (w : World) :
    Calls Tryz.prog 4 #[.string s, .bool tag] w fun e w' => e = .returned (.bool true) ∧ Below w.heap.size w w' := by
  rcases h with h | ⟨h, h'⟩
  all_goals
    go_enter Tryz.func4, Tryz.ntmps4
    go_wp2_with fail
    go_ret
    exact ⟨rfl, Below.refl _ _⟩

set_option maxHeartbeats 4000000 in
set_option maxRecDepth 100000 in
theorem law_short (s : ByteArray) (tag : Bool) (h : (s.size : Int) ≤ 2000) (w : World) (he : pu.Errs w) :
    Calls Tryz.prog 4 #[.string s, .bool tag] w fun e w' => e = .returned (.bool true) ∧ Below w.heap.size w w' := by
  have h0 : (s.size : Int) ≤ 2147483647 := by omega
  have HD := Lib.hid (def_bytes s (by omega) w)
  have HE := Lib.hid he
  clear he
  go_enter Tryz.func4, Tryz.ntmps4
  go_wp2_with fail
  refine HD.out.mono ?_
  rintro e w1 ⟨⟨t, told, rfl, ht⟩, hb1⟩
  have HT := Lib.hid ht
  have HB1 := Lib.hid hb1
  clear ht hb1
  by_cases h1 : told = 1
  · obtain ⟨g, hcu, hgl, rfl⟩ := HT.out h1
    have hsl : s.data.toList.length = s.size := by simp
    have HU := Lib.hid (fun f => unmB s.data.toList g hcu (by omega) (by omega) s rfl f w1 (HE.out.below HB1.out))
    have k1 : (told != 1) = false := by rw [h1]; rfl
    have HSL := Lib.hid hsl
    clear hcu hgl hsl h1
    go_wp2_with (first | (go_at_call 6; refine (form_any tag _).mono ?_; rintro e w' ⟨rfl, rfl⟩))
    refine (HU.out _).mono ?_
    rintro e w2 ⟨rfl, hb2⟩
    have HB2 := Lib.hid hb2
    clear hb2
    unfold outB
    go_wp2_with fail
    go_ret
    exact ⟨rfl, (HB1.out.trans (HB2.out.mono HB1.out.size)).alloc (Nat.le_trans HB1.out.size HB2.out.size) _⟩
  · have k1 : (told != 1) = true := by rw [bne_iff_ne]; exact h1
    clear h1
    go_wp2_with fail
    go_ret
    exact ⟨rfl, HB1.out⟩

theorem law_all (s : ByteArray) (tag : Bool) (w : World) (he : pu.Errs w) :
    Calls Tryz.prog 4 #[.string s, .bool tag] w fun e w' => e = .returned (.bool true) ∧ Below w.heap.size w w' := by
  by_cases h : (s.size : Int) ≤ 2000
  · exact law_short s tag h w he
  · exact law_long s tag (by omega) w

end Go.Proofs.YtdcgoaikfbbneaaGreatDoor.une
