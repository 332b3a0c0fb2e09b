/- The walk of laws.FnDefBools. -/
import Derived.Test.YtgdncaalacajpaaGreatDoorBu
namespace Go.Proofs.YtgdncaalacajpaaGreatDoor.bools
open Go.RowKit
set_option linter.unusedVariables false
set_option linter.unusedSimpArgs false

theorem form_any (tag : Bool) (w : World) : Calls Tryz.prog 6 #[.bool tag] w fun e w' => e = .returned (.int .i64 (formOf tag)) ∧ w = w' := by
  cases tag
  all_goals
    go_enter Tryz.func6, Tryz.ntmps6
    go_wp2
    go_ret
    exact ⟨rfl, rfl⟩

theorem chain3 {w w1 w2 w3 : World} (h1 : Below w.heap.size w w1) (h2 : Below w1.heap.size w1 w2) (h3 : Below w2.heap.size w2 w3) (o : Obj) : Below w.heap.size w (w3.alloc o) := by
  have z1 := h1.size
  have z2 := h2.size
  have z3 := h3.size
  exact (h1.trans ((h2.mono z1).trans (h3.mono (by omega)))).alloc (by omega) _

set_option maxHeartbeats 4000000 in
set_option maxRecDepth 100000 in
theorem law_yes (tag b : Bool) (w : World) :
    Calls Tryz.prog 3 #[.string (txt tag b), .bool tag] w fun e w' => e = .returned (.bool true) ∧ Below w.heap.size w w' := by
  have FT := form_any tag
  have M1 := marshal_any true tag
  have M0 := marshal_any false tag
  have U := unmarshal_yes b tag
  cases tag <;> cases b
  all_goals
    simp only [formOf, txt, outVal, if_true, Bool.false_eq_true, if_false] at FT M1 M0 U
    simp only [txt, if_true, Bool.false_eq_true, if_false]
    have FT := Lib.hid FT
    have M1 := Lib.hid M1
    have M0 := Lib.hid M0
    have U := Lib.hid U
    go_enter Tryz.func3, Tryz.ntmps3
    go_wp2_with (first | (go_at_call 6; refine (FT.out _).mono ?_; rintro e w' ⟨rfl, rfl⟩) | (go_at_call 5; ((with_reducible refine (M1.out _).mono ?_)); rintro e w1 ⟨rfl, hb1⟩) | (go_at_call 5; ((with_reducible refine (M0.out _).mono ?_)); rintro e w2 ⟨rfl, hb2⟩) | (go_at_call 7; refine (U.out _).mono ?_; rintro e w3 ⟨rfl, hb3⟩))
    go_ret
    exact ⟨rfl, chain3 hb1 hb2 hb3 _⟩

set_option maxHeartbeats 4000000 in
set_option maxRecDepth 100000 in
theorem law_no (s : ByteArray) (tag : Bool) (hs : (s.size : Int) ≤ 2147483647) (h0 : s ≠ txt tag false) (h1 : s ≠ txt tag true) (w : World) :
    Calls Tryz.prog 3 #[.string s, .bool tag] w fun e w' => e = .returned (.bool true) ∧ Below w.heap.size w w' := by
  have FT := form_any tag
  have M1 := marshal_any true tag
  have M0 := marshal_any false tag
  have U := unmarshal_no s tag h0 h1
  have k0 := ne_txt h0
  have k1 := ne_txt h1
  cases tag
  · have k0' : (s.toList == [102, 97, 108, 115, 101]) = false := k0
    have k1' : (s.toList == [116, 114, 117, 101]) = false := k1
    clear k0 k1
    simp only [formOf, txt, outVal, if_true, Bool.false_eq_true, if_false] at FT M1 M0 U
    have FT := Lib.hid FT
    have M1 := Lib.hid M1
    have M0 := Lib.hid M0
    have U := Lib.hid U
    clear h0 h1
    go_enter Tryz.func3, Tryz.ntmps3
    go_wp2_with (first | (go_at_call 6; refine (FT.out _).mono ?_; rintro e w' ⟨rfl, rfl⟩) | (go_at_call 5; ((with_reducible refine (M1.out _).mono ?_)); rintro e w1 ⟨rfl, hb1⟩) | (go_at_call 5; ((with_reducible refine (M0.out _).mono ?_)); rintro e w2 ⟨rfl, hb2⟩) | (go_at_call 7; refine (U.out _).mono ?_; rintro e w3 ⟨rfl, hb3⟩))
    go_ret
    exact ⟨rfl, chain3 hb1 hb2 hb3 _⟩
  · have k0' : (s.toList == [48]) = false := k0
    have k1' : (s.toList == [49]) = false := k1
    clear k0 k1
    simp only [formOf, txt, outVal, if_true, Bool.false_eq_true, if_false] at FT M1 M0 U
    have FT := Lib.hid FT
    have M1 := Lib.hid M1
    have M0 := Lib.hid M0
    have U := Lib.hid U
    clear h0 h1
    go_enter Tryz.func3, Tryz.ntmps3
    go_wp2_with (first | (go_at_call 6; refine (FT.out _).mono ?_; rintro e w' ⟨rfl, rfl⟩) | (go_at_call 5; ((with_reducible refine (M1.out _).mono ?_)); rintro e w1 ⟨rfl, hb1⟩) | (go_at_call 5; ((with_reducible refine (M0.out _).mono ?_)); rintro e w2 ⟨rfl, hb2⟩) | (go_at_call 7; refine (U.out _).mono ?_; rintro e w3 ⟨rfl, hb3⟩))
    go_ret
    exact ⟨rfl, chain3 hb1 hb2 hb3 _⟩

theorem law_all (s : ByteArray) (tag : Bool) (w : World) :
    Calls Tryz.prog 3 #[.string s, .bool tag] w fun e w' => e = .returned (.bool true) ∧ Below w.heap.size w w' := by
  by_cases hb : (2147483647 : Int) < s.size
  · exact law_big s tag hb w
  · by_cases h0 : s = txt tag false
    · subst h0; exact law_yes tag false w
    · by_cases h1 : s = txt tag true
      · subst h1; exact law_yes tag true w
      · exact law_no s tag (by omega) h0 h1 w

end Go.Proofs.YtgdncaalacajpaaGreatDoor.bools
