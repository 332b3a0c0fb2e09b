/- The walk of laws.FnDefInts: the law itself. -/
import Derived.Test.YtdcgoaikfbbneaaGreatDoorDl
namespace Go.Proofs.YtdcgoaikfbbneaaGreatDoor.ints
open Go.RowKit Go.Proofs.YtdcgoaikfbbneaaGreatDoor.num Go.Proofs.YtdcgoaikfbbneaaGreatDoor.pu
set_option linter.unusedVariables false
set_option linter.unusedSimpArgs false

set_option maxHeartbeats 4000000 in
set_option maxRecDepth 100000 in
theorem law_big (s : ByteArray) (k : Int) (tag : Bool) (h : (2147483647 : Int) < s.size) (w : World) :
    Calls Tryz.prog 3 #[.string s, .int .i64 k, .bool tag] w fun e w' => e = .returned (.bool true) ∧ Below w.heap.size w w' := by
  go_enter Tryz.func3, Tryz.ntmps3
  go_wp2
  go_ret
  exact ⟨rfl, Below.refl _ _⟩

set_option maxHeartbeats 4000000 in
set_option maxRecDepth 100000 in
theorem law_other (s : ByteArray) (k : Int) (tag : Bool) (h : (s.size : Int) ≤ 2147483647)
    (h5 : (k == 5) = false) (h17 : (k == 17) = false) (h15 : (k == 15) = false) (h3 : (k == 3) = false) (h18 : (k == 18) = false) (h16 : (k == 16) = false) (h13 : (k == 13) = false) (h7 : (k == 7) = false) (h4 : (k == 4) = false) (h6 : (k == 6) = false) (w : World) :
    Calls Tryz.prog 3 #[.string s, .int .i64 k, .bool tag] w fun e w' => e = .returned (.bool true) ∧ Below w.heap.size w w' := by
  go_enter Tryz.func3, Tryz.ntmps3
  go_wp2
  go_ret
  exact ⟨rfl, Below.refl _ _⟩

set_option maxHeartbeats 4000000 in
set_option maxRecDepth 100000 in
theorem law_long (s : ByteArray) (k : Int) (tag : Bool) (h : (s.size : Int) ≤ 2147483647) (h1 : (100 : Int) < s.size)
    (hk : k = 5 ∨ k = 15 ∨ k = 17 ∨ k = 3 ∨ k = 16 ∨ k = 18 ∨ k = 7 ∨ k = 13 ∨ k = 4 ∨ k = 6) (w : World) :
    Calls Tryz.prog 3 #[.string s, .int .i64 k, .bool tag] w fun e w' => e = .returned (.bool true) ∧ Below w.heap.size w w' := by
  rcases hk with rfl | rfl | rfl | rfl | rfl | rfl | rfl | rfl | rfl | rfl
  all_goals
    go_enter Tryz.func3, Tryz.ntmps3
    go_wp2
    go_ret
    exact ⟨rfl, Below.refl _ _⟩

set_option maxHeartbeats 4000000 in
set_option maxRecDepth 100000 in
theorem law_s (s : ByteArray) (k bits : Int) (mx half : Nat) (tag : Bool) (h : (s.size : Int) ≤ 100) (w : World)
    (hkb : ((k = 5 ∨ k = 15 ∨ k = 17) ∧ bits = 32) ∨ ((k = 3 ∨ k = 16 ∨ k = 18) ∧ bits = 64))
    (U : ∀ f, Calls Tryz.prog 5 #[.string s, .int .i64 k, .int .i64 f, .slice none 0 0, .slice none 0 0] w
      fun e w' => DS k (pi 0 mx half s.data.toList) e ∧ Below w.heap.size w w')
    (R : ∀ w, Calls Tryz.prog 7 #[.string s, .int .i64 bits] w fun e w' => WholeSays mx half s.data.toList w e w') :
    Calls Tryz.prog 3 #[.string s, .int .i64 k, .bool tag] w fun e w' => e = .returned (.bool true) ∧ Below w.heap.size w w' := by
  have h0 : (s.size : Int) ≤ 2147483647 := by omega
  have HU := Lib.hid U
  have HR := Lib.hid R
  clear U R
  rcases hkb with ⟨rfl | rfl | rfl, rfl⟩ | ⟨rfl | rfl | rfl, rfl⟩
  all_goals
    go_enter Tryz.func3, Tryz.ntmps3
    go_wp2_with (first | (go_at_call 6; refine (form_any tag w).mono ?_; rintro e w' ⟨rfl, rfl⟩))
    refine (HU.out _).mono ?_
    rintro e w1 ⟨he, hb1⟩
    obtain ⟨k', x, ok, rfl, hm⟩ := meet_s he
    have HM := Lib.hid hm
    clear hm he
    unfold outV
    go_wp2_with fail
    refine (HR.out _).mono ?_
    rintro e w2 ⟨⟨n, told, rfl, hrw⟩, hb2⟩
    have HB := Lib.hid (chainL hb1 hb2)
    obtain ⟨HG, _, _⟩ := after_box hb2
    have hc := cell_blk HG (j := 2) rfl
    clear HG hb1 hb2
    rcases HM.out n told hrw with rfl | ⟨rfl, rfl, rfl⟩ | ⟨rfl, rfl⟩
    all_goals
      clear hrw
      go_wp2_with fail
      go_ret
      exact ⟨rfl, HB.out⟩

set_option maxHeartbeats 4000000 in
set_option maxRecDepth 100000 in
theorem law_u (s : ByteArray) (k bits : Int) (mx : Nat) (tag : Bool) (h : (s.size : Int) ≤ 100) (w : World)
    (hkb : ((k = 7 ∨ k = 13) ∧ bits = 32) ∨ ((k = 4 ∨ k = 6) ∧ bits = 64))
    (U : ∀ f, Calls Tryz.prog 5 #[.string s, .int .i64 k, .int .i64 f, .slice none 0 0, .slice none 0 0] w
      fun e w' => DU k (pu 0 mx s.data.toList) e ∧ Below w.heap.size w w')
    (R : ∀ w, Calls Tryz.prog 8 #[.string s, .int .i64 bits] w fun e w' => CountSays mx s.data.toList w e w') :
    Calls Tryz.prog 3 #[.string s, .int .i64 k, .bool tag] w fun e w' => e = .returned (.bool true) ∧ Below w.heap.size w w' := by
  have h0 : (s.size : Int) ≤ 2147483647 := by omega
  have HU := Lib.hid U
  have HR := Lib.hid R
  clear U R
  rcases hkb with ⟨rfl | rfl, rfl⟩ | ⟨rfl | rfl, rfl⟩
  all_goals
    go_enter Tryz.func3, Tryz.ntmps3
    go_wp2_with (first | (go_at_call 6; refine (form_any tag w).mono ?_; rintro e w' ⟨rfl, rfl⟩))
    refine (HU.out _).mono ?_
    rintro e w1 ⟨he, hb1⟩
    obtain ⟨k', x, ok, rfl, hm⟩ := meet_u he
    have HM := Lib.hid hm
    clear hm he
    unfold outV
    go_wp2_with fail
    refine (HR.out _).mono ?_
    rintro e w2 ⟨⟨n, told, rfl, hrw⟩, hb2⟩
    have HB := Lib.hid (chainL hb1 hb2)
    obtain ⟨HG, _, _⟩ := after_box hb2
    have hc := cell_blk HG (j := 3) rfl
    clear HG hb1 hb2
    rcases HM.out n told hrw with rfl | ⟨rfl, rfl, rfl⟩ | ⟨rfl, rfl⟩
    all_goals
      clear hrw
      go_wp2_with fail
      go_ret
      exact ⟨rfl, HB.out⟩

theorem law_all (s : ByteArray) (k : Int) (tag : Bool) (w : World) (he : Errs w) :
    Calls Tryz.prog 3 #[.string s, .int .i64 k, .bool tag] w fun e w' => e = .returned (.bool true) ∧ Below w.heap.size w w' := by
  by_cases hb : (2147483647 : Int) < s.size
  · exact law_big s k tag hb w
  · have hmax : s.size ≤ 140737488355328 := by omega
    have hn : ∀ {c : Int}, k ≠ c → (k == c) = false := fun h => beq_eq_false_iff_ne.2 h
    by_cases hk : k = 5 ∨ k = 15 ∨ k = 17 ∨ k = 3 ∨ k = 16 ∨ k = 18 ∨ k = 7 ∨ k = 13 ∨ k = 4 ∨ k = 6
    · by_cases hl : (100 : Int) < s.size
      · exact law_long s k tag (by omega) hl hk w
      · by_cases h1 : k = 5 ∨ k = 15 ∨ k = 17
        · exact law_s s k 32 _ _ tag (by omega) w (.inl ⟨h1, rfl⟩) (fun f => unm32 s k f h1 hmax w he) (fun w => read_whole s 32 _ _ (.inl ⟨rfl, rfl, rfl⟩) hmax w)
        · by_cases h2 : k = 3 ∨ k = 16 ∨ k = 18
          · exact law_s s k 64 _ _ tag (by omega) w (.inr ⟨h2, rfl⟩) (fun f => unm64 s k f h2 hmax w he) (fun w => read_whole s 64 _ _ (.inr ⟨rfl, rfl, rfl⟩) hmax w)
          · by_cases h3 : k = 7 ∨ k = 13
            · exact law_u s k 32 _ tag (by omega) w (.inl ⟨h3, rfl⟩) (fun f => unmu32 s k f h3 hmax w he) (fun w => read_count s 32 _ (.inl ⟨rfl, rfl⟩) hmax w)
            · exact law_u s k 64 _ tag (by omega) w (.inr ⟨by omega, rfl⟩) (fun f => unmu64 s k f (by omega) hmax w he) (fun w => read_count s 64 _ (.inr ⟨rfl, rfl⟩) hmax w)
    · exact law_other s k tag (by omega) (hn (by omega)) (hn (by omega)) (hn (by omega)) (hn (by omega)) (hn (by omega)) (hn (by omega)) (hn (by omega)) (hn (by omega)) (hn (by omega)) (hn (by omega)) w

end Go.Proofs.YtdcgoaikfbbneaaGreatDoor.ints
