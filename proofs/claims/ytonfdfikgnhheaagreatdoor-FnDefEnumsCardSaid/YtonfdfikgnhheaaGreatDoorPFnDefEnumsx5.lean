-- PRINTED BY print.sh 35421559b90ae4d0a3588c463048766b98c2df88dd9212a6774a882060cdf62d: not written by this session
import Derived.Test.YtonfdfikgnhheaaGreatDoorPFnDefEnumsx0
import Derived.Test.YtonfdfikgnhheaaGreatDoorPFnDefEnumsx4
namespace Go.Proofs.YtonfdfikgnhheaaGreatDoor.PFnDefEnums
open Go.RowKit Go.Proofs.YtonfdfikgnhheaaGreatDoorW.PrintWords Go.Proofs.YtonfdfikgnhheaaGreatDoorW.PrintLast Go.Proofs.YtonfdfikgnhheaaGreatDoorW.PrintMore
attribute [local go_sem] max2_int min2_int max_two min_two max_three min_three max_four min_four   -- for this text's walks alone
set_option linter.unusedVariables false
set_option linter.unusedSimpArgs false

/-! ### laws_ident: function 22 -/
def laws_ident.l0 : Nat → ByteArray → ByteArray → Int → Option (ByteArray)
  | 0, _, _, _ => none
  | k + 1, x0, x3, x4 => if x4 < (x0.size : Int) then (if 0 ≤ x4 then ((laws_letter.f (bt x0 x4)).bind fun t111 => (if t111 = true then (if x4 ≤ (wrap64 (x4 + 1)) then (if (wrap64 (x4 + 1)) ≤ (x0.size : Int) then (if x3.size + (x0.extract (x4 : Int).toNat ((wrap64 (x4 + 1)) : Int).toNat).size ≤ 9223372036854775807 then (laws_ident.l0 k x0 (x3 ++ (x0.extract (x4 : Int).toNat ((wrap64 (x4 + 1)) : Int).toNat)) (wrap64 (x4 + 1))) else (none)) else (none)) else (none)) else (if (bt x0 x4) ≥ 48 then (if (bt x0 x4) ≤ 57 then (if x4 ≤ (wrap64 (x4 + 1)) then (if (wrap64 (x4 + 1)) ≤ (x0.size : Int) then (if x3.size + (x0.extract (x4 : Int).toNat ((wrap64 (x4 + 1)) : Int).toNat).size ≤ 9223372036854775807 then (laws_ident.l0 k x0 (x3 ++ (x0.extract (x4 : Int).toNat ((wrap64 (x4 + 1)) : Int).toNat)) (wrap64 (x4 + 1))) else (none)) else (none)) else (none)) else (laws_ident.l0 k x0 x3 (wrap64 (x4 + 1)))) else (laws_ident.l0 k x0 x3 (wrap64 (x4 + 1)))))) else (none)) else (some x3)
def laws_ident.f (k : Nat) (a0 : ByteArray) : Option (ByteArray) := laws_ident.l0 k a0 (⟨#[110]⟩ : ByteArray) 0
theorem laws_ident.mono_l : ∀ k, (∀ y0 y1 y2, LeO (laws_ident.l0 k y0 y1 y2) (laws_ident.l0 (k + 1) y0 y1 y2))
  | 0 => fun _ _ _ r h => by simp [laws_ident.l0] at h
  | k + 1 => by
    have ih0 := laws_ident.mono_l k
    · intro y0 y1 y2
      unfold laws_ident.l0
      repeat' first
      | (with_reducible exact ih0 _ _ _)
      | (with_reducible exact LeO.refl _)
      | (with_reducible exact LeO.none _)
      | (with_reducible refine LeO.ite ?_ ?_)
      | (with_reducible refine LeO.bind ?_ (fun _ => ?_))
      | exact ih0 _ _ _
      | exact LeO.none _
      | refine LeO.ite ?_ ?_
      | refine LeO.bind ?_ (fun _ => ?_)
theorem laws_ident.mono : ∀ a0 k, LeO (laws_ident.f k a0) (laws_ident.f (k + 1) a0) := by
  intro a0 k
  have ih0 := laws_ident.mono_l k
  unfold laws_ident.f
  repeat' first
      | (with_reducible exact ih0 _ _ _)
      | (with_reducible exact LeO.refl _)
      | (with_reducible exact LeO.none _)
      | (with_reducible refine LeO.ite ?_ ?_)
      | (with_reducible refine LeO.bind ?_ (fun _ => ?_))
      | exact ih0 _ _ _
      | exact LeO.none _
      | refine LeO.ite ?_ ?_
      | refine LeO.bind ?_ (fun _ => ?_)
set_option maxHeartbeats 8000000 in
set_option maxRecDepth 100000 in
theorem laws_ident.calls (k : Nat) (a0 : ByteArray) (r : ByteArray) (w : World) (h : laws_ident.f k a0 = some r) :
    Calls Tryz.prog 22 #[.string a0] w fun e w' => e = .returned (.string r) ∧ Drawn0 w w' := by
  have H : (laws_ident.l0 k a0 (⟨#[110]⟩ : ByteArray) 0) = some r := h
  clear h
  have H' := Aside0.mk H
  clear H
  go_enter Tryz.func22, Tryz.ntmps22
  go_wp2
  go_loopg [3, 4] k (fun kq v3 v4 w' => ∃ (x3_1 : ByteArray) (x4_1 : Int), v3 = .string x3_1 ∧ v4 = .int .i64 x4_1 ∧ Aside0 (laws_ident.l0 kq a0 x3_1 x4_1 = some r) ∧ Aside0 (kq ≤ k) ∧ Drawn0 w w')
  case atStart => exact ⟨((⟨#[110]⟩ : ByteArray)), (0), (by first | rfl | (simp; done) | (simp [*]; done)), (by first | rfl | (simp; done) | (simp [*]; done)), H', ⟨Nat.le_refl _⟩, by repeat (first | exact Drawn0.refl _ | apply Drawn0.step)⟩
  case round =>
    clear H'
    obtain ⟨x3_1, x4_1, rfl, rfl, HA, HK1, ⟨m1, rfl⟩⟩ := hrel
    cases gk with
    | zero => exact absurd HA.out (by simp [laws_ident.l0])
    | succ k1 =>
      have H := HA.out
      clear HA
      simp only [laws_ident.l0] at H
      by_cases c2 : x4_1 < (a0.size : Int)
      · rw [if_pos c2] at H
        have c2b0 : decide (x4_1 < (a0.size : Int)) = true := decide_eq_true c2
        clear c2
        by_cases c3 : 0 ≤ x4_1
        · rw [if_pos c3] at H
          have c3b0 : decide (0 ≤ x4_1) = true := decide_eq_true c3
          clear c3
          replace H := Option.bind_eq_some_iff.mp H
          obtain ⟨t111, A50, H⟩ := H
          replace H : (if t111 = true then (if x4_1 ≤ (wrap64 (x4_1 + 1)) then (if (wrap64 (x4_1 + 1)) ≤ (a0.size : Int) then (if x3_1.size + (a0.extract (x4_1 : Int).toNat ((wrap64 (x4_1 + 1)) : Int).toNat).size ≤ 9223372036854775807 then (laws_ident.l0 k1 a0 (x3_1 ++ (a0.extract (x4_1 : Int).toNat ((wrap64 (x4_1 + 1)) : Int).toNat)) (wrap64 (x4_1 + 1))) else (none)) else (none)) else (none)) else (if (bt a0 x4_1) ≥ 48 then (if (bt a0 x4_1) ≤ 57 then (if x4_1 ≤ (wrap64 (x4_1 + 1)) then (if (wrap64 (x4_1 + 1)) ≤ (a0.size : Int) then (if x3_1.size + (a0.extract (x4_1 : Int).toNat ((wrap64 (x4_1 + 1)) : Int).toNat).size ≤ 9223372036854775807 then (laws_ident.l0 k1 a0 (x3_1 ++ (a0.extract (x4_1 : Int).toNat ((wrap64 (x4_1 + 1)) : Int).toNat)) (wrap64 (x4_1 + 1))) else (none)) else (none)) else (none)) else (laws_ident.l0 k1 a0 x3_1 (wrap64 (x4_1 + 1)))) else (laws_ident.l0 k1 a0 x3_1 (wrap64 (x4_1 + 1))))) = some r := H
          have A5 := Aside0.mk A50
          clear A50
          by_cases c6 : t111 = true
          · subst c6
            have H1 : (if x4_1 ≤ (wrap64 (x4_1 + 1)) then (if (wrap64 (x4_1 + 1)) ≤ (a0.size : Int) then (if x3_1.size + (a0.extract (x4_1 : Int).toNat ((wrap64 (x4_1 + 1)) : Int).toNat).size ≤ 9223372036854775807 then (laws_ident.l0 k1 a0 (x3_1 ++ (a0.extract (x4_1 : Int).toNat ((wrap64 (x4_1 + 1)) : Int).toNat)) (wrap64 (x4_1 + 1))) else (none)) else (none)) else (none)) = some r := by rw [if_pos rfl] at H; exact H
            clear H
            have H := H1
            clear H1
            have c7b0 := eq_true (of_decide_eq_true (by first | (with_reducible assumption) | assumption) : 0 ≤ x4_1)
            by_cases c8 : x4_1 ≤ (wrap64 (x4_1 + 1))
            · rw [if_pos c8] at H
              have c8b0 := eq_true c8
              have c8b1 : decide (x4_1 ≤ (wrap64 (x4_1 + 1))) = true := decide_eq_true c8
              by_cases c9 : (wrap64 (x4_1 + 1)) ≤ (a0.size : Int)
              · rw [if_pos c9] at H
                have c9b0 := eq_true c9
                have c9b1 : decide ((wrap64 (x4_1 + 1)) ≤ (a0.size : Int)) = true := decide_eq_true c9
                by_cases c10 : x3_1.size + (a0.extract (x4_1 : Int).toNat ((wrap64 (x4_1 + 1)) : Int).toNat).size ≤ 9223372036854775807
                · rw [if_pos c10] at H
                  have c10b0 := eq_true c10
                  have c10b1 : decide (x3_1.size + (a0.extract (x4_1 : Int).toNat ((wrap64 (x4_1 + 1)) : Int).toNat).size ≤ 9223372036854775807) = true := decide_eq_true c10
                  try have c10b2 : (9223372036854775807 < x3_1.size + (a0.extract (x4_1 : Int).toNat ((wrap64 (x4_1 + 1)) : Int).toNat).size) = False := eq_false (Nat.not_lt.2 c10)
                  have H' := Aside0.mk H
                  clear H
                  have p4 : 0 ≤ (x4_1 : Int) := of_decide_eq_true (by first | (with_reducible assumption) | assumption)
                  have q4 : x4_1 < (a0.size : Int) := of_decide_eq_true (by first | (with_reducible assumption) | assumption)
                  have hx4 := bt_at a0 x4_1
                  replace p4 := eq_true p4
                  replace q4 := eq_true q4
                  go_wp2_with (first | ((with_reducible refine gate_callee (f := 42) rfl ?_); refine goesL_ (some 14) rfl rfl Tryz.func42 (by kernel_rfl) rfl #[.int .u8 (bt a0 x4_1)] rfl (by (try simp only [List.map_toArray, List.map_cons, List.map_nil]); first | done | rfl | (simp only [List.length_drop, List.length_take]; rfl)) ?_; (with_reducible refine (laws_letter.calls (bt a0 x4_1) true _ A5.out).mono ?_); rintro e w' ⟨rfl, ⟨nd, rfl⟩⟩; refine ⟨_, rfl, ?_⟩))
                  go_roundg k1
                  case measure => have := HK1.out; omega
                  case rel => exact ⟨(x3_1 ++ (a0.extract (x4_1 : Int).toNat ((wrap64 (x4_1 + 1)) : Int).toNat)), (wrap64 (x4_1 + 1)), (by first | rfl | (simp; done) | (simp [*]; done)), (by first | rfl | (simp; done) | (simp [*]; done)), H', ⟨by have := HK1.out; omega⟩, by repeat (first | exact Drawn0.refl _ | apply Drawn0.step)⟩
                · rw [if_neg c10] at H
                  exact absurd H (by simp)
              · rw [if_neg c9] at H
                exact absurd H (by simp)
            · rw [if_neg c8] at H
              exact absurd H (by simp)
          · replace c6 := Bool.eq_false_iff.mpr c6
            subst c6
            have H1 : (if (bt a0 x4_1) ≥ 48 then (if (bt a0 x4_1) ≤ 57 then (if x4_1 ≤ (wrap64 (x4_1 + 1)) then (if (wrap64 (x4_1 + 1)) ≤ (a0.size : Int) then (if x3_1.size + (a0.extract (x4_1 : Int).toNat ((wrap64 (x4_1 + 1)) : Int).toNat).size ≤ 9223372036854775807 then (laws_ident.l0 k1 a0 (x3_1 ++ (a0.extract (x4_1 : Int).toNat ((wrap64 (x4_1 + 1)) : Int).toNat)) (wrap64 (x4_1 + 1))) else (none)) else (none)) else (none)) else (laws_ident.l0 k1 a0 x3_1 (wrap64 (x4_1 + 1)))) else (laws_ident.l0 k1 a0 x3_1 (wrap64 (x4_1 + 1)))) = some r := by rw [if_neg (show ¬ (false = true) by decide)] at H; exact H
            clear H
            have H := H1
            clear H1
            by_cases c12 : (bt a0 x4_1) ≥ 48
            · rw [if_pos c12] at H
              have c12b0 : decide (48 ≤ (bt a0 x4_1)) = true := decide_eq_true c12
              clear c12
              by_cases c14 : (bt a0 x4_1) ≤ 57
              · rw [if_pos c14] at H
                have c14b0 : decide ((bt a0 x4_1) ≤ 57) = true := decide_eq_true c14
                clear c14
                have c15b0 := eq_true (of_decide_eq_true (by first | (with_reducible assumption) | assumption) : 0 ≤ x4_1)
                by_cases c16 : x4_1 ≤ (wrap64 (x4_1 + 1))
                · rw [if_pos c16] at H
                  have c16b0 := eq_true c16
                  have c16b1 : decide (x4_1 ≤ (wrap64 (x4_1 + 1))) = true := decide_eq_true c16
                  by_cases c17 : (wrap64 (x4_1 + 1)) ≤ (a0.size : Int)
                  · rw [if_pos c17] at H
                    have c17b0 := eq_true c17
                    have c17b1 : decide ((wrap64 (x4_1 + 1)) ≤ (a0.size : Int)) = true := decide_eq_true c17
                    by_cases c18 : x3_1.size + (a0.extract (x4_1 : Int).toNat ((wrap64 (x4_1 + 1)) : Int).toNat).size ≤ 9223372036854775807
                    · rw [if_pos c18] at H
                      have c18b0 := eq_true c18
                      have c18b1 : decide (x3_1.size + (a0.extract (x4_1 : Int).toNat ((wrap64 (x4_1 + 1)) : Int).toNat).size ≤ 9223372036854775807) = true := decide_eq_true c18
                      try have c18b2 : (9223372036854775807 < x3_1.size + (a0.extract (x4_1 : Int).toNat ((wrap64 (x4_1 + 1)) : Int).toNat).size) = False := eq_false (Nat.not_lt.2 c18)
                      have H' := Aside0.mk H
                      clear H
                      have p4 : 0 ≤ (x4_1 : Int) := of_decide_eq_true (by first | (with_reducible assumption) | assumption)
                      have q4 : x4_1 < (a0.size : Int) := of_decide_eq_true (by first | (with_reducible assumption) | assumption)
                      have hx4 := bt_at a0 x4_1
                      replace p4 := eq_true p4
                      replace q4 := eq_true q4
                      go_wp2_with (first | ((with_reducible refine gate_callee (f := 42) rfl ?_); refine goesL_ (some 14) rfl rfl Tryz.func42 (by kernel_rfl) rfl #[.int .u8 (bt a0 x4_1)] rfl (by (try simp only [List.map_toArray, List.map_cons, List.map_nil]); first | done | rfl | (simp only [List.length_drop, List.length_take]; rfl)) ?_; (with_reducible refine (laws_letter.calls (bt a0 x4_1) false _ A5.out).mono ?_); rintro e w' ⟨rfl, ⟨nd, rfl⟩⟩; refine ⟨_, rfl, ?_⟩; have p11 : 0 ≤ (x4_1 : Int) := of_decide_eq_true (by first | (with_reducible assumption) | assumption); have q11 : x4_1 < (a0.size : Int) := of_decide_eq_true (by first | (with_reducible assumption) | assumption); have hx11 := bt_at a0 x4_1; replace p11 := eq_true p11; replace q11 := eq_true q11; have p13 : 0 ≤ (x4_1 : Int) := of_decide_eq_true (by first | (with_reducible assumption) | assumption); have q13 : x4_1 < (a0.size : Int) := of_decide_eq_true (by first | (with_reducible assumption) | assumption); have hx13 := bt_at a0 x4_1; replace p13 := eq_true p13; replace q13 := eq_true q13))
                      go_roundg k1
                      case measure => have := HK1.out; omega
                      case rel => exact ⟨(x3_1 ++ (a0.extract (x4_1 : Int).toNat ((wrap64 (x4_1 + 1)) : Int).toNat)), (wrap64 (x4_1 + 1)), (by first | rfl | (simp; done) | (simp [*]; done)), (by first | rfl | (simp; done) | (simp [*]; done)), H', ⟨by have := HK1.out; omega⟩, by repeat (first | exact Drawn0.refl _ | apply Drawn0.step)⟩
                    · rw [if_neg c18] at H
                      exact absurd H (by simp)
                  · rw [if_neg c17] at H
                    exact absurd H (by simp)
                · rw [if_neg c16] at H
                  exact absurd H (by simp)
              · rw [if_neg c14] at H
                have c14b0 : decide ((bt a0 x4_1) ≤ 57) = false := decide_eq_false c14
                clear c14
                have H' := Aside0.mk H
                clear H
                have p4 : 0 ≤ (x4_1 : Int) := of_decide_eq_true (by first | (with_reducible assumption) | assumption)
                have q4 : x4_1 < (a0.size : Int) := of_decide_eq_true (by first | (with_reducible assumption) | assumption)
                have hx4 := bt_at a0 x4_1
                replace p4 := eq_true p4
                replace q4 := eq_true q4
                go_wp2_with (first | ((with_reducible refine gate_callee (f := 42) rfl ?_); refine goesL_ (some 14) rfl rfl Tryz.func42 (by kernel_rfl) rfl #[.int .u8 (bt a0 x4_1)] rfl (by (try simp only [List.map_toArray, List.map_cons, List.map_nil]); first | done | rfl | (simp only [List.length_drop, List.length_take]; rfl)) ?_; (with_reducible refine (laws_letter.calls (bt a0 x4_1) false _ A5.out).mono ?_); rintro e w' ⟨rfl, ⟨nd, rfl⟩⟩; refine ⟨_, rfl, ?_⟩; have p11 : 0 ≤ (x4_1 : Int) := of_decide_eq_true (by first | (with_reducible assumption) | assumption); have q11 : x4_1 < (a0.size : Int) := of_decide_eq_true (by first | (with_reducible assumption) | assumption); have hx11 := bt_at a0 x4_1; replace p11 := eq_true p11; replace q11 := eq_true q11; have p13 : 0 ≤ (x4_1 : Int) := of_decide_eq_true (by first | (with_reducible assumption) | assumption); have q13 : x4_1 < (a0.size : Int) := of_decide_eq_true (by first | (with_reducible assumption) | assumption); have hx13 := bt_at a0 x4_1; replace p13 := eq_true p13; replace q13 := eq_true q13))
                go_roundg k1
                case measure => have := HK1.out; omega
                case rel => exact ⟨(x3_1), (wrap64 (x4_1 + 1)), (by first | rfl | (simp; done) | (simp [*]; done)), (by first | rfl | (simp; done) | (simp [*]; done)), H', ⟨by have := HK1.out; omega⟩, by repeat (first | exact Drawn0.refl _ | apply Drawn0.step)⟩
            · rw [if_neg c12] at H
              have c12b0 : decide (48 ≤ (bt a0 x4_1)) = false := decide_eq_false c12
              clear c12
              have H' := Aside0.mk H
              clear H
              have p4 : 0 ≤ (x4_1 : Int) := of_decide_eq_true (by first | (with_reducible assumption) | assumption)
              have q4 : x4_1 < (a0.size : Int) := of_decide_eq_true (by first | (with_reducible assumption) | assumption)
              have hx4 := bt_at a0 x4_1
              replace p4 := eq_true p4
              replace q4 := eq_true q4
              go_wp2_with (first | ((with_reducible refine gate_callee (f := 42) rfl ?_); refine goesL_ (some 14) rfl rfl Tryz.func42 (by kernel_rfl) rfl #[.int .u8 (bt a0 x4_1)] rfl (by (try simp only [List.map_toArray, List.map_cons, List.map_nil]); first | done | rfl | (simp only [List.length_drop, List.length_take]; rfl)) ?_; (with_reducible refine (laws_letter.calls (bt a0 x4_1) false _ A5.out).mono ?_); rintro e w' ⟨rfl, ⟨nd, rfl⟩⟩; refine ⟨_, rfl, ?_⟩; have p11 : 0 ≤ (x4_1 : Int) := of_decide_eq_true (by first | (with_reducible assumption) | assumption); have q11 : x4_1 < (a0.size : Int) := of_decide_eq_true (by first | (with_reducible assumption) | assumption); have hx11 := bt_at a0 x4_1; replace p11 := eq_true p11; replace q11 := eq_true q11))
              go_roundg k1
              case measure => have := HK1.out; omega
              case rel => exact ⟨(x3_1), (wrap64 (x4_1 + 1)), (by first | rfl | (simp; done) | (simp [*]; done)), (by first | rfl | (simp; done) | (simp [*]; done)), H', ⟨by have := HK1.out; omega⟩, by repeat (first | exact Drawn0.refl _ | apply Drawn0.step)⟩
        · rw [if_neg c3] at H
          exact absurd H (by simp)
      · rw [if_neg c2] at H
        have c2b0 : decide (x4_1 < (a0.size : Int)) = false := decide_eq_false c2
        clear c2
        obtain rfl := Option.some.inj H
        go_wp2
        go_ret
        exact ⟨by first | rfl | (simp; done) | (simp [*]; done), by repeat (first | exact Drawn0.refl _ | apply Drawn0.step)⟩

end Go.Proofs.YtonfdfikgnhheaaGreatDoor.PFnDefEnums
