/- strconv.ParseFloat at a text 0x.. of at most 16 digits and no power: no number. -/
import Derived.Test.YtpneioocmpagmaaGreatDoorNum
import Derived.Test.YtpneioocmpagmaaGreatDoorFe
import Derived.Test.YtpneioocmpagmaaGreatDoorFf
import Derived.Test.YtpneioocmpagmaaGreatDoorPp
import Derived.LaidEql
import Derived.Stop.LaidErr
namespace Go.Proofs.YtpneioocmpagmaaGreatDoor.hx
open Go.RowKit
open Go.Proofs.YtpneioocmpagmaaGreatDoor.pu Go.Proofs.YtpneioocmpagmaaGreatDoor.num Go.Proofs.YtpneioocmpagmaaGreatDoor.fl
set_option linter.unusedVariables false
set_option linter.unusedSimpArgs false

/-- A text 0x with 1 to 16 digits of base 16 behind it. -/
structure HexT (t : ByteArray) : Prop where
  h3 : 3 ≤ t.size
  h18 : t.size ≤ 18
  c0 : (t.data.toList.getD 0 0).toNat = 48
  c1 : (t.data.toList.getD 1 0).toNat = 120
  dig : ∀ j, 2 ≤ j → j < t.size → Hx (t.data.toList.getD j 0).toNat

theorem low_hex : ∀ n : Nat, n < 256 → Hx n → (48 ≤ n ∧ n ≤ 57) ∨ (¬ n ≤ 57 ∧ 97 ≤ low n ∧ low n ≤ 102) := by decide +kernel

set_option maxHeartbeats 400000000 in
set_option maxRecDepth 100000 in
theorem read_hex (t : ByteArray) (ht : HexT t) (w : World) :
    Calls Tryz.prog 201 #[.string t] w fun e w' => (∃ (m x : Int) (tr : Bool), e = .returned (.tuple #[.int .u64 m, .int .i64 x, .bool false, .bool tr, .bool true, .int .i64 (t.size : Int), .bool false])) ∧ w = w' := by
  have h3 := ht.h3
  have h18 := ht.h18
  have p1 : 0 < t.size := by omega
  have pe : ¬ t = ByteArray.empty := by rintro rfl; exact absurd p1 (by decide)
  have x0 : (t[0]'p1).toNat = 48 := by rw [at_get]; exact ht.c0
  have x1 : (t[1]'(by omega)).toNat = 120 := by rw [at_get]; exact ht.c1
  have HD : Hid (∀ (p : Nat) (h : p < t.size), 2 ≤ p → Hx (t[p]).toNat) := Lib.hid (fun p h hp => by rw [at_get]; exact ht.dig p hp h)
  have q0 : (0 : Int) < (t.size : Int) := by omega
  have q1 : (1 : Int) < (t.size : Int) := by omega
  have q2 : (2 : Int) < (t.size : Int) := by omega
  have e1 : (((t[0]'p1).toNat : Int) == 43) = false := by rw [x0]; rfl
  have e2 : (((t[0]'p1).toNat : Int) == 45) = false := by rw [x0]; rfl
  have e3 : (((t[0]'p1).toNat : Int) == 48) = true := by rw [x0]; rfl
  have o1 : bits .or .u8 ((t[1]'(by omega)).toNat : Int) 32 = 120 := by rw [x1]; decide
  clear x0 x1 ht
  go_enter Tryz.func201, Tryz.ntmps201
  go_wp2_with (go_at_call 141; refine (lower_any _ _).mono ?_; rintro e w' ⟨rfl, rfl⟩)
  go_step3
  go_wp2_with (go_at_call 141; refine (lower_any _ _).mono ?_; rintro e w' ⟨rfl, rfl⟩)
  go_step3
  go_wp2_with fail
  go_loop [2, 5, 7, 9, 13, 14, 15, 16, 17] (fun v2 v5 v7 v9 v13 v14 v15 v16 v17 => ∃ (p m nd ndm : Nat) (dp : Int) (tr dig : Bool), 2 ≤ p ∧ p ≤ t.size ∧ ndm ≤ nd ∧ nd ≤ p - 2 ∧ -((p - 2 : Nat) : Int) ≤ dp ∧ dp ≤ 0 ∧ m < 16 ^ ndm ∧ (2 < p → dig = true) ∧ v2 = .int .u64 (m : Int) ∧ v5 = .bool tr ∧ v7 = .int .i64 (p : Int) ∧ v9 = .bool false ∧ v13 = .bool false ∧ v14 = .bool dig ∧ v15 = .int .i64 (nd : Int) ∧ v16 = .int .i64 (ndm : Int) ∧ v17 = .int .i64 dp)
    (fun _ _ v7 _ _ _ _ _ _ => t.size - (intOf v7).toNat)
  case atStart => exact ⟨2, 0, 0, 0, 0, false, false, Nat.le_refl _, by omega, Nat.le_refl _, by omega, by omega, by omega, by decide, fun h => absurd h (by omega), rfl, rfl, rfl, rfl, rfl, rfl, rfl, rfl, rfl⟩
  case round => as_aux_lemma =>
    obtain ⟨p, m, nd, ndm, dp, tr, dig, hp0, hp1, k1, k2, k3, k4, hm, hdig, rfl, rfl, rfl, rfl, rfl, rfl, rfl, rfl, rfl⟩ := hrel
    have q3 : (0 : Int) ≤ (p : Int) := by omega
    have m0 : (0 : Int) ≤ (m : Int) := by omega
    rcases Nat.lt_or_ge p t.size with hpt | hpt
    · have hpt' : (p : Int) < (t.size : Int) := by omega
      have hx := HD.out p hpt hp0
      have hm16 : m < 1152921504606846976 := Nat.lt_of_lt_of_le hm (Nat.le_trans (Nat.pow_le_pow_right (by omega) (show ndm ≤ 15 by omega)) (by decide))
      have HM1 : Hid (∀ d, d < 16 → m * 16 + d < 16 ^ (ndm + 1)) := Lib.hid (fun d hd => by rw [Nat.pow_succ]; omega)
      have HK : Hid (ndm ≤ 15 ∧ ndm ≤ nd ∧ nd ≤ p - 2 ∧ -((p - 2 : Nat) : Int) ≤ dp ∧ dp ≤ 0 ∧ m < 16 ^ ndm ∧ 2 ≤ p ∧ p < t.size) := Lib.hid ⟨by omega, k1, k2, k3, k4, hm, hp0, hpt⟩
      have n16 : (ndm : Int) < 16 := by omega
      have nd0 : (nd : Int) ≤ 100 := by omega
      have dp0 : (-100 : Int) ≤ dp := by omega
      have p100 : (p : Int) ≤ 100 := by omega
      have HMS : Hid (t.size - (p + 1) < t.size - p) := Lib.hid (by omega)
      have o2 := or32 (t[p]).toNat (t[p]).toNat_lt
      rcases low_hex _ (t[p]).toNat_lt hx with ⟨c0, c1⟩ | ⟨c0, c1, c2⟩
      · obtain ⟨c, hc⟩ : ∃ c, c = (t[p]).toNat := ⟨_, rfl⟩
        rw [← hc] at c0 c1
        have hci : (((t[p]).toNat : Nat) : Int) = (c : Int) := by rw [hc]
        have e95 : ((c : Int) == 95) = false := by rw [beq_eq_false_iff_ne]; omega
        have e46 : ((c : Int) == 46) = false := by rw [beq_eq_false_iff_ne]; omega
        have i0 : (48 : Int) ≤ (c : Int) := by omega
        have i1 : (c : Int) ≤ 57 := by omega
        clear hm hdig o2 hx k1 k2 k3 hc
        by_cases hz : c = 48 ∧ nd = 0
        · obtain ⟨rfl, rfl⟩ := hz
          have e48 : (((48 : Nat) : Int) == 48) = true := rfl
          have z0 : (((0 : Nat) : Int) == 0) = true := rfl
          go_wp2_with fail
          exact ⟨⟨p + 1, m, 0, ndm, dp - 1, tr, true, by omega, by omega, HK.out.2.1, Nat.zero_le _, by have := HK.out; omega, by have := HK.out; omega, HK.out.2.2.2.2.2.1, fun _ => rfl, rfl, rfl, by go_num, rfl, rfl, rfl, rfl, rfl, rfl⟩, by simp [intOf]; exact HMS.out⟩
        · have HM2 := Lib.hid (HM1.out (c - 48) (by omega))
          have HV : Hid (Value.int .u64 ((m : Int) * 16 + ((c : Int) - 48)) = Value.int .u64 ((m * 16 + (c - 48) : Nat) : Int)) := Lib.hid (by congr 1; omega)
          by_cases h48 : c = 48
          · have e48 : ((c : Int) == 48) = true := by rw [h48]; rfl
            have z0 : ((nd : Int) == 0) = false := by rw [beq_eq_false_iff_ne]; omega
            clear hz h48
            go_wp2_with fail
            exact ⟨⟨p + 1, m * 16 + (c - 48), nd + 1, ndm + 1, dp, tr, true, by omega, by omega, by have := HK.out; omega, by have := HK.out; omega, by have := HK.out; omega, HK.out.2.2.2.2.1, HM2.out, fun _ => rfl, HV.out, rfl, by go_num, rfl, rfl, rfl, by go_num, by go_num, rfl⟩, by simp [intOf]; exact HMS.out⟩
          · have e48 : ((c : Int) == 48) = false := by rw [beq_eq_false_iff_ne]; omega
            clear hz h48
            go_wp2_with fail
            exact ⟨⟨p + 1, m * 16 + (c - 48), nd + 1, ndm + 1, dp, tr, true, by omega, by omega, by have := HK.out; omega, by have := HK.out; omega, by have := HK.out; omega, HK.out.2.2.2.2.1, HM2.out, fun _ => rfl, HV.out, rfl, by go_num, rfl, rfl, rfl, by go_num, by go_num, rfl⟩, by simp [intOf]; exact HMS.out⟩
      · obtain ⟨c, hc⟩ : ∃ c, c = (t[p]).toNat := ⟨_, rfl⟩
        rw [← hc] at c0 c1 c2 o2
        have hci : (((t[p]).toNat : Nat) : Int) = (c : Int) := by rw [hc]
        have e95 : ((c : Int) == 95) = false := by
          rw [beq_eq_false_iff_ne]
          intro h
          have : c = 95 := by omega
          subst this
          revert c1 c2; decide
        have e46 : ((c : Int) == 46) = false := by rw [beq_eq_false_iff_ne]; omega
        have i1 : ¬ (c : Int) ≤ 57 := by omega
        obtain ⟨lw, hlw⟩ : ∃ lw, lw = low c := ⟨_, rfl⟩
        rw [← hlw] at c1 c2 o2
        have j0 : (97 : Int) ≤ (lw : Int) := by omega
        have j1 : (lw : Int) ≤ 102 := by omega
        have i0 : (48 : Int) ≤ (c : Int) := by omega
        have HM2 := Lib.hid (HM1.out (lw - 97 + 10) (by omega))
        have HV : Hid (Value.int .u64 ((m : Int) * 16 + ((lw : Int) - 97 + 10)) = Value.int .u64 ((m * 16 + (lw - 97 + 10) : Nat) : Int)) := Lib.hid (by congr 1; omega)
        clear hm hdig hx k1 k2 k3 hc hlw c0 c1 c2
        go_wp2_with (go_at_call 141; refine (lower_any _ _).mono ?_; rintro e w' ⟨rfl, rfl⟩)
        exact ⟨⟨p + 1, m * 16 + (lw - 97 + 10), nd + 1, ndm + 1, dp, tr, true, by omega, by omega, by have := HK.out; omega, by have := HK.out; omega, by have := HK.out; omega, HK.out.2.2.2.2.1, HM2.out, fun _ => rfl, HV.out, rfl, by go_num, rfl, rfl, rfl, by go_num, by go_num, rfl⟩, by simp [intOf]; exact HMS.out⟩
    · obtain rfl : p = t.size := by omega
      obtain rfl : dig = true := hdig (by omega)
      have n16 : (ndm : Int) ≤ 100 := by omega
      have nd0 : (nd : Int) ≤ 100 := by omega
      have hpt' : ¬ (t.size : Int) < (t.size : Int) := by omega
      clear hm hdig k1 k2 k3 k4
      go_wp2_with fail
      refine bodyPost_ret (v := .tuple #[.int .u64 (m : Int), .int .i64 0, .bool false, .bool tr, .bool true, .int .i64 (t.size : Int), .bool false]) (by simp [results, Tryz.results201, go_sem]) rfl ⟨⟨_, _, _, rfl⟩, rfl⟩

theorem hex_num1 {t : ByteArray} (h : HexT t) : Num1 t := ⟨0, by omega, by have := h.h3; omega, fun h => by omega, by rw [h.c0]; decide, by rw [h.c0]; decide⟩

def ASyn (t : ByteArray) (e : Ending) : Prop := e = .returned (.tuple #[.float .f64 0, .int .i64 (t.size : Int), .iface 198 (.int .i64 2)])

set_option maxRecDepth 100000 in
set_option maxHeartbeats 4000000 in
theorem atof64_hex (t : ByteArray) (ht : HexT t) (w : World) :
    Calls Tryz.prog 176 #[.string t] w fun e w' => ASyn t e ∧ w = w' := by
  have HSP := Lib.hid (fun w => special_no t (by have := ht.h18; omega) (hex_num1 ht) w)
  have HRF := Lib.hid (fun w => read_hex t ht w)
  clear ht
  go_enter Tryz.func176, Tryz.ntmps176
  go_wp2_with (first | ((with_reducible refine (HSP.out _).mono ?_); rintro e w' ⟨rfl, rfl⟩) | ((with_reducible refine (HRF.out _).mono ?_); rintro e w' ⟨⟨m, x, tr, rfl⟩, rfl⟩))
  go_ret3
  exact ⟨rfl, rfl⟩

def PSyn (e : Ending) : Prop := e = .returned (.tuple #[.float .f64 0, .iface 198 (.int .i64 2)])

set_option maxHeartbeats 1000000 in
theorem inner_hex (t : ByteArray) (ht : HexT t) (w : World) :
    Calls Tryz.prog 122 #[.string t, .int .i64 64] w fun e w' => PSyn e ∧ w = w' := by
  have hts : ((t.size : Int) != (t.size : Int)) = false := by simp
  have H := Lib.hid (atof64_hex t ht w)
  clear ht
  go_enter Tryz.func122, Tryz.ntmps122
  go_wp2_with (first | (go_at_call 153; go_in) | fail)
  refine H.out.mono ?_
  rintro e w' ⟨rfl, rfl⟩
  go_wp2_with fail
  go_ret2
  exact ⟨rfl, rfl⟩

/-- The two sentinels of strconv are errors by pointer. -/
def ErrsB (w : World) : Prop := (∃ a cs t, w.cell? ⟨6, 0, none⟩ = some (.iface 254 (.pointer (some a))) ∧ w.heap[a.block]? = some (.cells cs t (0, 0))) ∧
  ∃ a cs t, w.cell? ⟨2, 0, none⟩ = some (.iface 254 (.pointer (some a))) ∧ w.heap[a.block]? = some (.cells cs t (0, 0))

theorem ErrsB.errs {w : World} (h : ErrsB w) : Errs w := by
  obtain ⟨⟨a, _, _, h1, _⟩, ⟨b, _, _, h2, _⟩⟩ := h
  exact ⟨⟨_, _, h1⟩, ⟨_, _, h2⟩⟩

theorem ErrsB.below {w w' : World} (h : ErrsB w) (hb : Below w.heap.size w w') : ErrsB w' := by
  obtain ⟨⟨a, c, t, h1, k1⟩, ⟨b, d, u, h2, k2⟩⟩ := h
  exact ⟨⟨a, c, t, (hb.cell (lt_of_cell h1)).trans h1, (hb.block _ (Array.getElem?_eq_some_iff.1 k1).1).trans k1⟩, ⟨b, d, u, (hb.cell (lt_of_cell h2)).trans h2, (hb.block _ (Array.getElem?_eq_some_iff.1 k2).1).trans k2⟩⟩

/-- strconv.ParseFloat ends with a NumError of ErrSyntax. -/
def PFs (fn t : ByteArray) (w : World) (e : Ending) (w' : World) : Prop := ∃ N ev, e = .returned (.tuple #[.float .f64 0, .iface 152 (.pointer (some ⟨N, 0, none⟩))]) ∧ w.heap.size ≤ N ∧ w'.heap[N]? = some (.cells #[.string fn, .string t, ev] 154 (0, 0)) ∧ w.cell? ⟨6, 0, none⟩ = some ev

set_option maxHeartbeats 1000000 in
theorem parse_float_hex (t : ByteArray) (ht : HexT t) (w : World) (he : ErrsB w) :
    Calls Tryz.prog 89 #[.string t, .int .i64 64] w fun e w' => PFs ⟨#[80, 97, 114, 115, 101, 70, 108, 111, 97, 116]⟩ t w e w' ∧ Below w.heap.size w w' := by
  have H := Lib.hid (inner_hex t ht w)
  obtain ⟨⟨a, c, ty, h1, k1⟩, _⟩ := he
  have HT := Lib.hid (Tryz.strconv_toError_syntax ⟨#[80, 97, 114, 115, 101, 70, 108, 111, 97, 116]⟩ t 0 64 _ w (by have := ht.h18; omega) h1 (.inr ⟨_, _, rfl⟩))
  have H1 := Lib.hid h1
  clear ht h1 k1
  go_enter Tryz.func89, Tryz.ntmps89
  go_wp2_with fail
  refine H.out.mono ?_
  rintro e w' ⟨rfl, rfl⟩
  go_wp2_with ((with_reducible refine HT.out.mono ?_); rintro e w2 ⟨N, rfl, hN, hblk, hb2⟩)
  go_ret2
  exact ⟨⟨N, _, rfl, hN, hblk, H1.out⟩, hb2⟩

end Go.Proofs.YtpneioocmpagmaaGreatDoor.hx

