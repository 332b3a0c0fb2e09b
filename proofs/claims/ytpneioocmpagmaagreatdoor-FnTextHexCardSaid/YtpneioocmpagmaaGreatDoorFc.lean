/- strconv.uscale. -/
import Derived.Test.YtpneioocmpagmaaGreatDoorFb
import Derived.Test.YtpneioocmpagmaaGreatDoorShelf
import Derived.Laws.Bits64b
namespace Go.Proofs.YtpneioocmpagmaaGreatDoor.fl
open Go.RowKit
set_option linter.unusedVariables false
set_option linter.unusedSimpArgs false

theorem or64 (a b : Nat) (ha : a < 18446744073709551616) (hb : b < 18446744073709551616) : bits .or .u64 (a : Int) (b : Int) = ((a ||| b : Nat) : Int) := by
  have hx : a ||| b < 2 ^ 64 := Nat.or_lt_two_pow (by omega) (by omega)
  show IntKind.u64.wrap ((BitVec.ofInt 64 (a : Int) ||| BitVec.ofInt 64 (b : Int)).toNat : Int) = _
  rw [BitVec.toNat_or, BitVec.ofInt_natCast, BitVec.toNat_ofNat, BitVec.ofInt_natCast, BitVec.toNat_ofNat, Nat.mod_eq_of_lt (by omega), Nat.mod_eq_of_lt (by omega), IntKind.wrap_u64]
  omega

set_option maxHeartbeats 2000000 in
theorem uscale_at (g x hi lo t : Nat) (s : Int) (hx : 2305843009213693952 ≤ x) (hx' : x < 18446744073709551616) (hh : 9223372036854775808 ≤ hi) (hh' : hi < 18446744073709551616) (hl : lo < 18446744073709551616)
    (hs : bits .and .i64 s 63 = (t : Int)) (ht : t < 64) (w : World)
    (h0 : w.cell? ⟨g, 0, none⟩ = some (.int .u64 hi)) (h1 : w.cell? ⟨g, 1, none⟩ = some (.int .u64 lo)) (h2 : w.cell? ⟨g, 2, none⟩ = some (.int .i64 s)) :
    Calls Tryz.prog 216 #[.int .u64 x, .pointer (some ⟨g, 0, none⟩)] w fun e w' => e = .returned (.int .u64 (usc x hi lo t : Nat)) ∧ ∃ n, w' = w.drewN n := by
  have hH := top_ge hx hh
  have hHl := mul_lt64 hx' hh'
  have hLl := mul_lt64 hx' hl
  have hMl : x * hi % 18446744073709551616 < 18446744073709551616 := Nat.mod_lt _ (by omega)
  obtain ⟨H, eH⟩ : ∃ H, H = x * hi / 18446744073709551616 := ⟨_, rfl⟩
  obtain ⟨M, eM⟩ : ∃ M, M = x * hi % 18446744073709551616 := ⟨_, rfl⟩
  obtain ⟨L, eL⟩ : ∃ L, L = x * lo / 18446744073709551616 := ⟨_, rfl⟩
  obtain ⟨T, eT⟩ : ∃ T : Nat, T = 2 ^ t := ⟨_, rfl⟩
  have hT : 0 < T := by rw [eT]; exact Nat.two_pow_pos t
  have iT : (2 : Int) ^ t = (T : Int) := by rw [eT]; norm_cast
  have HU : Hid (usc x hi lo t = if H / T * T = H then ((if M < L then H - 1 else H) / T) ||| (if 1 < (M + 18446744073709551616 - L) % 18446744073709551616 then 1 else 0) else H / T ||| 1) := Lib.hid (by
    unfold usc; rw [← eH, ← eM, ← eL, ← eT])
  rw [← eH] at hH hHl
  rw [← eL] at hLl
  rw [← eM] at hMl
  have HM1 : Hid (∀ w, Calls Tryz.prog 238 #[.int .u64 x, .int .u64 hi] w fun e w' => e = .returned (.tuple #[.int .u64 (H : Int), .int .u64 (M : Int)]) ∧ w' = w) := Lib.hid (fun w => by rw [eH, eM]; exact Tryz.bits_Mul64 x hi hx' hh' w)
  have HM2 : Hid (∀ w, Calls Tryz.prog 238 #[.int .u64 x, .int .u64 lo] w fun e w' => ∃ k : Int, e = .returned (.tuple #[.int .u64 (L : Int), .int .u64 k]) ∧ w' = w) := Lib.hid (fun w => by rw [eL]; exact (Tryz.bits_Mul64 x lo hx' hl w).mono fun e w' ⟨he, hw⟩ => ⟨_, he, hw⟩)
  have HE := Lib.hid (And.intro eH (And.intro eM (And.intro eL eT)))
  clear eH eM eL eT
  have hdv : H / T * T ≤ H := Nat.div_mul_le_self H T
  have w1 : IntKind.u64.wrap ((H : Int) / (T : Int) * (T : Int)) = ((H / T * T : Nat) : Int) := by
    rw [← Int.natCast_ediv, ← Int.natCast_mul, IntKind.wrap_u64]; omega
  have hq : H / T ≤ H := Nat.div_le_self H T
  go_enter Tryz.func216, Tryz.ntmps216
  go_wp2_with fail
  refine (HM1.out _).mono ?_
  rintro e w' ⟨rfl, rfl⟩
  go_wp2_with fail
  · have hne : ((H : Int) / (T : Int) * (T : Int) != (H : Int)) = true := by assumption
    have hne' : ¬ H / T * T = H := by
      intro h
      have : ((H : Int) / (T : Int) * (T : Int)) = (H : Int) := by rw [← Int.natCast_ediv, ← Int.natCast_mul, h]
      simp [this] at hne
    go_ret
    refine ⟨?_, 0, rfl⟩
    rw [HU.out, if_neg hne', ← Int.natCast_ediv]
    have := or64 (H / T) 1 (by omega) (by omega)
    rw [← this]; rfl
  · have heq : ((H : Int) / (T : Int) * (T : Int) != (H : Int)) = false := by assumption
    have heq' : H / T * T = H := by
      have : ((H : Int) / (T : Int) * (T : Int)) = (H : Int) := by simpa using heq
      rw [← Int.natCast_ediv, ← Int.natCast_mul] at this
      exact_mod_cast this
    have HEQ := Lib.hid heq'
    clear heq'
    refine (HM2.out _).mono ?_
    rintro e w'' ⟨lw, rfl, rfl⟩
    obtain ⟨n', en'⟩ : ∃ n' : Nat, n' = if M < L then 1 else 0 := ⟨_, rfl⟩
    have hb1 : IntKind.u64.wrap ((H : Int) - (n' : Int)) = ((H - n' : Nat) : Int) := by
      have : n' ≤ 1 := by rw [en']; split <;> omega
      rw [IntKind.wrap_u64]; omega
    have HB : Hid (∀ w, Calls Tryz.prog 209 #[.bool (decide (M < L))] w fun e w' => e = .returned (.int .u64 (n' : Int)) ∧ w = w') := Lib.hid (fun w => by
      rw [en']
      have := bool2_any (decide (M < L)) w
      by_cases h : M < L
      · rw [if_pos h]; rw [decide_eq_true h] at this ⊢; exact this
      · rw [if_neg h]; rw [decide_eq_false h] at this ⊢; exact this)
    obtain ⟨d, ed⟩ : ∃ d : Nat, d = (M + 18446744073709551616 - L) % 18446744073709551616 := ⟨_, rfl⟩
    have hb2 : IntKind.u64.wrap ((M : Int) - (L : Int)) = (d : Int) := by rw [IntKind.wrap_u64]; omega
    obtain ⟨o, eo⟩ : ∃ o : Nat, o = if 1 < d then 1 else 0 := ⟨_, rfl⟩
    have HC : Hid (∀ w, Calls Tryz.prog 209 #[.bool (decide ((d : Int) > 1))] w fun e w' => e = .returned (.int .u64 (o : Int)) ∧ w = w') := Lib.hid (fun w => by
      rw [eo]
      have := bool2_any (decide ((d : Int) > 1)) w
      by_cases h : 1 < d
      · rw [if_pos h]; rw [decide_eq_true (by omega)] at this ⊢; exact this
      · rw [if_neg h]; rw [decide_eq_false (by omega)] at this ⊢; exact this)
    have HN := Lib.hid (And.intro en' (And.intro ed eo))
    clear en' ed eo
    go_wp2_with fail
    refine (HB.out _).mono ?_
    rintro e w3 ⟨rfl, rfl⟩
    go_wp2_with fail
    go_quiet ((go_at_call 209; exact Calls.quiet_of_same ((HC.out _).mono fun _ _ h => ⟨h.1, h.2.symm⟩)))
    go_wp2_with fail
    go_ret
    refine ⟨?_, _, rfl⟩
    have ho : o ≤ 1 := by rw [HN.out.2.2]; split <;> omega
    have h1 : (H - n') / T ≤ H - n' := Nat.div_le_self _ _
    have := or64 ((H - n') / T) o (by omega) (by omega)
    rw [HU.out, if_pos HEQ.out, ← Int.natCast_ediv, this, HN.out.2.2, HN.out.2.1, HN.out.1]
    congr 3
    split <;> rfl

end Go.Proofs.YtpneioocmpagmaaGreatDoor.fl

