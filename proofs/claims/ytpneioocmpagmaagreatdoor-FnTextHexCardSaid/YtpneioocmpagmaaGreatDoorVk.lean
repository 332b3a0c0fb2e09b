/- A token of a whole number up to 2^64 - 1: what its nine methods say. -/
import Derived.Test.YtpneioocmpagmaaGreatDoorTl
import Derived.Test.YtpneioocmpagmaaGreatDoorVj
namespace Go.Proofs.YtpneioocmpagmaaGreatDoor.tx
open Go.RowKit Go.Proofs.YtpneioocmpagmaaGreatDoor.pu Go.Proofs.YtpneioocmpagmaaGreatDoor.num Go.Proofs.YtpneioocmpagmaaGreatDoor.fl Go.Proofs.YtpneioocmpagmaaGreatDoor.jn
set_option linter.unusedVariables false
set_option linter.unusedSimpArgs false

set_option maxHeartbeats 4000000 in
set_option maxRecDepth 100000 in
theorem tok_f64d (na : Nat) (p : Int) (raw : Value) (hraw : raw.oneCell' = true) (s : ByteArray) (w : World)
    (hP : ∀ W, Below w.heap.size w W → Calls Tryz.prog 89 #[.string s, .int .i64 64] W fun e w' => PFn e ∧ Below W.heap.size W w') :
    Calls Tryz.prog 58 #[(numTok na p raw s).v] w fun e w' => (∃ b : Nat, e = .returned (.tuple #[.float .f64 b, .bool true])) ∧ Below w.heap.size w w' := by
  have HP := Lib.hid hP
  clear hP
  unfold numTok Tok.v
  go_enter Tryz.func58, Tryz.ntmps58
  go_wp2_with fail
  refine (HP.out _ (by go_grown)).mono ?_
  rintro e w2 ⟨⟨fb, rfl⟩, hb2⟩
  have HB := Lib.hid (Below.trans ((Below.refl _ _).alloc (Nat.le_refl _) _) (hb2.mono (by simp)) : Below w.heap.size w w2)
  clear hb2
  go_wp2_with fail
  go_ret2
  exact ⟨⟨_, rfl⟩, HB.out⟩

set_option maxHeartbeats 4000000 in
set_option maxRecDepth 100000 in
theorem tok_f32d (na : Nat) (p : Int) (raw : Value) (hraw : raw.oneCell' = true) (s : ByteArray) (w : World)
    (hP : ∀ W, Below w.heap.size w W → Calls Tryz.prog 89 #[.string s, .int .i64 64] W fun e w' => PFn e ∧ Below W.heap.size W w') :
    Calls Tryz.prog 59 #[(numTok na p raw s).v] w fun e w' => (∃ b : Nat, e = .returned (.tuple #[.float .f32 b, .bool true])) ∧ Below w.heap.size w w' := by
  have HP := Lib.hid hP
  clear hP
  unfold numTok Tok.v
  go_enter Tryz.func59, Tryz.ntmps59
  go_wp2_with fail
  refine (HP.out _ (by go_grown)).mono ?_
  rintro e w2 ⟨⟨fb, rfl⟩, hb2⟩
  have HB := Lib.hid (Below.trans ((Below.refl _ _).alloc (Nat.le_refl _) _) (hb2.mono (by simp)) : Below w.heap.size w w2)
  clear hb2
  obtain ⟨r, nd, hc⟩ := conv_down w2 fb
  go_wp2_with fail
  go_ret2
  exact ⟨⟨_, rfl⟩, below_drewN HB.out _⟩

theorem dec_len20 (u : Nat) (h : u ≤ 18446744073709551615) : (Lib.decDigits u).length ≤ 20 := by
  have : ∀ (k v : Nat), v < 10 ^ (k + 1) → (Lib.decDigits v).length ≤ k + 1 := by
    intro k
    induction k with
    | zero =>
      intro v hv
      rw [Lib.decDigits_one (by simpa using hv)]; simp
    | succ k ih =>
      intro v hv
      by_cases h10 : v < 10
      · rw [Lib.decDigits_one h10]; simp
      · rw [show Lib.decDigits v = Lib.decDigits (v / 10) ++ [UInt8.ofNat (48 + v % 10)] from by rw [Lib.decDigits, dif_neg h10], List.length_append, List.length_singleton]
        have := ih (v / 10) (by rw [Nat.pow_succ] at hv; omega)
        omega
  exact this 19 u (Nat.lt_of_le_of_lt h (by decide))

theorem itoa_nat (u : Nat) : Lib.itoa (u : Int) = Lib.decDigits u := by
  rw [sgn_text (u : Int), if_neg (by omega)]
  simp

set_option maxHeartbeats 4000000 in
theorem uint_vals (u : Nat) (h1 : u ≤ 18446744073709551615) (w : World) (he : Errs w) (hE : ∀ w', Below w.heap.size w w' → dc.SEnv w')
    (t : Tok) (k1 : t.kd = 3) (k2 : t.ats = 1) (k3 : t.na = 0) (k4 : t.s = ⟨(Lib.decDigits u).toArray⟩) (k5 : t.raw.oneCell' = true) :
    Calls Tryz.prog 32 #[t.v] w fun e w' => ValSays (fun _ _ => True) (QRn (-9223372036854775808) 9223372036854775807 u) (QRn (-2147483648) 2147483647 u) (QIn u) (QRn 0 4294967295 u) (fun _ => True) (fun _ => True) (fun _ _ => True) (fun _ _ => True) e ∧ Below w.heap.size w w' := by
  have hlen := dec_len20 u h1
  have hpos : 0 < (Lib.decDigits u).length := by rw [Lib.decDigits_length]; exact Lib.nDigits_pos _
  have e63 : (2 ^ (64 - 1) : Nat) = 9223372036854775808 := rfl
  have e31 : (2 ^ (32 - 1) : Nat) = 2147483648 := rfl
  have e64 : (2 ^ 64 - 1 : Nat) = 18446744073709551615 := rfl
  have e32 : (2 ^ 32 - 1 : Nat) = 4294967295 := rfl
  obtain ⟨a1, na, a3, p, raw, s⟩ := t
  simp only at k1 k2 k3 k4 k5
  subst k1 k2 k3 k4
  have hna : (0 : Nat) = 0 ∨ (0 : Nat) = 128 := .inl rfl
  have hmax : (⟨(Lib.decDigits u).toArray⟩ : ByteArray).size ≤ 140737488355328 := by
    show (Lib.decDigits u).toArray.size ≤ _
    rw [List.size_toArray]; omega
  have hpi : ∀ mx half : Nat, 10 ≤ half → half ≤ mx → pi 0 mx half (Lib.decDigits u) = if -(half : Int) ≤ (u : Int) ∧ (u : Int) < (half : Int) then some ((u : Int), false) else none := fun mx half h h' => by
    rw [← itoa_nat]; exact pi0_all mx half h h' (u : Int)
  have hpu : ∀ mx : Nat, 10 ≤ mx → pu 0 mx (Lib.decDigits u) = if u ≤ mx then .ok u false else .rng := fun mx h => pu0_dec mx u h
  have hfl : ∀ W, Below w.heap.size w W → ∀ W', Below W.heap.size W W' → Calls Tryz.prog 89 #[.string ⟨(Lib.decDigits u).toArray⟩, .int .i64 64] W' fun e w' => PFn e ∧ Below W'.heap.size W' w' := fun W hW W' hW' =>
    dc.digits_float _ (dec_dig (u + 1) u (by omega)) (by omega) (by omega) W' (fun w' h => hE w' ((hW.trans (hW'.mono hW.size)).trans (h.mono (Nat.le_trans hW.size hW'.size))))
  refine values_any _ k5 _ _ _ _ _ _ _ _ _ w ?_ ?_ ?_ ?_ ?_ ?_ ?_ ?_ ?_
  · intro W hW
    exact (tok_bool 0 p raw k5 _ hmax W (he.below hW)).mono fun e w' ⟨⟨x, y, h⟩, hb⟩ => ⟨⟨x, y, trivial, h⟩, hb⟩
  · intro W hW
    by_cases hr : u ≤ 9223372036854775807
    · refine (tok_int64 0 p raw k5 _ hmax (u : Int) ?_ hna W (he.below hW)).mono fun e w' ⟨h, hb⟩ => ⟨⟨u, true, .inl ⟨by omega, by omega, rfl, rfl⟩, h⟩, hb⟩
      rw [List.toList_toArray, hpi _ _ (by decide) (by decide), if_pos (by constructor <;> (simp only [e63, e31]; omega))]
    · refine (tok_int64_none 0 p raw k5 _ hmax ?_ hna W (he.below hW)).mono fun e w' ⟨h, hb⟩ => ⟨⟨0, false, .inr ⟨by omega, rfl⟩, h⟩, hb⟩
      rw [List.toList_toArray, hpi _ _ (by decide) (by decide), if_neg (by intro h; apply hr; obtain ⟨u, v⟩ := h; simp only [e63] at u v; omega)]
  · intro W hW
    by_cases hr : u ≤ 2147483647
    · refine (tok_int32 0 p raw k5 _ hmax (u : Int) (by omega) (by omega) ?_ hna W (he.below hW)).mono fun e w' ⟨h, hb⟩ => ⟨⟨u, true, .inl ⟨by omega, by omega, rfl, rfl⟩, h⟩, hb⟩
      rw [List.toList_toArray, hpi _ _ (by decide) (by decide), if_pos (by constructor <;> (simp only [e63, e31]; omega))]
    · refine (tok_int32_none 0 p raw k5 _ hmax ?_ hna W (he.below hW)).mono fun e w' ⟨h, hb⟩ => ⟨⟨0, false, .inr ⟨by omega, rfl⟩, h⟩, hb⟩
      rw [List.toList_toArray, hpi _ _ (by decide) (by decide), if_neg (by intro h; apply hr; obtain ⟨u, v⟩ := h; simp only [e31] at u v; omega)]
  · intro W hW
    refine (tok_uint64 0 p raw k5 _ hmax u ?_ rfl W (he.below hW)).mono fun e w' ⟨h, hb⟩ => ⟨⟨u, true, ⟨rfl, rfl⟩, h⟩, hb⟩
    rw [List.toList_toArray, hpu _ (by decide), if_pos (by simp only [e64]; omega)]
  · intro W hW
    by_cases hr : u ≤ 4294967295
    · refine (tok_uint32 0 p raw k5 _ hmax u (by omega) ?_ rfl W (he.below hW)).mono fun e w' ⟨h, hb⟩ => ⟨⟨u, true, .inl ⟨by omega, by omega, rfl, rfl⟩, h⟩, hb⟩
      rw [List.toList_toArray, hpu _ (by decide), if_pos (by simp only [e32]; omega)]
    · refine (tok_uint32_none 0 p raw k5 _ hmax (.inr ?_) rfl W (he.below hW)).mono fun e w' ⟨h, hb⟩ => ⟨⟨0, false, .inr ⟨by omega, rfl⟩, h⟩, hb⟩
      rw [List.toList_toArray, hpu _ (by decide), if_neg (by simp only [e32]; omega)]
  · intro W hW
    exact (tok_f64d 0 p raw k5 _ W (hfl W hW)).mono fun e w' ⟨⟨b, h⟩, hb⟩ => ⟨⟨b, true, trivial, h⟩, hb⟩
  · intro W hW
    exact (tok_f32d 0 p raw k5 _ W (hfl W hW)).mono fun e w' ⟨⟨b, h⟩, hb⟩ => ⟨⟨b, true, trivial, h⟩, hb⟩
  · intro W hW
    exact (tok_enum 0 p raw k5 _ hna W).mono fun e w' ⟨h, hb⟩ => ⟨⟨_, _, trivial, h⟩, hb⟩
  · intro W hW
    exact (tok_string 0 p raw k5 _ hna W).mono fun e w' ⟨h, hb⟩ => ⟨⟨_, _, trivial, h⟩, hb⟩

end Go.Proofs.YtpneioocmpagmaaGreatDoor.tx

