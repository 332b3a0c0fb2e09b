/- strconv.AppendUint at base 16, below 32; math/bits.Len32 below 32. -/
import Derived.Test.YtdeehmjdbjlfkaaGreatDoorJp
import Derived.Test.YtdeehmjdbjlfkaaGreatDoorShelf
namespace Go.Proofs.YtdeehmjdbjlfkaaGreatDoor.js
open Go.RowKit
set_option linter.unusedVariables false
set_option linter.unusedSimpArgs false

/-- The digits of base 16. -/
def hexs (c : Nat) : List UInt8 := if c < 16 then [hxd c] else [hxd (c / 16), hxd (c % 16)]

set_option maxHeartbeats 4000000 in
set_option maxRecDepth 100000 in
theorem trail16 (w : World) (ht : w.cell? ⟨15, 15, none⟩ = some (.int .u8 4)) :
    Calls Tryz.prog 135 #[.int .u64 16] w fun e w' => e = .returned (.int .i64 4) ∧ w = w' := by
  go_enter Tryz.func135, Tryz.ntmps135
  have hix : (IntKind.u64.wrap (bits BinOp.and IntKind.u64 16 (IntKind.u64.wrap (-16)) * 285870213051353865) / 288230376151711744).toNat = 15 := by decide
  go_wp2
  go_returns
  exact ⟨rfl, rfl⟩

theorem hxd_nat (c : Nat) (h : c < 16) : (hxd c).toNat = if c < 10 then 48 + c else 87 + c := by
  unfold hxd
  rw [UInt8.toNat_ofNat']
  split <;> omega

theorem dig16 (c : Nat) (h : c < 16) (hp : c < (⟨#[48, 49, 50, 51, 52, 53, 54, 55, 56, 57, 97, 98, 99, 100, 101, 102, 103, 104, 105, 106, 107, 108, 109, 110, 111, 112, 113, 114, 115, 116, 117, 118, 119, 120, 121, 122]⟩ : ByteArray).size) :
    (((⟨#[48, 49, 50, 51, 52, 53, 54, 55, 56, 57, 97, 98, 99, 100, 101, 102, 103, 104, 105, 106, 107, 108, 109, 110, 111, 112, 113, 114, 115, 116, 117, 118, 119, 120, 121, 122]⟩ : ByteArray)[c]'hp).toNat : Int) = ((hxd c).toNat : Int) := by
  rcases (by omega : c = 0 ∨ c = 1 ∨ c = 2 ∨ c = 3 ∨ c = 4 ∨ c = 5 ∨ c = 6 ∨ c = 7 ∨ c = 8 ∨ c = 9 ∨ c = 10 ∨ c = 11 ∨ c = 12 ∨ c = 13 ∨ c = 14 ∨ c = 15) with rfl | rfl | rfl | rfl | rfl | rfl | rfl | rfl | rfl | rfl | rfl | rfl | rfl | rfl | rfl | rfl
  all_goals rfl

theorem one_at (w : World) (arr : Array Value) (k : Nat) (b : UInt8) (n : Int) (h : n = (b.toNat : Int)) (hk : k < arr.size) (T : TypeId) :
    ∀ j u, ([b].map bb)[j]? = some u → (w.alloc (.cells (arr.setIfInBounds k (.int .u8 n)) T)).cell? ((⟨w.heap.size, k, none⟩ : Addr).add j) = some u := by
  subst h
  intro j u hj
  match j, hj with
  | 0, hj => simp at hj; subst hj; simp [Addr.add, bb, hk]

theorem two_at (w : World) (arr : Array Value) (k : Nat) (b b' : UInt8) (n n' : Int) (h : n = (b.toNat : Int)) (h' : n' = (b'.toNat : Int)) (hk : k + 1 < arr.size) (T : TypeId) :
    ∀ j u, ([b, b'].map bb)[j]? = some u → (w.alloc (.cells ((arr.setIfInBounds (k + 1) (.int .u8 n')).setIfInBounds k (.int .u8 n)) T)).cell? ((⟨w.heap.size, k, none⟩ : Addr).add j) = some u := by
  subst h; subst h'
  intro j u hj
  match j, hj with
  | 0, hj => simp at hj; subst hj; simp [Addr.add, bb, show k < arr.size from by omega]
  | 1, hj => simp at hj; subst hj; simp [Addr.add, bb, hk]

set_option maxHeartbeats 4000000 in
set_option maxRecDepth 100000 in
theorem format_hex (c : Nat) (hc : c < 32) (v : Value) (g : List UInt8) (B : Nat) (w : World) (hB : B ≤ w.heap.size) (hown : OwnB w B v g) (hlen : g.length + 2 ≤ 140737488355328)
    (ht : ∀ w', Below w.heap.size w w' → w'.cell? ⟨15, 15, none⟩ = some (.int .u8 4)) :
    Calls Tryz.prog 116 #[v, .int .u64 c, .int .i64 16, .bool false, .bool true] w fun e w' => ∃ v', e = .returned (.tuple #[v', .string ⟨#[]⟩]) ∧ OwnB w' B v' (g ++ hexs c) ∧ Below B w w' := by
  have HT := Lib.hid ht
  have HO := Lib.hid hown
  clear ht hown
  by_cases h16 : c < 16
  · have t0 : ¬ (c : Int) ≥ 16 := by omega
    go_enter Tryz.func116, Tryz.ntmps116
    go_wp2_with (first | (go_at_call 135; refine (trail16 _ (HT.out _ (by go_grown))).mono ?_; rintro e w' ⟨rfl, rfl⟩) | (go_at_call 134; go_in))
    refine wp_loop_rounds 1 ?_
    rw [rounds_succ]
    go_wp2_with (at_builtin; go_loud (refine wpList_push rfl (.tmp 95) (.tmp 97) rfl B v g rfl (.inr (own_below HO.out ((Below.refl _ _).alloc (Nat.le_refl _) _))) ⟨w.heap.size, 64, none⟩ 1 1 [hxd c] rfl rfl (one_at w _ 64 _ _ (dig16 c h16 _) (Nat.lt_of_lt_of_eq (by decide : 64 < 65) (by kernel_rfl)) _) (by omega) (by omega) (by simp; omega) w (((Below.refl _ _).alloc (Nat.le_refl _) _).mono hB) ?_); (intro v' w' h1 h2); have P := Lib.hid (And.intro h1 h2); clear h1 h2)
    go_ret2
    exact ⟨v', rfl, by unfold hexs; rw [if_pos h16]; exact P.out.1, P.out.2⟩
  · have t0 : (c : Int) ≥ 16 := by omega
    have t1 : ¬ (c : Int) / 16 ≥ 16 := by omega
    have e0 : bits BinOp.and IntKind.u64 (c : Int) 15 = ((c % 16 : Nat) : Int) := by
      rcases (by omega : c = 16 ∨ c = 17 ∨ c = 18 ∨ c = 19 ∨ c = 20 ∨ c = 21 ∨ c = 22 ∨ c = 23 ∨ c = 24 ∨ c = 25 ∨ c = 26 ∨ c = 27 ∨ c = 28 ∨ c = 29 ∨ c = 30 ∨ c = 31) with rfl | rfl | rfl | rfl | rfl | rfl | rfl | rfl | rfl | rfl | rfl | rfl | rfl | rfl | rfl | rfl
      all_goals decide
    go_enter Tryz.func116, Tryz.ntmps116
    go_wp2_with (first | (go_at_call 135; refine (trail16 _ (HT.out _ (by go_grown))).mono ?_; rintro e w' ⟨rfl, rfl⟩) | (go_at_call 134; go_in))
    refine wp_loop_rounds 2 ?_
    rw [rounds_succ]
    go_wp2_with fail
    rw [rounds_succ]
    go_wp2_with (at_builtin; go_loud (refine wpList_push rfl (.tmp 95) (.tmp 97) rfl B v g rfl (.inr (own_below HO.out ((Below.refl _ _).alloc (Nat.le_refl _) _))) ⟨w.heap.size, 63, none⟩ 2 2 [hxd (c / 16), hxd (c % 16)] rfl rfl (two_at w _ 63 _ _ _ _ (dig16 (c / 16) (by omega) _) (dig16 (c % 16) (by omega) _) (Nat.lt_of_lt_of_eq (by decide : 64 < 65) (by kernel_rfl)) _) (by omega) (by omega) (by simp; omega) w (((Below.refl _ _).alloc (Nat.le_refl _) _).mono hB) ?_); (intro v' w' h1 h2); have P := Lib.hid (And.intro h1 h2); clear h1 h2)
    go_ret2
    exact ⟨v', rfl, by unfold hexs; rw [if_neg h16]; exact P.out.1, P.out.2⟩

set_option maxHeartbeats 4000000 in
set_option maxRecDepth 100000 in
theorem append_hex (c : Nat) (hc : c < 32) (v : Value) (g : List UInt8) (B : Nat) (w : World) (hB : B ≤ w.heap.size) (hown : OwnB w B v g) (hlen : g.length + 2 ≤ 140737488355328)
    (ht : ∀ w', Below w.heap.size w w' → w'.cell? ⟨15, 15, none⟩ = some (.int .u8 4)) :
    Calls Tryz.prog 68 #[v, .int .u64 c, .int .i64 16] w fun e w' => ∃ v', e = .returned v' ∧ OwnB w' B v' (g ++ hexs c) ∧ Below B w w' := by
  have HF := Lib.hid (format_hex c hc v g B w hB hown hlen ht)
  clear ht hown
  go_enter Tryz.func68, Tryz.ntmps68
  go_wp2_with (first | (go_at_call 116; refine HF.out.mono ?_; rintro e w' ⟨v', rfl, h1, h2⟩; have P := Lib.hid (And.intro h1 h2); clear h1 h2) | (go_at_call 96; go_in))
  go_ret
  exact ⟨v', rfl, P.out.1, P.out.2⟩

theorem bitLen_low (c : Nat) (hc : c < 32) : 1 + Int.tdiv ((Lib.bitLen c : Int) - 1) 4 = if c < 16 then 1 else 2 := by
  rcases (by omega : c = 0 ∨ c = 1 ∨ c = 2 ∨ c = 3 ∨ c = 4 ∨ c = 5 ∨ c = 6 ∨ c = 7 ∨ c = 8 ∨ c = 9 ∨ c = 10 ∨ c = 11 ∨ c = 12 ∨ c = 13 ∨ c = 14 ∨ c = 15 ∨ c = 16 ∨ c = 17 ∨ c = 18 ∨ c = 19 ∨ c = 20 ∨ c = 21 ∨ c = 22 ∨ c = 23 ∨ c = 24 ∨ c = 25 ∨ c = 26 ∨ c = 27 ∨ c = 28 ∨ c = 29 ∨ c = 30 ∨ c = 31) with rfl | rfl | rfl | rfl | rfl | rfl | rfl | rfl | rfl | rfl | rfl | rfl | rfl | rfl | rfl | rfl | rfl | rfl | rfl | rfl | rfl | rfl | rfl | rfl | rfl | rfl | rfl | rfl | rfl | rfl | rfl | rfl
  all_goals decide

theorem len32 (c : Nat) (hc : c < 32) (w : World) :
    Calls Tryz.prog 90 #[.int .u32 c] w fun e w' => (∃ n : Int, e = .returned (.int .i64 n) ∧ 1 + Int.tdiv (n - 1) 4 = if c < 16 then 1 else 2) ∧ w = w' :=
  (Tryz.bits_Len32 c w (by omega) (by omega)).mono fun e w' ⟨he, hw⟩ => ⟨⟨_, he, by simpa using bitLen_low c hc⟩, hw.symm⟩

theorem encB_hex (c : UInt8) (h : c.toNat < 32) (h8 : c.toNat ≠ 8) (h12 : c.toNat ≠ 12) (h10 : c.toNat ≠ 10) (h13 : c.toNat ≠ 13) (h9 : c.toNat ≠ 9) :
    encB c = [92, 117] ++ (if c.toNat < 16 then [48, 48, 48] else [48, 48]) ++ hexs c.toNat := by
  unfold encB
  rw [if_neg (by unfold Pl; omega), if_pos (by unfold two; rw [if_neg (by omega), if_neg (by omega), if_neg h8, if_neg h12, if_neg h10, if_neg h13, if_neg h9])]
  unfold hexs
  by_cases h16 : c.toNat < 16
  · rw [if_pos h16, if_pos h16, show c.toNat / 16 = 0 from by omega, show c.toNat % 16 = c.toNat from by omega]
    rfl
  · rw [if_neg h16, if_neg h16]
    rfl

theorem bitLen_at (c : Nat) (hc : c < 32) : (c < 16 ∧ (Lib.bitLen c = 0 ∨ Lib.bitLen c = 1 ∨ Lib.bitLen c = 2 ∨ Lib.bitLen c = 3 ∨ Lib.bitLen c = 4)) ∨ (16 ≤ c ∧ Lib.bitLen c = 5) := by
  rcases (by omega : c = 0 ∨ c = 1 ∨ c = 2 ∨ c = 3 ∨ c = 4 ∨ c = 5 ∨ c = 6 ∨ c = 7 ∨ c = 8 ∨ c = 9 ∨ c = 10 ∨ c = 11 ∨ c = 12 ∨ c = 13 ∨ c = 14 ∨ c = 15 ∨ c = 16 ∨ c = 17 ∨ c = 18 ∨ c = 19 ∨ c = 20 ∨ c = 21 ∨ c = 22 ∨ c = 23 ∨ c = 24 ∨ c = 25 ∨ c = 26 ∨ c = 27 ∨ c = 28 ∨ c = 29 ∨ c = 30 ∨ c = 31) with rfl | rfl | rfl | rfl | rfl | rfl | rfl | rfl | rfl | rfl | rfl | rfl | rfl | rfl | rfl | rfl | rfl | rfl | rfl | rfl | rfl | rfl | rfl | rfl | rfl | rfl | rfl | rfl | rfl | rfl | rfl | rfl
  all_goals decide

end Go.Proofs.YtdeehmjdbjlfkaaGreatDoor.js
