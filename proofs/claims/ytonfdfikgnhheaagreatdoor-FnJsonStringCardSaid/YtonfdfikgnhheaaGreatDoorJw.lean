/- laws.utf8: it says whether a text is valid UTF-8 (over the printed form of its loop). -/
import Derived.Test.YtonfdfikgnhheaaGreatDoorPFnJsonStringx131
import Derived.Lib.ValidLaws
import Derived.Lib.Hide
namespace Go.Proofs.YtonfdfikgnhheaaGreatDoor.js8
open Go.RowKit Go.Proofs.YtonfdfikgnhheaaGreatDoorW.PrintWords Go.Proofs.YtonfdfikgnhheaaGreatDoor.PFnJsonString
set_option linter.unusedVariables false
set_option linter.unusedSimpArgs false

theorem bt_nat (s : ByteArray) (i j : Nat) (h : i + j < s.size) : bt s ((i + j : Nat) : Int) = (((s.data.toList.drop i).getD j 0).toNat : Int) := by
  have hs : s.data.toList.length = s.size := Array.length_toList
  unfold bt
  rw [dif_pos (by rw [Int.toNat_natCast]; exact h), List.getD_eq_getElem?_getD, List.getElem?_drop, List.getElem?_eq_getElem (by omega)]
  simp only [Int.toNat_natCast, Option.getD_some, Array.getElem_toList]
  rfl

set_option maxRecDepth 100000 in
theorem and192 : ∀ x : Fin 256, (Go.bits .and .u8 ((x.val : Nat) : Int) 192 = 128) ↔ (x.val / 64 = 2) := by decide
set_option maxRecDepth 100000 in
theorem and63 : ∀ x : Fin 256, Go.bits .and .u8 ((x.val : Nat) : Int) 63 = ((x.val % 64 : Nat) : Int) := by decide
set_option maxRecDepth 100000 in
theorem and31 : ∀ x : Fin 256, Go.bits .and .u8 ((x.val : Nat) : Int) 31 = ((x.val % 32 : Nat) : Int) := by decide
set_option maxRecDepth 100000 in
theorem and15 : ∀ x : Fin 256, Go.bits .and .u8 ((x.val : Nat) : Int) 15 = ((x.val % 16 : Nat) : Int) := by decide
set_option maxRecDepth 100000 in
theorem and7 : ∀ x : Fin 256, Go.bits .and .u8 ((x.val : Nat) : Int) 7 = ((x.val % 8 : Nat) : Int) := by decide

theorem w64 (n : Nat) (h : n < 9223372036854775808) : wrap64 ((n : Nat) : Int) = n := by unfold wrap64; omega

theorem w64s (n : Nat) (h : n < 1099511627776) : wrap64 ((n : Int) + 1) = ((n + 1 : Nat) : Int) := by unfold wrap64; omega

theorem or64 (v y : Nat) (hv : v < 16777216) (hy : y < 64) : Go.bits .or .i64 ((v * 64 : Nat) : Int) ((y : Nat) : Int) = ((v * 64 + y : Nat) : Int) := by
  rw [(bits_nat .i64 40 (by decide) (fun n h0 h1 => by rw [IntKind.wrap_i64]; omega) (v * 64) y (by omega) (by omega)).2]
  rw [show v * 64 = 2 ^ 6 * v from by omega, ← Nat.two_pow_add_eq_or_of_lt (by omega : y < 2 ^ 6) v]

section
variable (s : ByteArray) (hs : s.size < 1099511627776)
include hs

theorem l1_step (k i c x5 v : Nat) (mn X C : Int) (hX : X = x5) (hC : C = c) (hc : c ≤ x5) (hx : i + x5 < s.size) (hv : v < 16777216) :
    laws_utf8.l1 (k + 1) s i X mn v C = if ((s.data.toList.drop i).getD c 0).toNat / 64 = 2 then laws_utf8.l1 k s i X mn ((v * 64 + ((s.data.toList.drop i).getD c 0).toNat % 64 : Nat) : Int) ((c + 1 : Nat) : Int) else some false := by
  subst hX hC
  have e := bt_nat s i c (by omega)
  have hb := ((s.data.toList.drop i).getD c 0).toNat_lt
  generalize ((s.data.toList.drop i).getD c 0).toNat = b at e hb ⊢
  have e1 : wrap64 ((i : Int) + (c : Int)) = ((i + c : Nat) : Int) := by rw [← Int.natCast_add]; exact w64 _ (by omega)
  have e2 : wrap64 ((c : Int) + 1) = ((c + 1 : Nat) : Int) := by unfold wrap64; omega
  have e3 : wrap64 ((v : Int) * 64) = ((v * 64 : Nat) : Int) := by unfold wrap64; omega
  have e4 := and192 ⟨b, hb⟩
  have e5 := and63 ⟨b, hb⟩
  simp only [] at e4 e5
  rw [laws_utf8.l1]
  rw [if_pos (by omega), e1, if_pos (by omega), if_pos (by omega), e, e5, e2, e3, w64 _ (by omega), or64 v (b % 64) hv (by omega)]
  by_cases h : b / 64 = 2
  · rw [if_pos (e4.2 h), if_pos h]
  · rw [if_neg (fun h' => h (e4.1 h')), if_neg h]

theorem l1_end (k i x5 v mn : Nat) (X C M : Int) (hX : X = x5) (hC : C = ((x5 + 1 : Nat) : Int)) (hM : M = mn) (hx : i + x5 < s.size) :
    laws_utf8.l1 (k + 1) s i X M v C = if v < mn ∨ v > 1114111 ∨ (55296 ≤ v ∧ v < 57344) then some false else laws_utf8.l0 k s ((i + (x5 + 1) : Nat) : Int) := by
  subst hX hC hM
  have e1 : wrap64 ((i : Int) + wrap64 ((x5 : Int) + 1)) = ((i + (x5 + 1) : Nat) : Int) := by
    have := w64 (x5 + 1) (by omega)
    rw [Int.natCast_add] at this
    rw [show ((x5 : Int) + 1) = ((x5 : Int) + ((1 : Nat) : Int)) from rfl, this]
    rw [← Int.natCast_add]
    exact w64 (i + (x5 + 1)) (by omega)
  rw [laws_utf8.l1]
  rw [if_neg (by omega), e1]
  repeat' split
  all_goals first | rfl | (exfalso; omega)

omit hs in
theorem j3_eq (k i x5 : Nat) (mn v X : Int) (hX : X = x5) (hx : i + x5 < 1099511627780) :
    laws_utf8.j3 (k + 1) s i X mn v = if s.size ≤ i + x5 then some false else laws_utf8.l1 k s i X mn v 1 := by
  subst hX
  have e1 : wrap64 ((i : Int) + (x5 : Int)) = ((i + x5 : Nat) : Int) := by rw [← Int.natCast_add]; exact w64 _ (by omega)
  rw [laws_utf8.j3]
  rw [e1]
  repeat' split
  all_goals first | rfl | (exfalso; omega)

end

theorem valid_bad {l : List UInt8} (hne : l ≠ []) (h : Lib.decodeN l.length (l.getD 0 0).toNat (l.getD 1 0).toNat (l.getD 2 0).toNat (l.getD 3 0).toNat = (65533, 1)) : Lib.validD l = false := by
  rw [Lib.validD_step l hne, Lib.decodeL_N, h]; rfl

theorem valid_good {l : List UInt8} (w : Nat) (hne : l ≠ []) (h : (Lib.decodeN l.length (l.getD 0 0).toNat (l.getD 1 0).toNat (l.getD 2 0).toNat (l.getD 3 0).toNat).2 = w) (hw : w ≠ 1) : Lib.validD l = Lib.validD (l.drop w) := by
  rw [Lib.validD_step l hne, Lib.decodeL_N, h, if_neg (by omega)]


theorem bad2 (n b0 b1 b2 b3 : Nat) (ha : 194 ≤ b0) (hb : b0 < 224) (h : ¬ (2 ≤ n ∧ b1 / 64 = 2)) : Lib.decodeN n b0 b1 b2 b3 = (65533, 1) := by
  unfold Lib.decodeN
  repeat' split
  all_goals first | rfl | (exfalso; omega)

theorem good2 (n b0 b1 b2 b3 : Nat) (ha : 194 ≤ b0) (hb : b0 < 224) (h : 2 ≤ n ∧ b1 / 64 = 2) : (Lib.decodeN n b0 b1 b2 b3).2 = 2 := by
  unfold Lib.decodeN
  repeat' split
  all_goals first | rfl | (exfalso; omega)

theorem bad3 (n b0 b1 b2 b3 : Nat) (ha : 224 ≤ b0) (hb : b0 < 240) (h : ¬ (3 ≤ n ∧ b1 / 64 = 2 ∧ b2 / 64 = 2 ∧ ¬ ((b0 % 16 * 64 + b1 % 64) * 64 + b2 % 64 < 2048 ∨ (b0 % 16 * 64 + b1 % 64) * 64 + b2 % 64 > 1114111 ∨ (55296 ≤ (b0 % 16 * 64 + b1 % 64) * 64 + b2 % 64 ∧ (b0 % 16 * 64 + b1 % 64) * 64 + b2 % 64 < 57344)))) : Lib.decodeN n b0 b1 b2 b3 = (65533, 1) := by
  unfold Lib.decodeN
  repeat' split
  all_goals first | rfl | (exfalso; omega)

theorem good3 (n b0 b1 b2 b3 : Nat) (ha : 224 ≤ b0) (hb : b0 < 240) (h : 3 ≤ n ∧ b1 / 64 = 2 ∧ b2 / 64 = 2 ∧ ¬ ((b0 % 16 * 64 + b1 % 64) * 64 + b2 % 64 < 2048 ∨ (b0 % 16 * 64 + b1 % 64) * 64 + b2 % 64 > 1114111 ∨ (55296 ≤ (b0 % 16 * 64 + b1 % 64) * 64 + b2 % 64 ∧ (b0 % 16 * 64 + b1 % 64) * 64 + b2 % 64 < 57344))) : (Lib.decodeN n b0 b1 b2 b3).2 = 3 := by
  unfold Lib.decodeN
  repeat' split
  all_goals first | rfl | (exfalso; omega)

theorem bad4 (n b0 b1 b2 b3 : Nat) (ha : 240 ≤ b0) (hb : b0 < 245) (h : ¬ (4 ≤ n ∧ b1 / 64 = 2 ∧ b2 / 64 = 2 ∧ b3 / 64 = 2 ∧ ¬ (((b0 % 8 * 64 + b1 % 64) * 64 + b2 % 64) * 64 + b3 % 64 < 65536 ∨ ((b0 % 8 * 64 + b1 % 64) * 64 + b2 % 64) * 64 + b3 % 64 > 1114111 ∨ (55296 ≤ ((b0 % 8 * 64 + b1 % 64) * 64 + b2 % 64) * 64 + b3 % 64 ∧ ((b0 % 8 * 64 + b1 % 64) * 64 + b2 % 64) * 64 + b3 % 64 < 57344)))) : Lib.decodeN n b0 b1 b2 b3 = (65533, 1) := by
  unfold Lib.decodeN
  repeat' split
  all_goals first | rfl | (exfalso; omega)

theorem good4 (n b0 b1 b2 b3 : Nat) (ha : 240 ≤ b0) (hb : b0 < 245) (h : 4 ≤ n ∧ b1 / 64 = 2 ∧ b2 / 64 = 2 ∧ b3 / 64 = 2 ∧ ¬ (((b0 % 8 * 64 + b1 % 64) * 64 + b2 % 64) * 64 + b3 % 64 < 65536 ∨ ((b0 % 8 * 64 + b1 % 64) * 64 + b2 % 64) * 64 + b3 % 64 > 1114111 ∨ (55296 ≤ ((b0 % 8 * 64 + b1 % 64) * 64 + b2 % 64) * 64 + b3 % 64 ∧ ((b0 % 8 * 64 + b1 % 64) * 64 + b2 % 64) * 64 + b3 % 64 < 57344))) : (Lib.decodeN n b0 b1 b2 b3).2 = 4 := by
  unfold Lib.decodeN
  repeat' split
  all_goals first | rfl | (exfalso; omega)

set_option maxHeartbeats 4000000 in
theorem u8_at (s : ByteArray) (hs : s.size < 1099511627776) : ∀ d i : Nat, i + d = s.size → ∃ k, laws_utf8.l0 k s i = some (Lib.validD (s.data.toList.drop i)) := by
  intro d
  induction d using Nat.strongRecOn with
  | _ d ih =>
    intro i hi
    have hlen : s.data.toList.length = s.size := Array.length_toList
    rcases Nat.eq_zero_or_pos d with rfl | hd
    · refine ⟨1, ?_⟩
      rw [laws_utf8.l0]
      rw [if_neg (by omega), List.drop_eq_nil_of_le (by omega), Lib.validD_nil]
    have hne : s.data.toList.drop i ≠ [] := by
      intro h
      have := congrArg List.length h
      rw [List.length_drop, List.length_nil] at this; omega
    have hn : (s.data.toList.drop i).length = d := by rw [List.length_drop]; omega
    have nx : ∀ w, w ≠ 0 → w ≤ d → ∃ k, laws_utf8.l0 k s ((i + w : Nat) : Int) = some (Lib.validD ((s.data.toList.drop i).drop w)) := fun w h0 hw => by
      rw [List.drop_drop]
      exact ih (d - w) (by omega) (i + w) (by omega)
    have e0 := bt_nat s i 0 (by omega)
    have S := fun k c x5 v (mn X C : Int) => l1_step s hs k i c x5 v mn X C
    have E := fun k x5 v mn (X C M : Int) => l1_end s hs k i x5 v mn X C M
    have J := fun k x5 (mn v X : Int) => j3_eq s k i x5 mn v X
    have VB := valid_bad hne
    have VG := fun w => valid_good (l := s.data.toList.drop i) w hne
    have VA : ((s.data.toList.drop i).getD 0 0).toNat < 128 → Lib.validD (s.data.toList.drop i) = Lib.validD ((s.data.toList.drop i).drop 1) := by
      generalize s.data.toList.drop i = l at hne
      intro h
      cases l with
      | nil => exact absurd rfl hne
      | cons b t => exact Lib.validD_cons b t (by simpa using h)
    rw [hn] at VB VG
    have h0 := ((s.data.toList.drop i).getD 0 0).toNat_lt
    have h1 := ((s.data.toList.drop i).getD 1 0).toNat_lt
    have h2 := ((s.data.toList.drop i).getD 2 0).toNat_lt
    have h3 := ((s.data.toList.drop i).getD 3 0).toNat_lt
    have S1 := fun k x5 v mn X C h => S k 1 x5 v mn X C h
    have S2 := fun k x5 v mn X C h => S k 2 x5 v mn X C h
    have S3 := fun k x5 v mn X C h => S k 3 x5 v mn X C h
    clear S
    generalize ((s.data.toList.drop i).getD 0 0).toNat = b0 at *
    generalize ((s.data.toList.drop i).getD 1 0).toNat = b1 at *
    generalize ((s.data.toList.drop i).getD 2 0).toNat = b2 at *
    generalize ((s.data.toList.drop i).getD 3 0).toNat = b3 at *
    generalize Lib.validD (s.data.toList.drop i) = V at *
    rw [Nat.add_zero] at e0
    have E0 := Lib.hid e0
    clear e0
    have hlow : ∀ k, 128 ≤ b0 → laws_utf8.l0 (k + 1) s i = if 194 ≤ b0 then laws_utf8.j1 k s i b0 (decide (b0 < 224)) else laws_utf8.j1 k s i b0 false := fun k hb => by
      rw [laws_utf8.l0, if_pos (by omega), if_pos (by omega), E0.out, if_neg (by omega)]
      by_cases h : 194 ≤ b0
      · have hd : decide ((b0 : Int) < 224) = decide (b0 < 224) := decide_eq_decide.2 (by omega)
        rw [if_pos (by omega), if_pos h, hd]
      · rw [if_neg (by omega), if_neg h]
    have a31 := and31 ⟨b0, h0⟩
    have a15 := and15 ⟨b0, h0⟩
    have a7 := and7 ⟨b0, h0⟩
    simp only [] at a31 a15 a7
    have A31 := Lib.hid a31
    have A15 := Lib.hid a15
    have A7 := Lib.hid a7
    clear a31 a15 a7
    by_cases cZ : b0 < 128
    · obtain ⟨k, hk⟩ := nx 1 (by omega) (by omega)
      refine ⟨k + 1, ?_⟩
      have E1 := Lib.hid (w64s i (by omega))
      rw [laws_utf8.l0, if_pos (by omega), if_pos (by omega), E0.out, if_pos (by omega), E1.out, hk, VA cZ]
    by_cases cA : 194 ≤ b0 ∧ b0 < 224
    · by_cases hw : 2 ≤ d
      · obtain ⟨k, hk⟩ := nx 2 (by omega) hw
        refine ⟨k + 5, ?_⟩
        rw [hlow _ (by omega), if_pos cA.1, decide_eq_true cA.2, laws_utf8.j1, if_pos rfl, A31.out, w64 _ (by omega)]
        rw [J _ 1 128 _ 1 rfl (by omega)]
        rw [if_neg (by omega)]
        rw [S1 _ 1 (b0 % 32) 128 1 1 rfl rfl (by omega) (by omega) (by omega)]
        by_cases c1 : b1 / 64 = 2
        · rw [if_pos c1]
          rw [E _ 1 _ 128 1 _ 128 rfl rfl rfl (by omega)]
          rw [if_neg (by omega)]
          refine hk.trans (congrArg some (VG 2 ?_ (by omega)).symm)
          exact good2 _ _ _ _ _ (by omega) (by omega) (by omega)
        · rw [if_neg c1, VB ?_]
          exact bad2 _ _ _ _ _ (by omega) (by omega) (by omega)
      · refine ⟨3, ?_⟩
        rw [hlow _ (by omega), if_pos cA.1, decide_eq_true cA.2, laws_utf8.j1, if_pos rfl, A31.out, w64 _ (by omega)]
        rw [J _ 1 128 _ 1 rfl (by omega)]
        rw [if_pos (by omega), VB ?_]
        exact bad2 _ _ _ _ _ (by omega) (by omega) (by omega)
    by_cases cB : 224 ≤ b0 ∧ b0 < 240
    · by_cases hw : 3 ≤ d
      · obtain ⟨k, hk⟩ := nx 3 (by omega) hw
        refine ⟨k + 7, ?_⟩
        rw [hlow _ (by omega), if_pos (by omega), decide_eq_false (by omega), laws_utf8.j1, if_neg (by simp), if_pos (by omega), decide_eq_true (by omega), laws_utf8.j2, if_pos rfl, A15.out, w64 _ (by omega)]
        rw [J _ 2 2048 _ 2 rfl (by omega)]
        rw [if_neg (by omega)]
        rw [S1 _ 2 (b0 % 16) 2048 2 1 rfl rfl (by omega) (by omega) (by omega)]
        by_cases c1 : b1 / 64 = 2
        · rw [if_pos c1]
          rw [S2 _ 2 _ 2048 2 ((1 + 1 : Nat) : Int) rfl rfl (by omega) (by omega) (by omega)]
          by_cases c2 : b2 / 64 = 2
          · rw [if_pos c2]
            rw [E _ 2 _ 2048 2 _ 2048 rfl rfl rfl (by omega)]
            split
            · rw [VB ?_]
              exact bad3 _ _ _ _ _ (by omega) (by omega) (by omega)
            · refine hk.trans (congrArg some (VG 3 ?_ (by omega)).symm)
              exact good3 _ _ _ _ _ (by omega) (by omega) (by omega)
          · rw [if_neg c2, VB ?_]
            exact bad3 _ _ _ _ _ (by omega) (by omega) (by omega)
        · rw [if_neg c1, VB ?_]
          exact bad3 _ _ _ _ _ (by omega) (by omega) (by omega)
      · refine ⟨4, ?_⟩
        rw [hlow _ (by omega), if_pos (by omega), decide_eq_false (by omega), laws_utf8.j1, if_neg (by simp), if_pos (by omega), decide_eq_true (by omega), laws_utf8.j2, if_pos rfl, A15.out, w64 _ (by omega)]
        rw [J _ 2 2048 _ 2 rfl (by omega)]
        rw [if_pos (by omega), VB ?_]
        exact bad3 _ _ _ _ _ (by omega) (by omega) (by omega)
    by_cases cC : 240 ≤ b0 ∧ b0 < 245
    · by_cases hw : 4 ≤ d
      · obtain ⟨k, hk⟩ := nx 4 (by omega) hw
        refine ⟨k + 8, ?_⟩
        rw [hlow _ (by omega), if_pos (by omega), decide_eq_false (by omega), laws_utf8.j1, if_neg (by simp), if_pos (by omega), decide_eq_false (by omega), laws_utf8.j2, if_neg (by simp), if_pos (by omega), if_pos (by omega), A7.out, w64 _ (by omega)]
        rw [J _ 3 65536 _ 3 rfl (by omega)]
        rw [if_neg (by omega)]
        rw [S1 _ 3 (b0 % 8) 65536 3 1 rfl rfl (by omega) (by omega) (by omega)]
        by_cases c1 : b1 / 64 = 2
        · rw [if_pos c1]
          rw [S2 _ 3 _ 65536 3 ((1 + 1 : Nat) : Int) rfl rfl (by omega) (by omega) (by omega)]
          by_cases c2 : b2 / 64 = 2
          · rw [if_pos c2]
            rw [S3 _ 3 _ 65536 3 ((2 + 1 : Nat) : Int) rfl rfl (by omega) (by omega) (by omega)]
            by_cases c3 : b3 / 64 = 2
            · rw [if_pos c3]
              rw [E _ 3 _ 65536 3 _ 65536 rfl rfl rfl (by omega)]
              split
              · rw [VB ?_]
                exact bad4 _ _ _ _ _ (by omega) (by omega) (by omega)
              · refine hk.trans (congrArg some (VG 4 ?_ (by omega)).symm)
                exact good4 _ _ _ _ _ (by omega) (by omega) (by omega)
            · rw [if_neg c3, VB ?_]
              exact bad4 _ _ _ _ _ (by omega) (by omega) (by omega)
          · rw [if_neg c2, VB ?_]
            exact bad4 _ _ _ _ _ (by omega) (by omega) (by omega)
        · rw [if_neg c1, VB ?_]
          exact bad4 _ _ _ _ _ (by omega) (by omega) (by omega)
      · refine ⟨4, ?_⟩
        rw [hlow _ (by omega), if_pos (by omega), decide_eq_false (by omega), laws_utf8.j1, if_neg (by simp), if_pos (by omega), decide_eq_false (by omega), laws_utf8.j2, if_neg (by simp), if_pos (by omega), if_pos (by omega), A7.out, w64 _ (by omega)]
        rw [J _ 3 65536 _ 3 rfl (by omega)]
        rw [if_pos (by omega), VB ?_]
        exact bad4 _ _ _ _ _ (by omega) (by omega) (by omega)
    have hV : V = false := VB (Lib.decodeN_bad _ _ _ _ _ (by omega))
    refine ⟨3, ?_⟩
    rw [hV, hlow _ (by omega)]
    by_cases c : 194 ≤ b0
    · rw [if_pos c, decide_eq_false (by omega), laws_utf8.j1, if_neg (by simp), if_pos (by omega), decide_eq_false (by omega), laws_utf8.j2, if_neg (by simp), if_pos (by omega), if_neg (by omega)]
    · rw [if_neg c, laws_utf8.j1, if_neg (by simp), if_neg (by omega), laws_utf8.j2, if_neg (by simp), if_neg (by omega)]

theorem utf8_says (s : ByteArray) (hs : s.size < 1099511627776) (w : World) :
    Calls Tryz.prog 17 #[.string s] w fun e w' => e = .returned (.bool (Lib.validD s.data.toList)) ∧ Below w.heap.size w w' := by
  obtain ⟨k, hk⟩ := u8_at s hs s.size 0 (by omega)
  refine (laws_utf8.calls k s _ w hk).mono ?_
  rintro e w' ⟨rfl, h⟩
  exact ⟨rfl, h.below⟩

end Go.Proofs.YtonfdfikgnhheaaGreatDoor.js8
