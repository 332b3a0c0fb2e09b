/- A whole number's token: what its methods say; plain facts of its text. -/
import Derived.Test.YtpneioocmpagmaaGreatDoorTw
import Derived.Test.YtpneioocmpagmaaGreatDoorTy
import Derived.Test.YtpneioocmpagmaaGreatDoorTv
import Derived.Test.YtpneioocmpagmaaGreatDoorTh
namespace Go.Proofs.YtpneioocmpagmaaGreatDoor.tx
open Go.RowKit Go.Proofs.YtpneioocmpagmaaGreatDoor.pu Go.Proofs.YtpneioocmpagmaaGreatDoor.num Go.Proofs.YtpneioocmpagmaaGreatDoor.fl Go.Proofs.YtpneioocmpagmaaGreatDoor.jn
set_option linter.unusedVariables false
set_option linter.unusedSimpArgs false

theorem getD_head3 (l : List UInt8) (j : Nat) : (97 :: 58 :: 32 :: l).getD (j + 3) 0 = l.getD j 0 := by
  simp [List.getD_eq_getElem?_getD]

theorem intAt_itoa (n : Int) : IntAt (97 :: 58 :: 32 :: Lib.itoa n) ((Lib.itoa n).length + 3) 3 (if n < 0 then 4 else 3) (decide (n < 0)) := by
  have hd := dec_dig (n.natAbs + 1) n.natAbs (by omega)
  have hpos : 0 < (Lib.decDigits n.natAbs).length := by rw [Lib.decDigits_length]; exact Lib.nDigits_pos _
  have hg : ∀ j, j < (Lib.decDigits n.natAbs).length → 48 ≤ ((Lib.decDigits n.natAbs).getD j 0).toNat ∧ ((Lib.decDigits n.natAbs).getD j 0).toNat ≤ 57 := by
    intro j hj
    have := hd _ (List.getElem_mem hj)
    rw [List.getD_eq_getElem?_getD, List.getElem?_eq_getElem hj]
    exact this
  rw [sgn_text n]
  by_cases hn : n < 0
  · rw [if_pos hn, if_pos hn]
    refine ⟨by simp; omega, .inr ⟨by simp [hn], rfl, rfl⟩, ?_, ?_⟩
    · intro j h0 h1
      obtain ⟨k, rfl⟩ : ∃ k, j = k + 1 + 3 := ⟨j - 4, by omega⟩
      rw [getD_head3]
      have : ([45] ++ Lib.decDigits n.natAbs).getD (k + 1) 0 = (Lib.decDigits n.natAbs).getD k 0 := by simp [List.getD_eq_getElem?_getD]
      rw [this]
      exact hg k (by simp at h1; omega)
    · intro h
      have : (97 :: 58 :: 32 :: ([45] ++ Lib.decDigits n.natAbs)).getD 4 0 = (Lib.decDigits n.natAbs).getD 0 0 := by simp [List.getD_eq_getElem?_getD]
      rw [this] at h
      exact absurd h (dec_head_ne (n.natAbs + 1) n.natAbs (by omega) (by omega))
  · rw [if_neg hn, if_neg hn]
    have h3 : (97 :: 58 :: 32 :: ([] ++ Lib.decDigits n.natAbs)).getD 3 0 = (Lib.decDigits n.natAbs).getD 0 0 := by simp [List.getD_eq_getElem?_getD]
    refine ⟨by simp; omega, .inl ⟨by simp [hn], rfl, ?_⟩, ?_, ?_⟩
    · rw [h3]; have := hg 0 hpos; omega
    · intro j h0 h1
      obtain ⟨k, rfl⟩ : ∃ k, j = k + 3 := ⟨j - 3, by omega⟩
      rw [getD_head3]
      exact hg k (by simp at h1; omega)
    · intro h
      rw [h3] at h
      by_cases hz : n.natAbs = 0
      · rw [hz]; simp [Lib.decDigits_one]
      · exact absurd h (dec_head_ne (n.natAbs + 1) n.natAbs (by omega) (by omega))

theorem part_head3 (l : List UInt8) : part (97 :: 58 :: 32 :: l) 3 (l.length + 3 - 3) = l := by
  unfold part
  simp

def QIn (n : Int) (x : Int) (y : Bool) : Prop := x = n ∧ y = true
def QRn (lo hi n : Int) (x : Int) (y : Bool) : Prop := (lo ≤ n ∧ n ≤ hi ∧ y = true ∧ x = n) ∨ (¬ (lo ≤ n ∧ n ≤ hi) ∧ y = false)

theorem itoa_short (n : Int) (h0 : -9223372036854775808 ≤ n) (h1 : n ≤ 9223372036854775807) : (Lib.itoa n).length ≤ 20 := by
  have := dec_len19 n.natAbs (by omega)
  rw [sgn_text n]
  split <;> simp <;> omega

set_option maxHeartbeats 4000000 in
theorem int_vals (n : Int) (h0 : -9223372036854775808 ≤ n) (h1 : n ≤ 9223372036854775807) (w : World) (he : Errs w) (hE : ∀ w', Below w.heap.size w w' → FEnv w')
    (t : Tok) (k1 : t.kd = 3) (k2 : t.ats = 1) (k3 : t.na = (if decide (n < 0) = true then 128 else 0)) (k4 : t.s = ⟨(Lib.itoa n).toArray⟩) (k5 : t.raw.oneCell' = true) :
    Calls Tryz.prog 32 #[t.v] w fun e w' => ValSays (fun _ _ => True) (QIn n) (QRn (-2147483648) 2147483647 n) (QRn 0 18446744073709551615 n) (QRn 0 4294967295 n) (fun _ => True) (fun _ => True) (fun _ _ => True) (fun _ _ => True) e ∧ Below w.heap.size w w' := by
  have hlen := itoa_short n h0 h1
  have e63 : (2 ^ (64 - 1) : Nat) = 9223372036854775808 := rfl
  have e31 : (2 ^ (32 - 1) : Nat) = 2147483648 := rfl
  have e64 : (2 ^ 64 - 1 : Nat) = 18446744073709551615 := rfl
  have e32 : (2 ^ 32 - 1 : Nat) = 4294967295 := rfl
  obtain ⟨a1, na, a3, p, raw, s⟩ := t
  simp only at k1 k2 k3 k4 k5
  subst k1 k2 k4
  obtain ⟨m, pw, ng, hf, hpw⟩ := int_few n h0 h1
  have hna : a3 = 0 ∨ a3 = 128 := by rw [k3]; split <;> simp
  have hmax : (⟨(Lib.itoa n).toArray⟩ : ByteArray).size ≤ 140737488355328 := by
    show (Lib.itoa n).toArray.size ≤ _
    rw [List.size_toArray]; omega
  refine values_any _ k5 _ _ _ _ _ _ _ _ _ w ?_ ?_ ?_ ?_ ?_ ?_ ?_ ?_ ?_
  · intro W hW
    exact (tok_bool a3 p raw k5 _ hmax W (he.below hW)).mono fun e w' ⟨⟨x, y, h⟩, hb⟩ => ⟨⟨x, y, trivial, h⟩, hb⟩
  · intro W hW
    refine (tok_int64 a3 p raw k5 _ hmax n ?_ hna W (he.below hW)).mono fun e w' ⟨h, hb⟩ => ⟨⟨n, true, ⟨rfl, rfl⟩, h⟩, hb⟩
    rw [List.toList_toArray, pi0_all _ _ (by decide) (by decide), if_pos (by constructor <;> (simp only [e63, e31]; omega))]
  · intro W hW
    by_cases hr : -2147483648 ≤ n ∧ n ≤ 2147483647
    · refine (tok_int32 a3 p raw k5 _ hmax n hr.1 hr.2 ?_ hna W (he.below hW)).mono fun e w' ⟨h, hb⟩ => ⟨⟨n, true, .inl ⟨hr.1, hr.2, rfl, rfl⟩, h⟩, hb⟩
      rw [List.toList_toArray, pi0_all _ _ (by decide) (by decide), if_pos (by constructor <;> (simp only [e63, e31]; omega))]
    · refine (tok_int32_none a3 p raw k5 _ hmax ?_ hna W (he.below hW)).mono fun e w' ⟨h, hb⟩ => ⟨⟨0, false, .inr ⟨hr, rfl⟩, h⟩, hb⟩
      rw [List.toList_toArray, pi0_all _ _ (by decide) (by decide), if_neg (by intro h; apply hr; obtain ⟨u, v⟩ := h; simp only [e31] at u v; omega)]
  · intro W hW
    by_cases hn : n < 0
    · have hk : a3 = 128 := by rw [k3]; simp [hn]
      exact (tok_uint64_neg a3 p raw k5 _ hk W).mono fun e w' ⟨h, hb⟩ => ⟨⟨0, false, .inr ⟨by omega, rfl⟩, h⟩, hb⟩
    · have hk : a3 = 0 := by rw [k3]; simp [hn]
      refine (tok_uint64 a3 p raw k5 _ hmax n.toNat ?_ hk W (he.below hW)).mono fun e w' ⟨h, hb⟩ => ⟨⟨n, true, .inl ⟨by omega, by omega, rfl, rfl⟩, ?_⟩, hb⟩
      · rw [List.toList_toArray, pu0_all _ (by decide), if_neg hn, if_pos (by simp only [e64, e32]; omega)]
      · rw [h, show ((n.toNat : Nat) : Int) = n from by omega]
  · intro W hW
    by_cases hn : n < 0
    · have hk : a3 = 128 := by rw [k3]; simp [hn]
      exact (tok_uint32_neg a3 p raw k5 _ hk W).mono fun e w' ⟨h, hb⟩ => ⟨⟨0, false, .inr ⟨by omega, rfl⟩, h⟩, hb⟩
    · have hk : a3 = 0 := by rw [k3]; simp [hn]
      by_cases hr : n ≤ 4294967295
      · refine (tok_uint32 a3 p raw k5 _ hmax n.toNat (by omega) ?_ hk W (he.below hW)).mono fun e w' ⟨h, hb⟩ => ⟨⟨n, true, .inl ⟨by omega, by omega, rfl, rfl⟩, ?_⟩, hb⟩
        · rw [List.toList_toArray, pu0_all _ (by decide), if_neg hn, if_pos (by simp only [e64, e32]; omega)]
        · rw [h, show ((n.toNat : Nat) : Int) = n from by omega]
      · refine (tok_uint32_none a3 p raw k5 _ hmax (.inr ?_) hk W (he.below hW)).mono fun e w' ⟨h, hb⟩ => ⟨⟨0, false, .inr ⟨by omega, rfl⟩, h⟩, hb⟩
        rw [List.toList_toArray, pu0_all _ (by decide), if_neg hn, if_neg (by simp only [e64, e32]; omega)]
  · intro W hW
    exact (tok_f64 a3 p raw k5 _ m pw ng hf hpw W (fun w' h => hE w' (hW.trans (h.mono hW.size)))).mono fun e w' ⟨⟨b, h⟩, hb⟩ => ⟨⟨b, true, trivial, h⟩, hb⟩
  · intro W hW
    exact (tok_f32 a3 p raw k5 _ m pw ng hf hpw W (fun w' h => hE w' (hW.trans (h.mono hW.size)))).mono fun e w' ⟨⟨b, h⟩, hb⟩ => ⟨⟨b, true, trivial, h⟩, hb⟩
  · intro W hW
    exact (tok_enum a3 p raw k5 _ hna W).mono fun e w' ⟨h, hb⟩ => ⟨⟨_, _, trivial, h⟩, hb⟩
  · intro W hW
    exact (tok_string a3 p raw k5 _ hna W).mono fun e w' ⟨h, hb⟩ => ⟨⟨_, _, trivial, h⟩, hb⟩

end Go.Proofs.YtpneioocmpagmaaGreatDoor.tx

