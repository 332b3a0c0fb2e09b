/- A whole number's text: as base 0 reads it, and as a decimal of few digits: plain. -/
import Derived.Test.YtpneioocmpagmaaGreatDoorGj
import Derived.Test.YtpneioocmpagmaaGreatDoorFe
import Derived.Test.YtpneioocmpagmaaGreatDoorFk
namespace Go.Proofs.YtpneioocmpagmaaGreatDoor.tx
open Go.RowKit Go.Proofs.YtpneioocmpagmaaGreatDoor.jn Go.Proofs.YtpneioocmpagmaaGreatDoor.pu Go.Proofs.YtpneioocmpagmaaGreatDoor.num Go.Proofs.YtpneioocmpagmaaGreatDoor.fl
set_option linter.unusedVariables false
set_option linter.unusedSimpArgs false

/-- An end: a point and noughts, and a power that is nought. -/
theorem sfx_parts {s : List UInt8} (hs : Sfx s) : ∃ Z ex, s = Z ++ ex ∧ (∀ c ∈ Z, c.toNat = 46 ∨ c.toNat = 48) ∧ Z.countP (fun c => c.toNat == 46) ≤ 1 ∧ Ex ex 0 ∧ Z.length ≤ 4 ∧ ex.length ≤ 4 := by
  have p : Ex [101, 48] 0 := Ex.plain 101 [48] (.inl rfl) (by simp) (by decide)
  have q : Ex [69, 43, 48, 48] 0 := Ex.plus 69 [48, 48] (.inr rfl) (by simp) (by decide)
  have r : Ex [101, 45, 48] 0 := Ex.minus 101 [48] (.inl rfl) (by simp) (by decide)
  rcases hs with rfl | rfl | rfl | rfl | rfl | rfl
  · exact ⟨[], [], rfl, by simp, by simp, Ex.none, by simp, by simp⟩
  · exact ⟨[46, 48], [], rfl, by decide, by decide, Ex.none, by simp, by simp⟩
  · exact ⟨[46, 48, 48, 48], [], rfl, by decide, by decide, Ex.none, by simp, by simp⟩
  · exact ⟨[], [101, 48], rfl, by simp, by simp, p, by simp, by simp⟩
  · exact ⟨[], [69, 43, 48, 48], rfl, by simp, by simp, q, by simp, by simp⟩
  · exact ⟨[46, 48], [101, 45, 48], rfl, by decide, by decide, r, by simp, by simp⟩

theorem whole_few (n : Int) (h0 : -9223372036854775808 ≤ n) (h1 : n ≤ 9223372036854775807) (s : List UInt8) (hs : Sfx s) :
    ∃ m p ng, Few ⟨(Lib.itoa n ++ s).toArray⟩ m p ng ∧ p ≤ 100 := by
  obtain ⟨Z, ex, rfl, hZ, hZ1, hex, hzl, hel⟩ := sfx_parts hs
  have hne := dec_ne n.natAbs
  have hh := dec_head (n.natAbs + 1) n.natAbs (by omega)
  have hl := dec_len19 n.natAbs (by omega)
  have hd := dec_dig (n.natAbs + 1) n.natAbs (by omega)
  obtain ⟨r1, r2, r3, r4⟩ := rf_digits (Lib.decDigits n.natAbs) hd hl
  obtain ⟨t1, t2⟩ := rf_more Z (Lib.decDigits n.natAbs) hZ r2 (r3 hne)
  have hMd : ∀ c ∈ Lib.decDigits n.natAbs ++ Z, Md c := by
    intro c hc
    rw [List.mem_append] at hc
    unfold Md
    rcases hc with hc | hc
    · have := hd c hc
      unfold dg at this
      exact .inr this
    · have := hZ c hc
      omega
  have hcnt : (Lib.decDigits n.natAbs ++ Z).countP (fun c => c.toNat == 46) ≤ 1 := by
    rw [List.countP_append]
    have : (Lib.decDigits n.natAbs).countP (fun c => c.toNat == 46) = 0 := by
      rw [List.countP_eq_zero]
      intro c hc
      have := hd c hc
      unfold dg at this
      simp only [beq_iff_eq]
      omega
    omega
  have hok := rf_ok _ hMd
  have hbl : (Lib.decDigits n.natAbs ++ Z).length ≤ 23 := by rw [List.length_append]; omega
  have htext : Lib.itoa n ++ (Z ++ ex) = (if n < 0 then [45] else []) ++ ((Lib.decDigits n.natAbs ++ Z) ++ ex) := by
    rw [sgn_text n]; simp
  have hsz : (⟨(Lib.itoa n ++ (Z ++ ex)).toArray⟩ : ByteArray).size ≤ 140737488355328 := by
    show (Lib.itoa n ++ (Z ++ ex)).toArray.size ≤ _
    rw [List.size_toArray, htext, List.length_append, List.length_append]
    split <;> simp only [List.length_cons, List.length_nil] <;> omega
  have hlist : (⟨(Lib.itoa n ++ (Z ++ ex)).toArray⟩ : ByteArray).data.toList = Lib.itoa n ++ (Z ++ ex) := rfl
  have hp100 : (rf (Lib.decDigits n.natAbs ++ Z)).pow 0 ≤ 100 := by
    unfold RF.pow
    have := hok.dp1; have := hok.nd
    split
    · omega
    · split <;> omega
  refine ⟨(rf (Lib.decDigits n.natAbs ++ Z)).mant, (rf (Lib.decDigits n.natAbs ++ Z)).pow 0, decide (n < 0), ⟨?_, hok.big, ?_, by omega, hsz, ?_⟩, hp100⟩
  · intro w
    have := read_float ⟨(Lib.itoa n ++ (Z ++ ex)).toArray⟩ (decide (n < 0)) (Lib.decDigits n.natAbs ++ Z) ex 0 hsz (by rw [hlist, htext]; by_cases hn : n < 0 <;> simp [hn]) hMd t2 (dots_one hcnt) hex w
    unfold RFv at this
    rw [t1] at this
    exact this
  · unfold RF.pow
    have := hok.dp0; have := hok.ndm
    split
    · omega
    · split <;> omega
  · obtain ⟨d, D, hD⟩ : ∃ d D, Lib.decDigits n.natAbs = d :: D := by
      cases h : Lib.decDigits n.natAbs with
      | nil => exact absurd h hne
      | cons d D => exact ⟨d, D, rfl⟩
    rw [hD] at hh
    simp only [List.getD_cons_zero] at hh
    unfold Num1
    rw [hlist, show (⟨(Lib.itoa n ++ (Z ++ ex)).toArray⟩ : ByteArray).size = (Lib.itoa n ++ (Z ++ ex)).length from List.size_toArray, htext, hD]
    by_cases hn : n < 0
    · rw [if_pos hn]
      exact ⟨1, by omega, by simp, fun _ => rfl, by show 48 ≤ d.toNat; omega, by show d.toNat ≤ 57; omega⟩
    · rw [if_neg hn]
      exact ⟨0, by omega, by simp, fun h => by omega, by show 48 ≤ d.toNat; omega, by show d.toNat ≤ 57; omega⟩

theorem int_few (n : Int) (h0 : -9223372036854775808 ≤ n) (h1 : n ≤ 9223372036854775807) : ∃ m p ng, Few ⟨(Lib.itoa n).toArray⟩ m p ng ∧ p ≤ 100 := by
  have := whole_few n h0 h1 [] (.inl rfl)
  rw [List.append_nil] at this
  exact this

theorem puLoop_true (b mx : Nat) : ∀ (l : List UInt8) (n : Nat) (us : Bool), (∀ c ∈ l, dg c.toNat) → puLoop true b mx l n us = puLoop false b mx l n us
  | [], _, _, _ => rfl
  | c :: l, n, us, h => by
    have hc := h c (by simp)
    unfold dg at hc
    unfold puLoop
    rw [if_neg (by omega), if_neg (by simp)]
    cases dig c.toNat with
    | none => rfl
    | some d => simp only [puLoop_true b mx l _ us (fun x hx => h x (by simp [hx]))]

theorem pu0_dec (mx u : Nat) (hmx : 10 ≤ mx) : pu 0 mx (Lib.decDigits u) = if u ≤ mx then .ok u false else .rng := by
  by_cases h0 : u = 0
  · subst h0
    rw [if_pos (Nat.zero_le _), Lib.decDigits_one (by omega)]
    rfl
  · rw [← pu_dec mx u hmx]
    have hne := dec_ne u
    have hh := dec_head_ne (u + 1) u (by omega) (by omega)
    have hd := dec_dig (u + 1) u (by omega)
    unfold pu
    rw [if_neg hne, if_pos rfl, if_neg hne, if_neg (by omega)]
    have hp : pre (Lib.decDigits u) = (10, Lib.decDigits u) := by
      unfold pre
      rw [if_neg hh]
    rw [hp]
    exact puLoop_true 10 mx _ 0 false hd

theorem pu0_all (mx : Nat) (hm : 10 ≤ mx) (n : Int) : pu 0 mx (Lib.itoa n) = if n < 0 then .syn else if n.toNat ≤ mx then .ok n.toNat false else .rng := by
  by_cases hn : n < 0
  · rw [if_pos hn]
    unfold Lib.itoa
    rw [if_pos hn]
    unfold pu
    rw [if_neg (by simp), if_pos rfl]
    have hp : pre (45 :: Lib.decDigits n.natAbs) = (10, 45 :: Lib.decDigits n.natAbs) := by
      unfold pre
      rw [if_neg (by simp)]
    rw [hp]
    simp only [puLoop]
    rw [if_neg (by decide), show dig (45 : UInt8).toNat = none from by decide]
  · rw [if_neg hn]
    unfold Lib.itoa
    rw [if_neg hn, pu0_dec mx _ hm]

theorem pi0_all (mx half : Nat) (hh : 10 ≤ half) (hm : half ≤ mx) (n : Int) : pi 0 mx half (Lib.itoa n) = if -(half : Int) ≤ n ∧ n < (half : Int) then some (n, false) else none := by
  rw [← pi_all mx half hh hm n]
  unfold pi
  rw [sgn_itoa, if_neg (itoa_ne n), if_neg (itoa_ne n)]
  simp only
  rw [pu0_dec mx _ (by omega), pu_dec mx _ (by omega)]

end Go.Proofs.YtpneioocmpagmaaGreatDoor.tx

