/- A whole number's text, with one of six ends, is a decimal of few digits. -/
import Derived.Test.YtdeehmjdbjlfkaaGreatDoorGk
import Derived.Test.YtdeehmjdbjlfkaaGreatDoorFk
namespace Go.Proofs.YtdeehmjdbjlfkaaGreatDoor.jn
open Go.RowKit Go.Proofs.YtdeehmjdbjlfkaaGreatDoor.js Go.Proofs.YtdeehmjdbjlfkaaGreatDoor.pu Go.Proofs.YtdeehmjdbjlfkaaGreatDoor.num Go.Proofs.YtdeehmjdbjlfkaaGreatDoor.fl
set_option linter.unusedVariables false
set_option linter.unusedSimpArgs false

/-- An end: a point and noughts, and a power that is nought. -/
theorem sfx_parts {s : List UInt8} (hs : Sfx s) : ∃ Z ex, s = Z ++ ex ∧ (∀ c ∈ Z, c.toNat = 46 ∨ c.toNat = 48) ∧ Z.countP (fun c => c.toNat == 46) ≤ 1 ∧ Ex ex 0 ∧ Z.length ≤ 4 ∧ ex.length ≤ 4 := by
  have p : Ex [101, 48] 0 := Ex.plain 101 [48] (.inl rfl) (by simp) (by decide)
  have q : Ex [69, 43, 48, 48] 0 := Ex.plus 69 [48, 48] (.inr rfl) (by simp) (by decide)
  have r : Ex [101, 45, 48] 0 := Ex.minus 101 [48] (.inl rfl) (by simp) (by decide)
  rcases hs with rfl | rfl | rfl | rfl | rfl | rfl
  · exact ⟨[], [], rfl, by simp, by simp, Ex.none, by simp, by simp⟩
  · exact ⟨[46, 48], [], rfl, by decide, by decide, Ex.none, by simp, by simp⟩
  · exact ⟨[46, 48, 48, 48], [], rfl, by decide, by decide, Ex.none, by simp, by simp⟩
  · exact ⟨[], [101, 48], rfl, by simp, by simp, p, by simp, by simp⟩
  · exact ⟨[], [69, 43, 48, 48], rfl, by simp, by simp, q, by simp, by simp⟩
  · exact ⟨[46, 48], [101, 45, 48], rfl, by decide, by decide, r, by simp, by simp⟩

theorem whole_few (n : Int) (h0 : -9223372036854775808 ≤ n) (h1 : n ≤ 9223372036854775807) (s : List UInt8) (hs : Sfx s) :
    ∃ m p ng, Few ⟨(Lib.itoa n ++ s).toArray⟩ m p ng := by
  obtain ⟨Z, ex, rfl, hZ, hZ1, hex, hzl, hel⟩ := sfx_parts hs
  have hne := dec_ne n.natAbs
  have hh := dec_head (n.natAbs + 1) n.natAbs (by omega)
  have hl := dec_len19 n.natAbs (by omega)
  have hd := dec_dig (n.natAbs + 1) n.natAbs (by omega)
  obtain ⟨r1, r2, r3, r4⟩ := rf_digits (Lib.decDigits n.natAbs) hd hl
  obtain ⟨t1, t2⟩ := rf_more Z (Lib.decDigits n.natAbs) hZ r2 (r3 hne)
  have hMd : ∀ c ∈ Lib.decDigits n.natAbs ++ Z, Md c := by
    intro c hc
    rw [List.mem_append] at hc
    unfold Md
    rcases hc with hc | hc
    · have := hd c hc
      unfold dg at this
      exact .inr this
    · have := hZ c hc
      omega
  have hcnt : (Lib.decDigits n.natAbs ++ Z).countP (fun c => c.toNat == 46) ≤ 1 := by
    rw [List.countP_append]
    have : (Lib.decDigits n.natAbs).countP (fun c => c.toNat == 46) = 0 := by
      rw [List.countP_eq_zero]
      intro c hc
      have := hd c hc
      unfold dg at this
      simp only [beq_iff_eq]
      omega
    omega
  have hok := rf_ok _ hMd
  have hbl : (Lib.decDigits n.natAbs ++ Z).length ≤ 23 := by rw [List.length_append]; omega
  have htext : Lib.itoa n ++ (Z ++ ex) = (if n < 0 then [45] else []) ++ ((Lib.decDigits n.natAbs ++ Z) ++ ex) := by
    rw [sgn_text n]; simp
  have hsz : (⟨(Lib.itoa n ++ (Z ++ ex)).toArray⟩ : ByteArray).size ≤ 140737488355328 := by
    show (Lib.itoa n ++ (Z ++ ex)).toArray.size ≤ _
    rw [List.size_toArray, htext, List.length_append, List.length_append]
    split <;> simp only [List.length_cons, List.length_nil] <;> omega
  have hlist : (⟨(Lib.itoa n ++ (Z ++ ex)).toArray⟩ : ByteArray).data.toList = Lib.itoa n ++ (Z ++ ex) := rfl
  refine ⟨(rf (Lib.decDigits n.natAbs ++ Z)).mant, (rf (Lib.decDigits n.natAbs ++ Z)).pow 0, decide (n < 0), ?_, hok.big, ?_, ?_, hsz, ?_⟩
  · intro w
    have := read_float ⟨(Lib.itoa n ++ (Z ++ ex)).toArray⟩ (decide (n < 0)) (Lib.decDigits n.natAbs ++ Z) ex 0 hsz (by rw [hlist, htext]; by_cases hn : n < 0 <;> simp [hn]) hMd t2 (dots_one hcnt) hex w
    unfold RFv at this
    rw [t1] at this
    exact this
  · unfold RF.pow
    have := hok.dp0; have := hok.ndm
    split
    · omega
    · split <;> omega
  · unfold RF.pow
    have := hok.dp1; have := hok.nd
    split
    · omega
    · split <;> omega
  · obtain ⟨d, D, hD⟩ : ∃ d D, Lib.decDigits n.natAbs = d :: D := by
      cases h : Lib.decDigits n.natAbs with
      | nil => exact absurd h hne
      | cons d D => exact ⟨d, D, rfl⟩
    rw [hD] at hh
    simp only [List.getD_cons_zero] at hh
    unfold Num1
    rw [hlist, show (⟨(Lib.itoa n ++ (Z ++ ex)).toArray⟩ : ByteArray).size = (Lib.itoa n ++ (Z ++ ex)).length from List.size_toArray, htext, hD]
    by_cases hn : n < 0
    · rw [if_pos hn]
      exact ⟨1, by omega, by simp, fun _ => rfl, by show 48 ≤ d.toNat; omega, by show d.toNat ≤ 57; omega⟩
    · rw [if_neg hn]
      exact ⟨0, by omega, by simp, fun h => by omega, by show 48 ≤ d.toNat; omega, by show d.toNat ≤ 57; omega⟩

end Go.Proofs.YtdeehmjdbjlfkaaGreatDoor.jn
