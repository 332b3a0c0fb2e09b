/- A whole number's text, with one of six ends: what json.Token and strconv.ParseFloat are told of it. -/
import Derived.Test.YtdeehmjdbjlfkaaGreatDoorGj
import Derived.Test.YtdeehmjdbjlfkaaGreatDoorGi
import Derived.Test.YtdeehmjdbjlfkaaGreatDoorFe
namespace Go.Proofs.YtdeehmjdbjlfkaaGreatDoor.jn
open Go.RowKit Go.Proofs.YtdeehmjdbjlfkaaGreatDoor.js Go.Proofs.YtdeehmjdbjlfkaaGreatDoor.pu Go.Proofs.YtdeehmjdbjlfkaaGreatDoor.num Go.Proofs.YtdeehmjdbjlfkaaGreatDoor.fl
set_option linter.unusedVariables false
set_option linter.unusedSimpArgs false

theorem take_sub (A s : List UInt8) (k n : Nat) : ((A ++ s).drop (A.length + k)).take n = (s.drop k).take n := by
  rw [List.drop_append, List.drop_eq_nil_of_le (by omega), List.nil_append, show A.length + k - A.length = k from by omega]

theorem forms (A s : List UInt8) (hs : Sfx s) : ¬ dg (at_ s 0) ∧ ∃ f, fP (A ++ s) A.length = A.length + f ∧ pnC (A ++ s) (A.length + f) = some (A.length + s.length) ∧ tlen (A ++ s) (A.length + 1) (A.length + f - (A.length + 1)) = 0 ∧
    (A.length + s.length - (A.length + f + 1) = 0 ∨ pi 10 (2 ^ 32 - 1) (2 ^ (32 - 1)) (((A ++ s).drop (A.length + f + 1)).take (A.length + s.length - (A.length + f + 1))) = some (0, false)) := by
  have hat : ∀ k, at_ (A ++ s) (A.length + k) = at_ s k := fun k => at_app A s k
  have hat0 : at_ (A ++ s) A.length = at_ s 0 := at_app0 A s
  have hlen : (A ++ s).length = A.length + s.length := List.length_append
  have hr : ∀ k, dg (at_ s k) → run (A ++ s) (A.length + k) = run (A ++ s) (A.length + (k + 1)) := fun k h => run_step (by rw [hat]; exact h)
  have hr0 : ∀ k, ¬ dg (at_ s k) → run (A ++ s) (A.length + k) = A.length + k := fun k h => run_stop (by rw [hat]; exact h)
  have hsub : ∀ k n, ((A ++ s).drop (A.length + k)).take n = (s.drop k).take n := take_sub A s
  rcases hs with rfl | rfl | rfl | rfl | rfl | rfl
  · refine ⟨by decide, 0, ?_, ?_, ?_, .inl (by simp)⟩
    · unfold fP; rw [hat0, if_neg (fun h => absurd h.1 (by decide))]; rfl
    · unfold pnC; rw [hat 0, if_neg (fun h => absurd h.1 (by decide))]; unfold pnD; rw [hat 0, if_neg (by decide)]; rfl
    · rw [show A.length + 0 - (A.length + 1) = 0 from by omega]; rfl
  · refine ⟨by decide, 2, ?_, ?_, ?_, .inl (by simp)⟩
    · unfold fP; rw [hat0, hat 1, if_pos (by decide), hr0 2 (by decide)]
    · unfold pnC; rw [hat 2, if_neg (fun h => absurd h.1 (by decide))]; unfold pnD; rw [hat 2, if_neg (by decide)]; rfl
    · rw [show A.length + 2 - (A.length + 1) = 0 + 1 from by omega]; unfold tlen
      rw [Nat.add_zero, hat 1, if_pos (by decide)]; rfl
  · refine ⟨by decide, 4, ?_, ?_, ?_, .inl (by simp)⟩
    · unfold fP; rw [hat0, hat 1, if_pos (by decide), hr 2 (by decide), hr 3 (by decide), hr0 4 (by decide)]
    · unfold pnC; rw [hat 4, if_neg (fun h => absurd h.1 (by decide))]; unfold pnD; rw [hat 4, if_neg (by decide)]; rfl
    · rw [show A.length + 4 - (A.length + 1) = 0 + 1 + 1 + 1 from by omega]; unfold tlen
      rw [show A.length + 1 + (0 + 1 + 1) = A.length + 3 from by omega, hat 3, if_pos (by decide)]; unfold tlen
      rw [show A.length + 1 + (0 + 1) = A.length + 2 from by omega, hat 2, if_pos (by decide)]; unfold tlen
      rw [Nat.add_zero, hat 1, if_pos (by decide)]; rfl
  · refine ⟨by decide, 0, ?_, ?_, ?_, .inr ?_⟩
    · unfold fP; rw [hat0, if_neg (fun h => absurd h.1 (by decide))]; rfl
    · unfold pnC; rw [hat 0, Nat.add_zero, hat 1, hlen, if_pos ⟨.inl rfl, by simp⟩, if_neg (by decide), hr 1 (by decide), hr0 2 (by decide)]; unfold pnD; rw [hat 2, if_neg (by decide)]; rfl
    · rw [show A.length + 0 - (A.length + 1) = 0 from by omega]; rfl
    · rw [show A.length + 0 + 1 = A.length + 1 from by omega, hsub 1]
      rw [show A.length + [(101 : UInt8), 48].length - (A.length + 1) = 1 from by simp]
      decide
  · refine ⟨by decide, 0, ?_, ?_, ?_, .inr ?_⟩
    · unfold fP; rw [hat0, if_neg (fun h => absurd h.1 (by decide))]; rfl
    · unfold pnC; rw [hat 0, Nat.add_zero, hat 1, hlen, if_pos ⟨.inr rfl, by simp⟩, if_pos (by decide), if_pos (by simp), hr 2 (by decide), hr 3 (by decide), hr0 4 (by decide)]; unfold pnD; rw [hat 4, if_neg (by decide)]; rfl
    · rw [show A.length + 0 - (A.length + 1) = 0 from by omega]; rfl
    · rw [show A.length + 0 + 1 = A.length + 1 from by omega, hsub 1]
      rw [show A.length + [(69 : UInt8), 43, 48, 48].length - (A.length + 1) = 3 from by simp]
      decide
  · refine ⟨by decide, 2, ?_, ?_, ?_, .inr ?_⟩
    · unfold fP; rw [hat0, hat 1, if_pos (by decide), hr0 2 (by decide)]
    · unfold pnC; rw [hat 2, show A.length + 2 + 1 = A.length + 3 from by omega, hat 3, hlen, if_pos ⟨.inl rfl, by simp⟩, if_pos (by decide), show A.length + 2 + 2 = A.length + 4 from by omega, if_pos (by simp), hr 4 (by decide), hr0 5 (by decide)]; unfold pnD; rw [hat 5, if_neg (by decide)]; rfl
    · rw [show A.length + 2 - (A.length + 1) = 0 + 1 from by omega]; unfold tlen
      rw [Nat.add_zero, hat 1, if_pos (by decide)]; rfl
    · rw [show A.length + 2 + 1 = A.length + 3 from by omega, hsub 3]
      rw [show A.length + [(46 : UInt8), 48, 101, 45, 48].length - (A.length + 3) = 2 from by simp]
      decide

theorem pn_of {T : List UInt8} {P : Nat} (h : at_ T (iP T P) = 48 ∨ (49 ≤ at_ T (iP T P) ∧ at_ T (iP T P) ≤ 57)) : pn T P = pnC T (fP T (jP T (iP T P))) := by
  show pnE T (iP T P) = _
  unfold pnE pnB fP jP
  rcases h with h | h
  · rw [if_pos h, if_pos h]
  · have hne : ¬ at_ T (iP T P) = 48 := by omega
    rw [if_neg hne, if_pos h, if_neg hne]

theorem at_head (D s : List UInt8) (h : D ≠ []) : at_ (D ++ s) 0 = (D.getD 0 0).toNat := by
  cases D with
  | nil => exact absurd rfl h
  | cons c l => rfl

/-- Where a whole number's digits begin and end. -/
theorem whole_pos (n : Int) (s : List UInt8) (hs : ¬ dg (at_ s 0)) : iP (Lib.itoa n ++ s) 0 = (if n < 0 then 1 else 0) ∧ jP (Lib.itoa n ++ s) (if n < 0 then 1 else 0) = (Lib.itoa n).length ∧
    (decide (at_ (Lib.itoa n ++ s) 0 = 45) = decide (n < 0)) ∧ (at_ (Lib.itoa n ++ s) (if n < 0 then 1 else 0) = ((Lib.decDigits n.natAbs).getD 0 0).toNat) ∧ NumHead (at_ (Lib.itoa n ++ s) 0) := by
  have hne := dec_ne n.natAbs
  have hh := dec_head (n.natAbs + 1) n.natAbs (by omega)
  obtain ⟨d, D, hD⟩ : ∃ d D, Lib.decDigits n.natAbs = d :: D := by
    cases h : Lib.decDigits n.natAbs with
    | nil => exact absurd h hne
    | cons d D => exact ⟨d, D, rfl⟩
  have hdig : ∀ c ∈ D, dg c.toNat := fun c hc => dec_dig (n.natAbs + 1) n.natAbs (by omega) c (by rw [hD]; simp [hc])
  have hz : d.toNat = 48 → D = [] := fun h => by
    rcases Nat.eq_zero_or_pos n.natAbs with h0 | h0
    · rw [h0, Lib.decDigits_one (by omega)] at hD
      injection hD with _ h2
      exact h2.symm
    · have := dec_head_ne (n.natAbs + 1) n.natAbs (by omega) h0
      rw [hD] at this
      exact absurd h this
  rw [sgn_text n, hD]
  rw [hD] at hh
  simp only [List.getD_cons_zero] at hh ⊢
  by_cases hn : n < 0
  · simp only [if_pos hn]
    have e : ([45] ++ d :: D) ++ s = [45] ++ (d :: (D ++ s)) := by simp
    have a0 : at_ (([45] ++ d :: D) ++ s) 0 = 45 := rfl
    have a1 : at_ (([45] ++ d :: D) ++ s) 1 = d.toNat := rfl
    refine ⟨?_, ?_, ?_, a1, .inl a0⟩
    · unfold iP; rw [if_pos a0]
    · unfold jP
      rw [a1]
      by_cases h48 : d.toNat = 48
      · rw [if_pos h48, hz h48]; rfl
      · rw [if_neg h48]
        have := run_app D ([45] ++ [d]) s hdig hs
        rw [show [45] ++ d :: D ++ s = ([45] ++ [d]) ++ (D ++ s) from by simp]
        rw [show 1 + 1 = ([(45 : UInt8)] ++ [d]).length from rfl, this]
        simp; omega
    · rw [a0]; simp [hn]
  · simp only [if_neg hn]
    have a0 : at_ (([] ++ d :: D) ++ s) 0 = d.toNat := rfl
    refine ⟨?_, ?_, ?_, a0, ?_⟩
    · unfold iP; rw [if_neg (by rw [a0]; omega)]
    · unfold jP
      rw [a0]
      by_cases h48 : d.toNat = 48
      · rw [if_pos h48, hz h48]; rfl
      · rw [if_neg h48]
        have := run_app D [d] s hdig hs
        rw [show [] ++ d :: D ++ s = [d] ++ (D ++ s) from by simp]
        rw [show 0 + 1 = ([d] : List UInt8).length from rfl, this]
        simp; omega
    · rw [a0, decide_eq_false hn]
      exact decide_eq_false (by omega)
    · rw [a0]; unfold NumHead; omega

theorem whole_n (n : Int) (h0 : -9223372036854775808 ≤ n) (h1 : n ≤ 9223372036854775807) (s : List UInt8) (hs : Sfx s) :
    WholeN (Lib.itoa n ++ s) (Lib.itoa n ++ s).length 0 ∧ IntS (Lib.itoa n ++ s) 0 = ⟨(Lib.itoa n).toArray⟩ ∧ NumHead (at_ (Lib.itoa n ++ s) 0) := by
  obtain ⟨hsd, f, f1, f2, f3, f4⟩ := forms (Lib.itoa n) s hs
  obtain ⟨p1, p2, p3, p4, p5⟩ := whole_pos n s hsd
  have hh := dec_head (n.natAbs + 1) n.natAbs (by omega)
  have hl := dec_len19 n.natAbs (by omega)
  have hpos : 0 < (Lib.decDigits n.natAbs).length := List.length_pos_iff.2 (dec_ne _)
  have hil : (Lib.itoa n).length = (if n < 0 then 1 else 0) + (Lib.decDigits n.natAbs).length := by
    rw [sgn_text, List.length_append]; split <;> rfl
  have hjp : jP (Lib.itoa n ++ s) (iP (Lib.itoa n ++ s) 0) = (Lib.itoa n).length := by rw [p1]; exact p2
  have hni : nI (Lib.itoa n ++ s) 0 = if n = 0 then 0 else (Lib.decDigits n.natAbs).length := by
    unfold nI
    rw [hjp, p1, p4]
    by_cases hz : n = 0
    · rw [hz, if_pos rfl, if_pos (by show ((Lib.decDigits 0).getD 0 0).toNat = 48; rw [Lib.decDigits_one (by omega)]; rfl)]
    · rw [if_neg hz, if_neg (dec_head_ne (n.natAbs + 1) n.natAbs (by omega) (by omega)), hil]; omega
  refine ⟨⟨?_, ?_, ?_, ?_, ?_⟩, ?_, p5⟩
  · rw [pn_of (by rw [p1, p4]; omega), hjp, f1, f2, List.length_append]
  · rw [hni]; split <;> omega
  · rw [hni, p1, List.length_append, hil]
    split <;> split <;> omega
  · rw [hjp, f1]; exact f3
  · rw [hjp, f1, List.length_append]; exact f4
  · unfold IntS
    rw [hni, p1, p3]
    congr 2
    unfold NormS
    by_cases hz : n = 0
    · subst hz
      rw [if_pos rfl, if_pos rfl]
      unfold Lib.itoa
      rw [if_neg (by omega), show (0 : Int).toNat = 0 from rfl, Lib.decDigits_one (by omega)]
      rfl
    · rw [if_neg hz, if_neg (by omega), sgn_text n]
      by_cases hn : n < 0
      · simp only [hn, decide_true, if_true, if_pos]
        simp
      · simp only [hn, decide_false, if_false, Bool.false_eq_true]
        simp

end Go.Proofs.YtdeehmjdbjlfkaaGreatDoor.jn
