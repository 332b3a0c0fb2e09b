/- A whole number's text, with one of six ends: plain lists. -/
import Derived.Test.YtpneioocmpagmaaGreatDoorNum
namespace Go.Proofs.YtpneioocmpagmaaGreatDoor.jn
open Go.Proofs.YtpneioocmpagmaaGreatDoor.num Go.Proofs.YtpneioocmpagmaaGreatDoor.fl
set_option linter.unusedVariables false
set_option linter.unusedSimpArgs false

theorem at_app (A B : List UInt8) (k : Nat) : at_ (A ++ B) (A.length + k) = at_ B k := by
  unfold at_
  rw [List.getD_eq_getElem?_getD, List.getD_eq_getElem?_getD, List.getElem?_append_right (by omega), show A.length + k - A.length = k from by omega]

theorem at_app0 (A B : List UInt8) : at_ (A ++ B) A.length = at_ B 0 := at_app A B 0

/-- Digits end where another byte comes. -/
theorem run_app : ∀ (Dg A R : List UInt8), (∀ c ∈ Dg, dg c.toNat) → ¬ dg (at_ R 0) → run (A ++ (Dg ++ R)) A.length = A.length + Dg.length
  | [], A, R, _, hR => by
    rw [List.nil_append]
    refine (run_stop ?_).trans (by simp)
    rw [at_app0]; exact hR
  | c :: Dg, A, R, hD, hR => by
    have h1 : dg (at_ (A ++ (c :: Dg ++ R)) A.length) := by
      rw [at_app0]
      exact hD c (by simp)
    rw [run_step h1]
    have := run_app Dg (A ++ [c]) R (fun d hd => hD d (by simp [hd])) hR
    rw [List.length_append, List.length_singleton, List.append_assoc] at this
    rw [show c :: Dg ++ R = [c] ++ (Dg ++ R) from rfl, this, List.length_cons]
    omega

/-! ### decimal texts -/

theorem dec_dig : ∀ (n u : Nat), u < n → ∀ c ∈ Lib.decDigits u, dg c.toNat := by
  intro n
  induction n with
  | zero => intro u h; omega
  | succ n ih =>
    intro u h c hc
    by_cases h10 : u < 10
    · rw [Lib.decDigits_one h10] at hc
      rw [List.mem_singleton] at hc
      rw [hc, UInt8.toNat_ofNat']
      unfold dg; omega
    · rw [show Lib.decDigits u = Lib.decDigits (u / 10) ++ [UInt8.ofNat (48 + u % 10)] from by rw [Lib.decDigits, dif_neg h10]] at hc
      rw [List.mem_append, List.mem_singleton] at hc
      rcases hc with hc | hc
      · exact ih (u / 10) (by omega) c hc
      · rw [hc, UInt8.toNat_ofNat']
        unfold dg; omega

theorem dec_head_ne : ∀ (n u : Nat), u < n → 0 < u → ((Lib.decDigits u).getD 0 0).toNat ≠ 48 := by
  intro n
  induction n with
  | zero => intro u h; omega
  | succ n ih =>
    intro u h h0
    by_cases h10 : u < 10
    · rw [Lib.decDigits_one h10]
      simp only [List.getD_cons_zero]
      rw [UInt8.toNat_ofNat']
      omega
    · rw [show Lib.decDigits u = Lib.decDigits (u / 10) ++ [UInt8.ofNat (48 + u % 10)] from by rw [Lib.decDigits, dif_neg h10]]
      have hl : 0 < (Lib.decDigits (u / 10)).length := List.length_pos_iff.2 (dec_ne _)
      rw [List.getD_eq_getElem?_getD, List.getElem?_append_left hl, ← List.getD_eq_getElem?_getD]
      exact ih (u / 10) (by omega) (by omega)

theorem dec_len19 (u : Nat) (h : u ≤ 9223372036854775808) : (Lib.decDigits u).length ≤ 19 := by
  have : ∀ (k v : Nat), v < 10 ^ (k + 1) → (Lib.decDigits v).length ≤ k + 1 := by
    intro k
    induction k with
    | zero =>
      intro v hv
      rw [Lib.decDigits_one (by simpa using hv)]; simp
    | succ k ih =>
      intro v hv
      by_cases h10 : v < 10
      · rw [Lib.decDigits_one h10]; simp
      · rw [show Lib.decDigits v = Lib.decDigits (v / 10) ++ [UInt8.ofNat (48 + v % 10)] from by rw [Lib.decDigits, dif_neg h10], List.length_append, List.length_singleton]
        have := ih (v / 10) (by rw [Nat.pow_succ] at hv; omega)
        omega
  exact this 18 u (Nat.lt_of_le_of_lt h (by decide))

/-! ### what readFloat reads of them -/

theorem rf_digits : ∀ (l : List UInt8), (∀ c ∈ l, dg c.toNat) → l.length ≤ 19 → (rf l).dot = false ∧ (rf l).tr = false ∧ (l ≠ [] → (rf l).dig = true) ∧ (rf l).ndm ≤ l.length := by
  intro l
  induction h : l.length generalizing l with
  | zero =>
    intro _ _
    rw [List.eq_nil_of_length_eq_zero h]
    exact ⟨rfl, rfl, fun h => absurd rfl h, Nat.le_refl _⟩
  | succ k ih =>
    intro hd hl
    obtain ⟨l', c, rfl⟩ : ∃ l' c, l = l' ++ [c] := ⟨l.dropLast, l.getLast (by intro h0; rw [h0] at h; simp at h), (List.dropLast_concat_getLast _).symm⟩
    have hk : l'.length = k := by simp at h; exact h
    obtain ⟨h1, h2, _, h4⟩ := ih l' hk (fun d hd' => hd d (by simp [hd'])) (by omega)
    have hc := hd c (by simp)
    unfold dg at hc
    rw [rf_snoc]
    unfold RF.step
    rw [if_neg (by omega)]
    split
    · exact ⟨h1, h2, fun _ => rfl, by show (rf l').ndm ≤ _; omega⟩
    · rw [if_pos (by omega)]
      exact ⟨h1, h2, fun _ => rfl, by show (rf l').ndm + 1 ≤ _; omega⟩

/-- Behind it a point or noughts: nothing is lost. -/
theorem rf_more : ∀ (Z l : List UInt8), (∀ c ∈ Z, c.toNat = 46 ∨ c.toNat = 48) → (rf l).tr = false → (rf l).dig = true → (rf (l ++ Z)).tr = false ∧ (rf (l ++ Z)).dig = true
  | [], l, _, h1, h2 => by rw [List.append_nil]; exact ⟨h1, h2⟩
  | c :: Z, l, hZ, h1, h2 => by
    have : l ++ c :: Z = (l ++ [c]) ++ Z := by simp
    rw [this]
    have hc := hZ c (by simp)
    refine rf_more Z (l ++ [c]) (fun d hd => hZ d (by simp [hd])) ?_ ?_
    all_goals
      rw [rf_snoc]
      unfold RF.step
      rcases hc with hc | hc
      · rw [if_pos hc]; first | exact h1 | exact h2
      · rw [if_neg (by omega)]
        split
        · first | exact h1 | rfl
        · split
          · first | exact h1 | rfl
          · first | exact h1 | rfl | (rw [if_pos hc]; first | exact h1 | rfl)

theorem dot_count : ∀ (l : List UInt8) (s : RF), (l.foldl RF.step s).dot = true → s.dot = true ∨ 1 ≤ l.countP (fun c => c.toNat == 46)
  | [], s, h => .inl h
  | c :: l, s, h => by
    rcases dot_count l (s.step c) h with h1 | h1
    · by_cases hc : c.toNat = 46
      · right; rw [List.countP_cons]; simp [hc]
      · left
        unfold RF.step at h1
        rw [if_neg hc] at h1
        split at h1
        · exact h1
        · split at h1
          · exact h1
          · split at h1 <;> exact h1
    · right; rw [List.countP_cons]; omega

theorem dots_one {body : List UInt8} (h : body.countP (fun c => c.toNat == 46) ≤ 1) : ∀ l c r, body = l ++ c :: r → (rf l).dot = true → c.toNat ≠ 46 := by
  intro l c r hb hd hc
  rcases dot_count l _ hd with h1 | h1
  · cases h1
  · rw [hb, List.countP_append, List.countP_cons] at h
    simp [hc] at h
    omega

/-! ### pi, pu -/

theorem puLoop_rng (mx : Nat) : ∀ (l : List UInt8) (n : Nat) (c : UInt8), puLoop false 10 mx l n false = .rng → puLoop false 10 mx (l ++ [c]) n false = .rng
  | [], n, c, h => by simp [puLoop] at h
  | x :: l, n, c, h => by
    simp only [puLoop, Bool.false_eq_true, and_false, if_false, List.cons_append] at h ⊢
    cases hx : dig x.toNat with
    | none => rw [hx] at h; cases h
    | some e =>
      rw [hx] at h
      simp only at h ⊢
      by_cases h1 : 10 ≤ e
      · rw [if_pos h1] at h; cases h
      · rw [if_neg h1] at h ⊢
        by_cases h2 : mx < n * 10 + e
        · rw [if_pos h2]
        · rw [if_neg h2] at h ⊢
          exact puLoop_rng mx l _ c h

theorem puLoop_last (mx : Nat) : ∀ (l : List UInt8) (n : Nat) (c : UInt8) (d m : Nat), puLoop false 10 mx l n false = .ok m false → dig c.toNat = some d → d < 10 → mx < m * 10 + d → puLoop false 10 mx (l ++ [c]) n false = .rng
  | [], n, c, d, m, h, hd, hdb, hm => by
    simp only [puLoop] at h
    cases h
    simp only [List.nil_append, puLoop, Bool.false_eq_true, and_false, if_false, hd]
    rw [if_neg (by omega), if_pos (by omega)]
  | x :: l, n, c, d, m, h, hd, hdb, hm => by
    simp only [puLoop, Bool.false_eq_true, and_false, if_false, List.cons_append] at h ⊢
    cases hx : dig x.toNat with
    | none => rw [hx] at h; cases h
    | some e =>
      rw [hx] at h
      simp only at h ⊢
      by_cases h1 : 10 ≤ e
      · rw [if_pos h1] at h; cases h
      · rw [if_neg h1] at h ⊢
        by_cases h2 : mx < n * 10 + e
        · rw [if_pos h2]
        · rw [if_neg h2] at h ⊢
          exact puLoop_last mx l _ c d m h hd hdb hm

theorem puLoop_big (mx : Nat) (hmx : 10 ≤ mx) : ∀ (n u : Nat), u < n → mx < u → puLoop false 10 mx (Lib.decDigits u) 0 false = .rng := by
  intro n
  induction n with
  | zero => intro u h; omega
  | succ n ih =>
    intro u h hm
    have h10 : ¬ u < 10 := by omega
    rw [show Lib.decDigits u = Lib.decDigits (u / 10) ++ [UInt8.ofNat (48 + u % 10)] from by rw [Lib.decDigits, dif_neg h10]]
    by_cases hq : mx < u / 10
    · exact puLoop_rng mx _ 0 _ (ih (u / 10) (by omega) hq)
    · exact puLoop_last mx _ 0 _ (u % 10) (u / 10) (puLoop_dec mx (u / 10 + 1) (u / 10) (by omega) (by omega)) (dig_dec (by omega)) (by omega) (by omega)

theorem pu_dec (mx u : Nat) (hmx : 10 ≤ mx) : pu 10 mx (Lib.decDigits u) = if u ≤ mx then .ok u false else .rng := by
  unfold pu
  rw [if_neg (dec_ne _), if_neg (by omega)]
  split
  · exact puLoop_dec _ (u + 1) _ (by omega) (by omega)
  · exact puLoop_big _ hmx (u + 1) _ (by omega) (by omega)

theorem sgn_itoa (n : Int) : sgn (Lib.itoa n) = (decide (n < 0), Lib.decDigits n.natAbs) := by
  unfold Lib.itoa
  by_cases hn : n < 0
  · rw [if_pos hn]
    unfold sgn
    simp [hn]
  · rw [if_neg hn]
    have hh := dec_head (n.toNat + 1) n.toNat (by omega)
    unfold sgn
    rw [if_neg (by omega), if_neg (by omega)]
    rw [decide_eq_false hn, show n.toNat = n.natAbs from by omega]

theorem itoa_ne (n : Int) : Lib.itoa n ≠ [] := by
  unfold Lib.itoa
  split
  · simp
  · exact dec_ne _

/-- A whole number's text, as Int reads it. -/
theorem pi_all (mx half : Nat) (hh : 10 ≤ half) (hm : half ≤ mx) (n : Int) : pi 10 mx half (Lib.itoa n) = if -(half : Int) ≤ n ∧ n < (half : Int) then some (n, false) else none := by
  unfold pi
  rw [if_neg (itoa_ne n), sgn_itoa, pu_dec mx _ (by omega)]
  by_cases h : n.natAbs ≤ mx
  · rw [if_pos h]
    simp only
    by_cases hn : n < 0
    · rw [decide_eq_true hn]
      simp only
      by_cases hc : n.natAbs ≤ half
      · rw [if_pos (by omega : -(half : Int) ≤ n ∧ n < (half : Int))]
        simp
        omega
      · rw [if_neg (by omega : ¬ (-(half : Int) ≤ n ∧ n < (half : Int)))]
        simp
        omega
    · rw [decide_eq_false hn]
      by_cases hc : n.natAbs < half
      · rw [if_pos (by omega : -(half : Int) ≤ n ∧ n < (half : Int))]
        simp
        omega
      · rw [if_neg (by omega : ¬ (-(half : Int) ≤ n ∧ n < (half : Int)))]
        simp
        omega
  · rw [if_neg h, if_neg (by omega : ¬ (-(half : Int) ≤ n ∧ n < (half : Int)))]

theorem pu_all (mx : Nat) (hm : 10 ≤ mx) (n : Int) : pu 10 mx (Lib.itoa n) = if n < 0 then .syn else if n.toNat ≤ mx then .ok n.toNat false else .rng := by
  unfold Lib.itoa
  by_cases hn : n < 0
  · rw [if_pos hn, if_pos hn]
    unfold pu
    rw [if_neg (by simp), if_neg (by omega)]
    simp only [puLoop, Bool.false_eq_true, and_false, if_false]
    rw [show dig (45 : UInt8).toNat = none from by decide]
  · rw [if_neg hn, if_neg hn, pu_dec mx _ hm]

/-- The six ends. -/
def Sfx (s : List UInt8) : Prop := s = [] ∨ s = [46, 48] ∨ s = [46, 48, 48, 48] ∨ s = [101, 48] ∨ s = [69, 43, 48, 48] ∨ s = [46, 48, 101, 45, 48]

theorem sgn_text (n : Int) : Lib.itoa n = (if n < 0 then [45] else []) ++ Lib.decDigits n.natAbs := by
  unfold Lib.itoa
  by_cases h : n < 0
  · rw [if_pos h, if_pos h]; rfl
  · rw [if_neg h, if_neg h, show n.toNat = n.natAbs from by omega]; rfl

end Go.Proofs.YtpneioocmpagmaaGreatDoor.jn

