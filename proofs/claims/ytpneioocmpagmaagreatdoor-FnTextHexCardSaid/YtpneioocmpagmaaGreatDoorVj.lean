/- strconv.ParseFloat at any text of at most 25 digits: a number, without an error. -/
import Derived.Test.YtpneioocmpagmaaGreatDoorVi
import Derived.Test.YtpneioocmpagmaaGreatDoorTv
namespace Go.Proofs.YtpneioocmpagmaaGreatDoor.dc
open Go.RowKit
open Go.Proofs.YtpneioocmpagmaaGreatDoor.fl Go.Proofs.YtpneioocmpagmaaGreatDoor.jn Go.Proofs.YtpneioocmpagmaaGreatDoor.num
set_option linter.unusedVariables false
set_option linter.unusedSimpArgs false

theorem rf_any (l : List UInt8) (hd : ∀ c ∈ l, dg c.toNat) : (rf l).dot = false ∧ (l ≠ [] → (rf l).dig = true) := by
  induction h : l.length generalizing l with
  | zero => rw [List.eq_nil_of_length_eq_zero h]; exact ⟨rfl, fun h => absurd rfl h⟩
  | succ k ih =>
    obtain ⟨l', c, rfl⟩ : ∃ l' c, l = l' ++ [c] := ⟨l.dropLast, l.getLast (by intro h0; rw [h0] at h; simp at h), (List.dropLast_concat_getLast _).symm⟩
    have hk : l'.length = k := by simp at h; exact h
    obtain ⟨h1, _⟩ := ih l' (fun d hd' => hd d (by simp [hd'])) hk
    have hc := hd c (by simp)
    unfold dg at hc
    rw [rf_snoc]
    unfold RF.step
    rw [if_neg (by omega)]
    split
    · exact ⟨h1, fun _ => rfl⟩
    · split
      · exact ⟨h1, fun _ => rfl⟩
      · split
        · exact ⟨h1, fun _ => rfl⟩
        · exact ⟨h1, fun _ => rfl⟩

theorem rf_noughts (l : List UInt8) (h : ∀ c ∈ l, c.toNat = 48) : (rf l).tr = false ∧ (rf l).nd = 0 := by
  induction hl : l.length generalizing l with
  | zero => rw [List.eq_nil_of_length_eq_zero hl]; exact ⟨rfl, rfl⟩
  | succ k ih =>
    obtain ⟨l', c, rfl⟩ : ∃ l' c, l = l' ++ [c] := ⟨l.dropLast, l.getLast (by intro h0; rw [h0] at hl; simp at hl), (List.dropLast_concat_getLast _).symm⟩
    obtain ⟨h1, h2⟩ := ih l' (fun d hd' => h d (by simp [hd'])) (by simp at hl; exact hl)
    have hc := h c (by simp)
    rw [rf_snoc]
    unfold RF.step
    rw [if_neg (by omega), if_pos ⟨hc, h2⟩]
    exact ⟨h1, h2⟩

/-- The first byte that is no nought. -/
theorem first_one : ∀ (l : List UInt8), ¬ (∀ c ∈ l, c.toNat = 48) → ∃ a, a < l.length ∧ (∀ j, j < a → (l.getD j 0).toNat = 48) ∧ (l.getD a 0).toNat ≠ 48
  | [], h => absurd (fun c hc => by cases hc) h
  | c :: l, h => by
    by_cases hc : c.toNat = 48
    · obtain ⟨a, h1, h2, h3⟩ := first_one l (fun h' => h (by
        intro d hd
        rcases List.mem_cons.1 hd with rfl | hd
        · exact hc
        · exact h' d hd))
      refine ⟨a + 1, by simpa using h1, fun j hj => ?_, by simpa using h3⟩
      cases j with
      | zero => simpa using hc
      | succ j => simpa using h2 j (by omega)
    · exact ⟨0, by simp, fun j hj => by omega, by simpa using hc⟩

theorem digits_float (l : List UInt8) (hd : ∀ c ∈ l, dg c.toNat) (h1 : 1 ≤ l.length) (h2 : l.length ≤ 25) (w : World) (hE : ∀ w', Below w.heap.size w w' → SEnv w') :
    Calls Tryz.prog 89 #[.string ⟨l.toArray⟩, .int .i64 64] w fun e w' => PFn e ∧ Below w.heap.size w w' := by
  have hMd : ∀ c ∈ l, Md c := fun c hc => .inr (hd c hc)
  obtain ⟨r1, r2⟩ := rf_any l hd
  have hne : l ≠ [] := by rintro rfl; simp at h1
  have hok := rf_ok _ hMd
  have hsz : (⟨l.toArray⟩ : ByteArray).size = l.length := List.size_toArray
  have hmax : (⟨l.toArray⟩ : ByteArray).size ≤ 140737488355328 := by omega
  have hget : ∀ (j : Nat) (h : j < (⟨l.toArray⟩ : ByteArray).size), (⟨l.toArray⟩ : ByteArray)[j] = l.getD j 0 := fun j h => at_get _ j h
  have hdig : ∀ j, j < l.length → 48 ≤ (l.getD j 0).toNat ∧ (l.getD j 0).toNat ≤ 57 := fun j hj => by
    rw [List.getD_eq_getElem?_getD, List.getElem?_eq_getElem hj]
    exact hd _ (List.getElem_mem hj)
  have hn : Num1 ⟨l.toArray⟩ := ⟨0, by omega, by omega, fun h => by omega, hdig 0 (by omega)⟩
  have hpw : -345 ≤ (rf l).pow 0 ∧ (rf l).pow 0 ≤ 100 := by
    unfold RF.pow
    have := hok.dp0; have := hok.dp1; have := hok.nd; have := hok.ndm
    rw [r1]
    split
    · omega
    · simp only [Bool.false_eq_true, if_false]; omega
  have hrf := fun w => read_float ⟨l.toArray⟩ false l [] 0 hmax (by simp) hMd (r2 hne) (fun l' c r hl hdot hc => by
    obtain ⟨h, _⟩ := rf_any l' (fun d hd' => hd d (by rw [hl]; simp [hd']))
    rw [h] at hdot; cases hdot) Ex.none w
  unfold RFv at hrf
  cases htr : (rf l).tr with
  | false =>
    rw [htr] at hrf
    exact parse_float_nil ⟨l.toArray⟩ (rf l).mant ((rf l).pow 0) false ⟨hrf, hok.big, by omega, by omega, hmax, hn⟩ hpw.2 w (fun w' h => (hE w' h).few)
  | true =>
    rw [htr] at hrf
    obtain ⟨a, ha, hz, h0⟩ := first_one l (fun h => by rw [(rf_noughts l h).1] at htr; cases htr)
    exact parse_float_slow ⟨l.toArray⟩ (rf l).mant ((rf l).pow 0) a ⟨hrf, hok.big, hpw.1, hpw.2, hn, by omega, by omega, fun j h hj => by rw [hget]; exact hz j hj, fun j h => by rw [hget]; exact hdig j (by omega), by rw [hget]; exact h0⟩ w hE

end Go.Proofs.YtpneioocmpagmaaGreatDoor.dc

