/- Strings one behind the other, with blanks between: plain lists. -/
import Derived.Test.YtpneioocmpagmaaGreatDoorQi
namespace Go.Proofs.YtpneioocmpagmaaGreatDoor.tx
set_option linter.unusedVariables false
set_option linter.unusedSimpArgs false

/-- What may stand ahead of a string. -/
def Blank (bl : List UInt8) : Prop := bl = [] ∨ bl = [32] ∨ bl = [10] ∨ bl = [9, 32] ∨ bl = [35, 32, 97, 32, 114, 101, 109, 97, 114, 107, 10]

/-- A text s stands for the strings os. -/
inductive Bl : List UInt8 → List (List UInt8) → Prop where
  | nil : Bl [] []
  | cons (bl g x s : List UInt8) (os : List (List UInt8)) : Blank bl → Tenc g x → Bl s os → Bl (bl ++ (34 :: (g ++ (34 :: s)))) (x :: os)

theorem bl_snoc {s : List UInt8} {os : List (List UInt8)} (h : Bl s os) {bl g x : List UInt8} (hb : Blank bl) (hg : Tenc g x) : Bl (s ++ (bl ++ (34 :: g ++ [34]))) (os ++ [x]) := by
  induction h with
  | nil => simpa using Bl.cons bl g x [] [] hb hg .nil
  | cons bl' g' x' s' os' h1 h2 h3 ih => simpa using Bl.cons bl' g' x' _ _ h1 h2 ih

theorem drop_tail {T m : List UInt8} {k : Nat} {c : UInt8} (h : T.drop k = c :: m) : k < T.length ∧ T.getD k 0 = c ∧ T.drop (k + 1) = m := by
  have h1 := congrArg List.length h
  simp at h1
  refine ⟨by omega, ?_, ?_⟩
  · have := congrArg (fun l => List.getD l 0 0) h
    simp only [getD_drop, Nat.add_zero] at this
    exact this
  · rw [← List.drop_drop, h]; rfl

theorem sk_blank {T m bl : List UInt8} {k : Nat} (hb : Blank bl) (h : T.drop k = bl ++ (34 :: m)) : Sk T k (k + bl.length) ∧ T.drop (k + bl.length) = 34 :: m := by
  have stop : ∀ p, T.drop p = 34 :: m → Sk T p p := fun p hp => .stop p (fun _ => by rw [(drop_tail hp).2.1]; exact ⟨rfl, by decide⟩)
  rcases hb with rfl | rfl | rfl | rfl | rfl
  · exact ⟨stop k h, h⟩
  · obtain ⟨h1, h2, h3⟩ := drop_tail h
    exact ⟨.blank k _ h1 (by rw [h2]; rfl) (stop _ h3), h3⟩
  · obtain ⟨h1, h2, h3⟩ := drop_tail h
    exact ⟨.blank k _ h1 (by rw [h2]; rfl) (stop _ h3), h3⟩
  · obtain ⟨h1, h2, h3⟩ := drop_tail h
    obtain ⟨h4, h5, h6⟩ := drop_tail h3
    exact ⟨.blank k _ h1 (by rw [h2]; rfl) (.blank (k + 1) _ h4 (by rw [h5]; rfl) (stop _ h6)), h6⟩
  · have hlen := congrArg List.length h
    simp at hlen
    have hd : T.drop (k + 11) = 34 :: m := by rw [← List.drop_drop, h]; rfl
    have hg : ∀ j, j < 11 → T.getD (k + j) 0 = ([35, 32, 97, 32, 114, 101, 109, 97, 114, 107, 10] : List UInt8).getD j 0 := by
      intro j hj
      rw [← getD_drop, h, List.getD_eq_getElem?_getD, List.getElem?_append_left (by simpa using hj), ← List.getD_eq_getElem?_getD]
    refine ⟨.remark k 10 _ (by omega) ?_ ?_ ?_ (stop _ hd), hd⟩
    · have := hg 0 (by omega); rw [Nat.add_zero] at this; rw [this]; rfl
    · rw [hg 10 (by omega)]; rfl
    · intro j hj
      rw [hg j (by omega)]
      rcases (by omega : j = 0 ∨ j = 1 ∨ j = 2 ∨ j = 3 ∨ j = 4 ∨ j = 5 ∨ j = 6 ∨ j = 7 ∨ j = 8 ∨ j = 9) with rfl | rfl | rfl | rfl | rfl | rfl | rfl | rfl | rfl | rfl
      all_goals decide

theorem jn_of {s : List UInt8} {os : List (List UInt8)} (h : Bl s os) : ∀ (T : List UInt8) (k : Nat), k ≤ T.length → T.drop k = s → ∃ p, Sk T k p ∧ Jn T T.length T.length p os ∧ (os ≠ [] → p < T.length ∧ T.getD p 0 = 34) := by
  induction h with
  | nil =>
    intro T k hk hd
    have h1 := congrArg List.length hd
    simp at h1
    obtain rfl : k = T.length := by omega
    exact ⟨T.length, .stop _ (fun h => absurd h (Nat.lt_irrefl _)), .stop (fun h => absurd h (Nat.lt_irrefl _)), fun h => absurd rfl h⟩
  | cons bl g x s os hb hg hs ih =>
    intro T k hk hd
    obtain ⟨h1, h2⟩ := sk_blank hb hd
    obtain ⟨h3, h4, h5⟩ := drop_tail h2
    have hl := congrArg List.length h2
    simp at hl
    have hds : T.drop (T.length - s.length) = s := by
      have e : T.length - s.length = k + bl.length + (1 + g.length + 1) := by omega
      rw [e, ← List.drop_drop, h2]
      have e2 : (34 :: (g ++ (34 :: s)) : List UInt8) = (34 :: (g ++ [34])) ++ s := by simp
      rw [e2, List.drop_left' (by simp; omega)]
    obtain ⟨p', k1, k2, _⟩ := ih T (T.length - s.length) (by omega) hds
    have htu : Tu s (g ++ (34 :: s)) x := by
      have := hg s (34 :: s) [] .nil
      simpa using this
    exact ⟨k + bl.length, h1, .str _ p' _ s x os h2 htu k1 k2, fun _ => ⟨h3, h4⟩⟩

end Go.Proofs.YtpneioocmpagmaaGreatDoor.tx
