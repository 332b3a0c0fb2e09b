/- What readFloat reads of a decimal: plain numbers. -/
import Derived.Lib.Hide
namespace Go.Proofs.YtpneioocmpagmaaGreatDoor.fl

/-- What is known behind some of a mantissa's bytes: its first 19 digits as a number, how many digits there are, how many of them are in the number, where the point is; whether a point, a digit, a digit that is lost was seen. -/
structure RF where
  mant : Nat
  nd : Nat
  ndm : Nat
  dp : Int
  dot : Bool
  dig : Bool
  tr : Bool

def RF.step (s : RF) (c : UInt8) : RF :=
  if c.toNat = 46 then ⟨s.mant, s.nd, s.ndm, s.nd, true, s.dig, s.tr⟩
  else if c.toNat = 48 ∧ s.nd = 0 then ⟨s.mant, s.nd, s.ndm, s.dp - 1, s.dot, true, s.tr⟩
  else if s.ndm < 19 then ⟨s.mant * 10 + (c.toNat - 48), s.nd + 1, s.ndm + 1, s.dp, s.dot, true, s.tr⟩
  else if c.toNat = 48 then ⟨s.mant, s.nd + 1, s.ndm, s.dp, s.dot, true, s.tr⟩
  else ⟨s.mant, s.nd + 1, s.ndm, s.dp, s.dot, true, true⟩

def rf (l : List UInt8) : RF := l.foldl RF.step ⟨0, 0, 0, 0, false, false, false⟩

theorem rf_nil : rf [] = ⟨0, 0, 0, 0, false, false, false⟩ := rfl
theorem rf_snoc (l : List UInt8) (c : UInt8) : rf (l ++ [c]) = (rf l).step c := by unfold rf; rw [List.foldl_append]; rfl

/-- A digit or a point. -/
def Md (c : UInt8) : Prop := c.toNat = 46 ∨ (48 ≤ c.toNat ∧ c.toNat ≤ 57)

structure RF.Ok (n : Nat) (s : RF) : Prop where
  mant : s.mant < 10 ^ s.ndm
  ndm : s.ndm ≤ 19
  le : s.ndm ≤ s.nd
  nd : s.nd ≤ n
  dp0 : -(n : Int) ≤ s.dp
  dp1 : s.dp ≤ n

theorem RF.Ok.big {n : Nat} {s : RF} (h : RF.Ok n s) : s.mant < 10000000000000000000 :=
  Nat.lt_of_lt_of_le h.mant (Nat.le_trans (Nat.pow_le_pow_right (by omega) h.ndm) (by decide))

theorem step_ok {n : Nat} {s : RF} (h : RF.Ok n s) {c : UInt8} (hc : Md c) : RF.Ok (n + 1) (s.step c) := by
  have h1 := h.ndm
  have h2 := h.le
  have h3 := h.nd
  have h4 := h.dp0
  have h5 := h.dp1
  unfold RF.step
  split
  · exact ⟨h.mant, h1, h2, by show s.nd ≤ _; omega, by show _ ≤ (s.nd : Int); omega, by show (s.nd : Int) ≤ _; omega⟩
  · split
    · exact ⟨h.mant, h1, h2, by show s.nd ≤ _; omega, by show _ ≤ s.dp - 1; omega, by show s.dp - 1 ≤ _; omega⟩
    · split
      · refine ⟨?_, by show s.ndm + 1 ≤ _; omega, by show s.ndm + 1 ≤ s.nd + 1; omega, by show s.nd + 1 ≤ _; omega, by show _ ≤ s.dp; omega, by show s.dp ≤ _; omega⟩
        show s.mant * 10 + (c.toNat - 48) < 10 ^ (s.ndm + 1)
        have := h.mant
        rw [Nat.pow_succ]
        unfold Md at hc
        omega
      · split
        · exact ⟨h.mant, h1, by show s.ndm ≤ s.nd + 1; omega, by show s.nd + 1 ≤ _; omega, by show _ ≤ s.dp; omega, by show s.dp ≤ _; omega⟩
        · exact ⟨h.mant, h1, by show s.ndm ≤ s.nd + 1; omega, by show s.nd + 1 ≤ _; omega, by show _ ≤ s.dp; omega, by show s.dp ≤ _; omega⟩

theorem fold_ok : ∀ (l : List UInt8) (n : Nat) (s : RF), RF.Ok n s → (∀ c ∈ l, Md c) → RF.Ok (n + l.length) (l.foldl RF.step s)
  | [], n, s, h, _ => h
  | c :: l, n, s, h, hc => by
    have := fold_ok l (n + 1) (s.step c) (step_ok h (hc c (by simp))) (fun d hd => hc d (by simp [hd]))
    rw [List.length_cons, show n + (l.length + 1) = n + 1 + l.length from by omega]
    exact this

theorem rf_ok (l : List UInt8) (h : ∀ c ∈ l, Md c) : RF.Ok l.length (rf l) := by
  have := fold_ok l 0 ⟨0, 0, 0, 0, false, false, false⟩ ⟨by decide, by decide, by decide, by decide, by decide, by decide⟩ h
  rwa [Nat.zero_add] at this

/-- The power, cut at a greatest one. -/
def ev (l : List UInt8) : Nat := l.foldl (fun e c => if e < 10000 then e * 10 + (c.toNat - 48) else e) 0

theorem ev_snoc (l : List UInt8) (c : UInt8) : ev (l ++ [c]) = if ev l < 10000 then ev l * 10 + (c.toNat - 48) else ev l := by unfold ev; rw [List.foldl_append]; rfl

theorem ev_fold : ∀ (l : List UInt8) (e : Nat), e < 100300 → l.foldl (fun e c => if e < 10000 then e * 10 + (c.toNat - 48) else e) e < 100300
  | [], e, h => h
  | c :: l, e, h => by
    refine ev_fold l _ ?_
    have := c.toNat_lt
    show (if e < 10000 then e * 10 + (c.toNat - 48) else e) < 100300
    split <;> omega

theorem ev_lt (l : List UInt8) : ev l < 100300 := ev_fold l 0 (by decide)

end Go.Proofs.YtpneioocmpagmaaGreatDoor.fl
