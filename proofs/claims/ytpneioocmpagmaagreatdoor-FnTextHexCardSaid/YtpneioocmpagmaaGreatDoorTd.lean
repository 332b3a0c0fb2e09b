/- The text form's reader: isDelim, parseIdent. -/
import Derived.Test.YtpneioocmpagmaaGreatDoorTc
namespace Go.Proofs.YtpneioocmpagmaaGreatDoor.tx
open Go.RowKit
set_option linter.unusedVariables false
set_option linter.unusedSimpArgs false

/-- A byte that begins a name. -/
def IdS (c : Nat) : Prop := c = 95 ∨ (97 ≤ c ∧ c ≤ 122) ∨ (65 ≤ c ∧ c ≤ 90)
/-- A byte of a name. -/
def IdC (c : Nat) : Prop := IdS c ∨ (48 ≤ c ∧ c ≤ 57)
/-- A byte that ends a word. -/
def Dlm (c : Nat) : Prop := ¬ (c = 45 ∨ c = 43 ∨ c = 46 ∨ c = 95 ∨ (97 ≤ c ∧ c ≤ 122) ∨ (65 ≤ c ∧ c ≤ 90) ∨ (48 ≤ c ∧ c ≤ 57))

instance (c : Nat) : Decidable (IdS c) := inferInstanceAs (Decidable (_ ∨ _))
instance (c : Nat) : Decidable (IdC c) := inferInstanceAs (Decidable (_ ∨ _))
instance (c : Nat) : Decidable (Dlm c) := inferInstanceAs (Decidable (¬ _))

set_option maxHeartbeats 1000000 in
theorem is_delim (c : Nat) (w : World) : Calls Tryz.prog 137 #[.int .u8 c] w fun e w' => e = .returned (.bool (decide (Dlm c))) ∧ w = w' := by
  go_enter Tryz.func137, Tryz.ntmps137
  go_wp2_with fail
  all_goals
    go_ret
    refine ⟨congrArg (fun b => Ending.returned (Value.bool b)) ?_, rfl⟩
    rw [Bool.eq_iff_iff, decide_eq_true_iff]
    unfold Dlm
    try simp only [Bool.not_eq_true', Bool.or_eq_false_iff, Bool.and_eq_false_iff, Bool.or_eq_true, Bool.and_eq_true, beq_iff_eq, beq_eq_false_iff_ne, decide_eq_true_eq, decide_eq_false_iff_not, true_iff, Bool.false_eq_true, false_iff, Bool.not_true, Bool.not_false]
    omega

theorem is_delim_yes (c : Nat) (h : Dlm c) (w : World) : Calls Tryz.prog 137 #[.int .u8 c] w fun e w' => e = .returned (.bool true) ∧ w = w' := by
  have := is_delim c w
  rwa [decide_eq_true h] at this

/-- What the tests of a name's byte say. -/
theorem id_cases {c : Nat} (h : IdC c) : c = 95 ∨ (((c : Int) == 95) = false ∧ (97 : Int) ≤ c ∧ (c : Int) ≤ 122) ∨ (((c : Int) == 95) = false ∧ (c : Int) < 97 ∧ (65 : Int) ≤ c ∧ (c : Int) ≤ 90) ∨ (((c : Int) == 95) = false ∧ (c : Int) < 97 ∧ (c : Int) < 65 ∧ (48 : Int) ≤ c ∧ (c : Int) ≤ 57) := by
  unfold IdC IdS at h
  simp only [beq_eq_false_iff_ne]
  omega

theorem dlm_cases {c : Nat} (h : Dlm c) : ((c : Int) == 95) = false ∧ ((c : Int) < 48 ∨ ((57 : Int) < c ∧ (c : Int) < 65) ∨ ((90 : Int) < c ∧ (c : Int) < 97) ∨ (122 : Int) < c) := by
  unfold Dlm at h
  simp only [beq_eq_false_iff_ne]
  omega

theorem not_ids_cases {c : Nat} (h : ¬ IdS c) : ((c : Int) == 95) = false ∧ ((c : Int) < 65 ∨ ((90 : Int) < c ∧ (c : Int) < 97) ∨ (122 : Int) < c) := by
  unfold IdS at h
  simp only [beq_eq_false_iff_ne]
  omega

theorem cell_at {w : World} {b L : Nat} {T : List UInt8} (hT : T.length = L) (hr : RowM w b 0 T) {p : Nat} (hp : p < L) : w.cell? ⟨b, p, none⟩ = some (.int .u8 (((T.getD p 0).toNat : Nat) : Int)) := by
  have := hr p (by omega)
  rw [Nat.zero_add] at this
  exact this

set_option maxHeartbeats 8000000 in
set_option maxRecDepth 100000 in
theorem ident_no (b L cap pos off n c : Nat) (T : List UInt8) (hT : T.length = L) (hin : InAt b L cap pos off n c) (hlt : pos < L) (ng : Bool) (h0 : ¬ IdS (T.getD pos 0).toNat) (hng : ng = false ∨ (T.getD pos 0).toNat ≠ 45) (w : World) (hr : RowM w b 0 T) :
    Calls Tryz.prog 104 #[.slice (some ⟨b, off, none⟩) n c, .bool ng] w fun e w' => e = .returned (.int .i64 0) ∧ w = w' := by
  obtain ⟨i1, i2, i3, i4⟩ := hin
  obtain ⟨rfl, hc'⟩ := i4 (by omega)
  have hx := cell_at hT hr hlt
  obtain ⟨x, hxx⟩ : ∃ x, x = (T.getD off 0).toNat := ⟨_, rfl⟩
  rw [← hxx] at hx h0 hng
  have s0 : ((n : Int) == 0) = false := by rw [beq_eq_false_iff_ne]; omega
  have s1 : (0 : Int) < (n : Int) := by omega
  obtain ⟨x95, hcs⟩ := not_ids_cases h0
  clear h0 hr hxx i1 i2 i3 i4 hc' hT
  have hgo : (ng = false) ∨ (ng = true ∧ ((x : Int) == 45) = false) := by
    cases ng
    · exact .inl rfl
    · refine .inr ⟨rfl, ?_⟩
      rw [beq_eq_false_iff_ne]
      rcases hng with h | h
      · cases h
      · omega
  clear hng
  rcases hgo with rfl | ⟨rfl, x45⟩
  all_goals
    rcases hcs with h | ⟨h, h'⟩ | h
    all_goals
      go_enter Tryz.func104, Tryz.ntmps104
      go_wp2_with fail
      go_ret
      exact ⟨rfl, rfl⟩

set_option maxHeartbeats 8000000 in
set_option maxRecDepth 100000 in
theorem ident_neg_no (b L cap pos off n c : Nat) (T : List UInt8) (hT : T.length = L) (hL : L ≤ cap) (hcap : cap ≤ 9223372036854775807) (hin : InAt b L cap pos off n c) (hlt : pos + 1 < L) (h45 : (T.getD pos 0).toNat = 45) (h0 : ¬ IdS (T.getD (pos + 1) 0).toNat) (w : World) (hr : RowM w b 0 T) :
    Calls Tryz.prog 104 #[.slice (some ⟨b, off, none⟩) n c, .bool true] w fun e w' => e = .returned (.int .i64 0) ∧ w = w' := by
  obtain ⟨i1, i2, i3, i4⟩ := hin
  obtain ⟨rfl, hc'⟩ := i4 (by omega)
  have hx := cell_at hT hr (p := off) (by omega)
  have hy := cell_at hT hr hlt
  obtain ⟨x, hxx⟩ : ∃ x, x = (T.getD (off + 1) 0).toNat := ⟨_, rfl⟩
  rw [h45] at hx
  rw [← hxx] at hy h0
  have s0 : ((n : Int) == 0) = false := by rw [beq_eq_false_iff_ne]; omega
  have s1 : (0 : Int) < (n : Int) := by omega
  have s2 : (1 : Int) ≤ (n : Int) := by omega
  have s3 : (1 : Int) ≤ (c : Int) := by omega
  have s4 : ¬ c = 1 := by omega
  have s5 : (((n - 1 : Nat) : Int) == 0) = false := by rw [beq_eq_false_iff_ne]; omega
  have s6 : (0 : Int) < ((n - 1 : Nat) : Int) := by omega
  obtain ⟨x95, hcs⟩ := not_ids_cases h0
  clear h0 hr hxx i1 i2 i3 i4 hc' hT h45
  rcases hcs with h | ⟨h, h'⟩ | h
  all_goals
    go_enter Tryz.func104, Tryz.ntmps104
    go_wp2_with fail
    go_ret
    exact ⟨rfl, rfl⟩

end Go.Proofs.YtpneioocmpagmaaGreatDoor.tx

