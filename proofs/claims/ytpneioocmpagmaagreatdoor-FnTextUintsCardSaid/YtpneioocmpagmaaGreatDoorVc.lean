/- internal/strconv.prefixIsLessThan; decimal texts compared. -/
import Derived.Test.YtpneioocmpagmaaGreatDoorVb
import Derived.Deep.RegionHeld3
namespace Go.Proofs.YtpneioocmpagmaaGreatDoor.dc
open Go.RowKit
open Go.Proofs.YtpneioocmpagmaaGreatDoor.tx (Keeps blk_cell blk_frozen blk_set)
set_option linter.unusedVariables false
set_option linter.unusedSimpArgs false

/-- Digits ahead of others, as fractions' texts. -/
def lexLt : List Nat → List Nat → Bool
  | _, [] => false
  | [], _ :: _ => true
  | a :: l, b :: m => if a = b then lexLt l m else decide (a < b)

/-- The number of digits. -/
def val : List Nat → Nat
  | [] => 0
  | d :: l => d * 10 ^ l.length + val l

theorem val_lt : ∀ l : List Nat, (∀ d ∈ l, d ≤ 9) → val l < 10 ^ l.length
  | [], _ => by simp [val]
  | d :: l, h => by
    have h1 := val_lt l (fun x hx => h x (by simp [hx]))
    have h2 := h d (by simp)
    simp only [val, List.length_cons, Nat.pow_succ]
    have : d * 10 ^ l.length ≤ 9 * 10 ^ l.length := Nat.mul_le_mul_right _ h2
    omega

theorem lex_val : ∀ (a s : List Nat), (∀ d ∈ a, d ≤ 9) → (∀ d ∈ s, d ≤ 9) → (s ≠ [] → s.getLast? ≠ some 0) →
    (lexLt a s = true → val a * 10 ^ s.length < val s * 10 ^ a.length) ∧ (lexLt a s = false → val s * 10 ^ a.length ≤ val a * 10 ^ s.length)
  | a, [], _, _, _ => by
    refine ⟨fun h => by simp [lexLt] at h, fun _ => by simp [val]⟩
  | [], b :: m, _, hs, hl => by
    refine ⟨fun _ => ?_, fun h => by simp [lexLt] at h⟩
    have key : ∀ s : List Nat, s ≠ [] → s.getLast? ≠ some 0 → 0 < val s := by
      intro s
      induction s with
      | nil => intro h; exact absurd rfl h
      | cons x t ih =>
        intro _ h
        cases t with
        | nil =>
          have : x ≠ 0 := by intro e; rw [e] at h; simp at h
          simp [val]; omega
        | cons y r =>
          have := ih (by simp) (by simpa using h)
          simp only [val] at this ⊢
          omega
    have := key (b :: m) (by simp) (hl (by simp))
    simp only [val, List.length_nil, Nat.pow_zero] at this ⊢
    omega
  | x :: l, b :: m, ha, hs, hl => by
    have hx := ha x (by simp)
    have hb := hs b (by simp)
    have hvl := val_lt l (fun d hd => ha d (by simp [hd]))
    have hvm := val_lt m (fun d hd => hs d (by simp [hd]))
    have e1 : (10 : Nat) ^ (m.length + 1) = 10 * 10 ^ m.length := by rw [Nat.pow_succ, Nat.mul_comm]
    have e2 : (10 : Nat) ^ (l.length + 1) = 10 * 10 ^ l.length := by rw [Nat.pow_succ, Nat.mul_comm]
    simp only [val, List.length_cons, e1, e2]
    obtain ⟨A, hA⟩ : ∃ A, A = 10 ^ l.length := ⟨_, rfl⟩
    obtain ⟨B, hB⟩ : ∃ B, B = 10 ^ m.length := ⟨_, rfl⟩
    rw [← hA] at hvl ⊢
    rw [← hB] at hvm ⊢
    have hA0 : 0 < A := by rw [hA]; exact Nat.pow_pos (by decide)
    have hB0 : 0 < B := by rw [hB]; exact Nat.pow_pos (by decide)
    have f1 : (x * A + val l) * (10 * B) = 10 * (x * (A * B) + val l * B) := by
      rw [Nat.add_mul, Nat.mul_add]
      congr 1
      · rw [Nat.mul_comm (x * A), Nat.mul_assoc, Nat.mul_comm B, Nat.mul_assoc]
      · rw [Nat.mul_comm (val l), Nat.mul_assoc, Nat.mul_comm B]
    have f2 : (b * B + val m) * (10 * A) = 10 * (b * (A * B) + val m * A) := by
      rw [Nat.add_mul, Nat.mul_add]
      congr 1
      · rw [Nat.mul_comm (b * B), Nat.mul_assoc, Nat.mul_comm A, Nat.mul_assoc, Nat.mul_comm B A]
      · rw [Nat.mul_comm (val m), Nat.mul_assoc, Nat.mul_comm A]
    rw [f1, f2]
    have g1 : val l * B < A * B := Nat.mul_lt_mul_of_pos_right hvl hB0
    have g2 : val m * A < A * B := by rw [Nat.mul_comm A B]; exact Nat.mul_lt_mul_of_pos_right hvm hA0
    obtain ⟨C, hC⟩ : ∃ C, C = A * B := ⟨_, rfl⟩
    rw [← hC] at g1 g2 ⊢
    unfold lexLt
    by_cases hxb : x = b
    · subst hxb
      rw [if_pos rfl]
      have ih := lex_val l m (fun d hd => ha d (by simp [hd])) (fun d hd => hs d (by simp [hd])) (fun hm => by
        have := hl (by simp)
        cases m with
        | nil => exact absurd rfl hm
        | cons y r => simpa using this)
      rw [← hA, ← hB] at ih
      exact ⟨fun h => by have := ih.1 h; omega, fun h => by have := ih.2 h; omega⟩
    · rw [if_neg hxb]
      refine ⟨fun h => ?_, fun h => ?_⟩
      · have h1 : x < b := by simpa using h
        have h2 : (x + 1) * C ≤ b * C := Nat.mul_le_mul_right _ h1
        rw [Nat.add_mul] at h2
        omega
      · have h1 : b < x := by simp at h; omega
        have h2 : (b + 1) * C ≤ x * C := Nat.mul_le_mul_right _ h1
        rw [Nat.add_mul] at h2
        omega

theorem lexLt_drop {a s : List Nat} {i : Nat} (ha : i < a.length) (hs : i < s.length) (h : a.getD i 0 = s.getD i 0) : lexLt (a.drop i) (s.drop i) = lexLt (a.drop (i + 1)) (s.drop (i + 1)) := by
  rw [List.drop_eq_getElem_cons ha, List.drop_eq_getElem_cons hs]
  have e1 : a.getD i 0 = a[i] := by rw [List.getD_eq_getElem?_getD, List.getElem?_eq_getElem ha]; rfl
  have e2 : s.getD i 0 = s[i] := by rw [List.getD_eq_getElem?_getD, List.getElem?_eq_getElem hs]; rfl
  rw [e1, e2] at h
  conv => lhs; unfold lexLt
  rw [if_pos h]

theorem lexLt_at {a s : List Nat} {i : Nat} (ha : i < a.length) (hs : i < s.length) (h : a.getD i 0 ≠ s.getD i 0) : lexLt (a.drop i) (s.drop i) = decide (a.getD i 0 < s.getD i 0) := by
  rw [List.drop_eq_getElem_cons ha, List.drop_eq_getElem_cons hs]
  have e1 : a.getD i 0 = a[i] := by rw [List.getD_eq_getElem?_getD, List.getElem?_eq_getElem ha]; rfl
  have e2 : s.getD i 0 = s[i] := by rw [List.getD_eq_getElem?_getD, List.getElem?_eq_getElem hs]; rfl
  rw [e1, e2] at h ⊢
  unfold lexLt
  rw [if_neg h]

theorem lexLt_end {a s : List Nat} {i : Nat} (ha : a.length ≤ i) (hs : i < s.length) : lexLt (a.drop i) (s.drop i) = true := by
  rw [List.drop_eq_nil_of_le ha, List.drop_eq_getElem_cons hs]
  rfl

theorem lexLt_none {a s : List Nat} {i : Nat} (hs : s.length ≤ i) : lexLt (a.drop i) (s.drop i) = false := by
  rw [List.drop_eq_nil_of_le hs]
  unfold lexLt
  cases (a.drop i) <;> rfl

/-- A text of digits. -/
def DigT (s : ByteArray) (S : List Nat) : Prop := s.size = S.length ∧ ∀ j (h : j < s.size), (s[j]).toNat = 48 + S.getD j 0

set_option maxHeartbeats 8000000 in
set_option maxRecDepth 100000 in
theorem prefix_less (F c : Nat) (D S : List Nat) (s : ByteArray) (hc : D.length ≤ c) (hD8 : D.length ≤ 800) (hS : S.length ≤ 100) (hs : DigT s S) (w : World) (hd : ∀ j, j < D.length → w.cell? ⟨F, j, none⟩ = some (.int .u8 ((48 + D.getD j 0 : Nat) : Int))) (h9 : ∀ d ∈ D, d ≤ 9) (h9s : ∀ d ∈ S, d ≤ 9) :
    Calls Tryz.prog 240 #[.slice (some ⟨F, 0, none⟩) D.length c, .string s] w fun e w' => e = .returned (.bool (lexLt D S)) ∧ ∃ n, w' = w.drewN n := by
  have HD := Lib.hid hd
  have HS := Lib.hid hs.2
  have HL := Lib.hid hs.1
  have hsz : s.size = S.length := hs.1
  have H9 := Lib.hid (And.intro h9 h9s)
  obtain ⟨R, hR⟩ : ∃ R, R = lexLt D S := ⟨_, rfl⟩
  rw [← hR]
  have HR : Hid (lexLt (D.drop 0) (S.drop 0) = R) := Lib.hid (by rw [hR]; rfl)
  clear hd hs h9 h9s hR
  go_enter Tryz.func240, Tryz.ntmps240
  go_wp2_with fail
  go_loopw [5] (fun v5 wr => ∃ i n : Nat, v5 = .int .i64 (i : Int) ∧ i ≤ S.length ∧ lexLt (D.drop i) (S.drop i) = R ∧ wr = w.drewN n) (fun v5 _ => S.length - (intOf v5).toNat)
  case atStart => exact ⟨0, 0, rfl, by omega, HR.out, rfl⟩
  case round =>
    obtain ⟨i, n, rfl, hi, hl, hwr⟩ := hrel
    have HWR := Lib.hid hwr
    have HLX := Lib.hid hl
    clear hl hwr
    by_cases hiS : i < S.length
    · by_cases hiD : i < D.length
      · have kd : wr.cell? ⟨F, i, none⟩ = some (.int .u8 ((48 + D.getD i 0 : Nat) : Int)) := by rw [HWR.out]; exact HD.out i hiD
        have hsi := HS.out i (by omega)
        have a9 := getD_nine H9.out.1 i
        have b9 := getD_nine H9.out.2 i
        obtain ⟨x, hx⟩ : ∃ x, x = D.getD i 0 := ⟨_, rfl⟩
        obtain ⟨y, hy⟩ : ∃ y, y = S.getD i 0 := ⟨_, rfl⟩
        rw [← hx] at kd a9
        rw [← hy] at hsi b9
        have hlt1 : (i : Int) < (s.size : Int) := by omega
        have hlt2 : ¬ (D.length : Int) ≤ (i : Int) := by omega
        have hlt3 : (i : Int) < (D.length : Int) := by omega
        have hisz : i < s.size := by omega
        have hw : IntKind.i64.wrap ((i : Int) + 1) = (i : Int) + 1 := by rw [IntKind.wrap_i64]; omega
        obtain ⟨xi, hxi⟩ : ∃ z : Int, z = ((48 + x : Nat) : Int) := ⟨_, rfl⟩
        rw [← hxi] at kd
        have hst : ((s[i]'hisz).toNat : Int) = 48 + (y : Int) := by rw [hsi]; omega
        obtain ⟨yi, hyi⟩ : ∃ z : Int, z = 48 + (y : Int) := ⟨_, rfl⟩
        rw [← hyi] at hst
        have HXY := Lib.hid (And.intro hx hy)
        clear hsi
        by_cases hxy : x = y
        · have t0 : (xi != yi) = false := by simp; omega
          have t1 : (xi == yi) = true := by simp; omega
          have HN : Hid (lexLt (D.drop (i + 1)) (S.drop (i + 1)) = R) := Lib.hid (by rw [← lexLt_drop hiD hiS (by rw [← HXY.out.1, ← HXY.out.2, hxy])]; exact HLX.out)
          clear hx hy hxi hyi hxy
          go_wp2_with fail
          go_quiet (fail)
          go_wp2_with fail
          exact ⟨⟨i + 1, _, by go_num, by omega, HN.out, by rw [HWR.out, World.drewN_drewN]⟩, by simp [intOf]; omega⟩
        · have t0 : (xi != yi) = true := by simp; omega
          have t1 : (xi == yi) = false := by rw [beq_eq_false_iff_ne]; omega
          have HN : Hid (decide (xi < yi) = R) := Lib.hid (by
            rw [← HLX.out, lexLt_at hiD hiS (by rw [← HXY.out.1, ← HXY.out.2]; exact hxy), ← HXY.out.1, ← HXY.out.2]
            rw [decide_eq_decide]; omega)
          clear hx hy hxi hyi hxy
          go_wp2_with fail
          go_quiet (fail)
          obtain ⟨W2, hW2⟩ : ∃ W2, W2 = wr.drewN nq := ⟨_, rfl⟩
          rw [← hW2]
          have kd2 : W2.cell? ⟨F, i, none⟩ = some (.int .u8 xi) := by rw [hW2]; exact kd
          have HW2 := Lib.hid hW2
          clear hW2
          go_wp2_with fail
          go_quiet (fail)
          go_wp2_with fail
          go_ret
          exact ⟨by rw [← HN.out]; rfl, _, by rw [HW2.out, HWR.out, World.drewN_drewN, World.drewN_drewN]⟩
      · have hlt1 : (i : Int) < (s.size : Int) := by omega
        have hlt2 : (D.length : Int) ≤ (i : Int) := by omega
        have HN : Hid (R = true) := Lib.hid (by rw [← HLX.out]; exact lexLt_end (by omega) hiS)
        go_wp2_with fail
        go_ret
        exact ⟨by rw [HN.out]; rfl, _, HWR.out⟩
    · have hlt1 : ¬ (i : Int) < (s.size : Int) := by omega
      have HN : Hid (R = false) := Lib.hid (by rw [← HLX.out]; exact lexLt_none (by omega))
      go_wp2_with fail
      go_ret
      exact ⟨by rw [HN.out]; rfl, _, HWR.out⟩

end Go.Proofs.YtpneioocmpagmaaGreatDoor.dc

