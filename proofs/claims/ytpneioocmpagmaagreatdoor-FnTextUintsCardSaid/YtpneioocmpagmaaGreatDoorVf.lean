/- internal/strconv: decimal.floatBits at a whole number: some bits. -/
import Derived.Test.YtpneioocmpagmaaGreatDoorVe
namespace Go.Proofs.YtpneioocmpagmaaGreatDoor.dc
open Go.RowKit
open Go.Proofs.YtpneioocmpagmaaGreatDoor.tx (Keeps blk_cell blk_frozen blk_set)
set_option linter.unusedVariables false
set_option linter.unusedSimpArgs false

def pw (m : Nat) : Nat := [1, 3, 6, 9, 13, 16, 19, 23, 26].getD m 0
def kk (m : Nat) : Nat := if 9 ≤ m then 27 else pw m

theorem kk_bounds (m : Nat) : 1 ≤ kk m ∧ kk m ≤ 27 := by
  unfold kk
  split
  · omega
  · have h : ∀ m : Fin 9, 1 ≤ pw m.1 ∧ pw m.1 ≤ 27 := by decide +kernel
    exact h ⟨m, by omega⟩

theorem step_tab : ∀ m : Fin 10, ∀ r : Fin 12, 1 ≤ m.1 → 1 ≤ r.1 → (2 ≤ r.1 → 10 ^ (r.1 - 2) < 2 ^ (kk m.1)) → 2 ^ (kk m.1) < 10 ^ r.1 →
    r.1 - 1 ≤ m.1 ∧ (2 ≤ m.1 → kk m.1 + 5 ≤ 11 * (r.1 - 1) ∧ kk m.1 ≤ 4 * (r.1 - 1) + 3 ∧ (9 ≤ m.1 → kk m.1 ≤ 4 * (r.1 - 1)) ∧ (m.1 < 9 → m.1 - (r.1 - 1) ≤ 1)) := by decide +kernel

theorem step_r {m r : Nat} (hm : 1 ≤ m) (hr : 1 ≤ r) (h1 : 2 ≤ r → 10 ^ (r - 2) < 2 ^ (kk m)) (h2 : 2 ^ (kk m) < 10 ^ r) :
    r - 1 ≤ m ∧ (2 ≤ m → kk m + 5 ≤ 11 * (r - 1) ∧ kk m ≤ 4 * (r - 1) + 3 ∧ (9 ≤ m → kk m ≤ 4 * (r - 1)) ∧ (m < 9 → m - (r - 1) ≤ 1)) := by
  have hr12 : r < 12 := by
    refine Nat.lt_of_not_le fun h => ?_
    have a1 := h1 (by omega)
    have a2 : (10 : Nat) ^ 10 ≤ 10 ^ (r - 2) := Nat.pow_le_pow_right (by decide) (by omega)
    have a3 : (2 : Nat) ^ (kk m) ≤ 2 ^ 27 := Nat.pow_le_pow_right (by decide) (kk_bounds m).2
    have a4 : (10 : Nat) ^ 10 = 10000000000 := by decide
    have a5 : (2 : Nat) ^ 27 = 134217728 := by decide
    omega
  by_cases h9 : 9 ≤ m
  · have e : kk m = kk 9 := by unfold kk; rw [if_pos h9, if_pos (by decide)]
    rw [e] at h1 h2 ⊢
    have := step_tab ⟨9, by decide⟩ ⟨r, hr12⟩ (by simp) hr h1 h2
    simp only at this
    exact ⟨by omega, fun _ => ⟨(this.2 (by omega)).1, (this.2 (by omega)).2.1, fun _ => (this.2 (by omega)).2.2.1 (by omega), fun h => absurd h9 (by omega)⟩⟩
  · exact step_tab ⟨m, by omega⟩ ⟨r, hr12⟩ hm hr h1 h2

theorem pre_lt (D : List Nat) (h : ∀ d ∈ D, d ≤ 9) : ∀ r, pre D r < 10 ^ r
  | 0 => by simp [pre]
  | r + 1 => by
    have h1 := pre_lt D h r
    have h2 := getD_nine h r
    simp only [pre, Nat.pow_succ]
    omega

/-- The three rows of the table that are met. -/
def S1 : List Nat := [5]
def S24 : List Nat := [5, 9, 6, 0, 4, 6, 4, 4, 7, 7, 5, 3, 9, 0, 6, 2, 5]
def S53 : List Nat := [1, 1, 1, 0, 2, 2, 3, 0, 2, 4, 6, 2, 5, 1, 5, 6, 5, 4, 0, 4, 2, 3, 6, 3, 1, 6, 6, 8, 0, 9, 0, 8, 2, 0, 3, 1, 2, 5]
def txt (S : List Nat) : ByteArray := ⟨(S.map fun d => UInt8.ofNat (48 + d)).toArray⟩

theorem digT_txt (S : List Nat) (h : ∀ d ∈ S, d ≤ 9) : DigT (txt S) S := by
  refine ⟨by simp [txt, ByteArray.size], fun j hj => ?_⟩
  have hj' : j < S.length := by simpa [txt, ByteArray.size] using hj
  have e : (txt S)[j] = UInt8.ofNat (48 + S[j]) := by
    show (txt S).data[j]'_ = _
    simp [txt]
  rw [e, UInt8.toNat_ofNat', List.getD_eq_getElem?_getD, List.getElem?_eq_getElem hj']
  have := h _ (List.getElem_mem hj')
  show (48 + S[j]) % 256 = 48 + S[j]
  omega

/-- What is read of the program's variables. -/
structure PEnv (w : World) : Prop where
  pow : ∃ (pa : Addr) (pc : Nat), w.cell? ⟨15, 0, none⟩ = some (.slice (some pa) 9 pc) ∧ ∀ j, j < 9 → w.cell? (pa.add j) = some (.int .i64 (pw j : Int))
  c1 : Cheat w 1 1 (txt S1)
  c24 : Cheat w 24 8 (txt S24)
  c53 : Cheat w 53 16 (txt S53)

/-- A kind of floats: how many bits. -/
def Info (w : World) (G : Nat) (mb eb : Nat) (bias : Int) : Prop :=
  w.cell? ⟨G, 0, none⟩ = some (.int .u64 (mb : Int)) ∧ w.cell? ⟨G, 1, none⟩ = some (.int .u64 (eb : Int)) ∧ w.cell? ⟨G, 2, none⟩ = some (.int .i64 bias) ∧ ((mb = 52 ∧ eb = 11 ∧ bias = -1023) ∨ (mb = 23 ∧ eb = 8 ∧ bias = -127))

def flag (m : Nat) (D : List Nat) : Nat := if m = 1 ∧ 8 ≤ D.getD 0 0 then 1 else 0

/-- What stands between rounds: the number is below 10^m. -/
structure FR (w : World) (F : Nat) (D : List Nat) (m : Nat) (ex : Int) (wr : World) : Prop where
  at_ : DAt wr F D D.length (m : Int)
  head : D.getD 0 0 ≠ 0
  len : D.length + 11 * m + 4 * flag m D ≤ 400
  lo : 0 ≤ ex
  hi : ex + 4 * m + (if 2 ≤ m then 6 else 3 * flag m D : Nat) ≤ 106
  keep : Keeps F w wr

def FR1 (w : World) (F g : Nat) (v6 : Value) (wr : World) : Prop :=
  ∃ (D : List Nat) (m : Nat) (ex : Int), v6 = .int .i64 ex ∧ FR w F D m ex wr ∧ 2 * m + (if 8 ≤ D.getD 0 0 then 1 else 0) = g

theorem fr_step {w : World} {F : Nat} {D : List Nat} {m : Nat} {ex : Int} {wr w' : World} {e : Ending} (h : FR w F D m ex wr) (hm : 1 ≤ m) (hs : RSays wr F D (m : Int) (2 ^ (kk m)) (kk m) e w') :
    ∃ (D' : List Nat) (m' : Nat), e = .returned (.tuple #[]) ∧ FR w F D' m' (ex + (kk m : Int)) w' ∧ 2 * m' + (if 8 ≤ D'.getD 0 0 then 1 else 0) < 2 * m + (if 8 ≤ D.getD 0 0 then 1 else 0) := by
  obtain ⟨D', r, he, hd, hr, hM, hl, hq, hk, hlen⟩ := hs
  obtain ⟨cs, hcs, hrow⟩ := h.at_
  obtain ⟨cs', hcs', hrow'⟩ := id hd
  have h1 : 2 ≤ r → 10 ^ (r - 2) < 2 ^ (kk m) := fun h2 => by
    have a := hl (r - 1) (by omega)
    have b := pre_ge D h.head (r - 2)
    rw [show r - 2 + 1 = r - 1 from by omega] at b
    omega
  have h2 : 2 ^ (kk m) < 10 ^ r := Nat.lt_of_le_of_lt hM (pre_lt D hrow.nine r)
  obtain ⟨g1, g2⟩ := step_r hm hr h1 h2
  have hM1 : 0 < 2 ^ (kk m) := Nat.pow_pos (by decide)
  have hhead : D'.getD 0 0 ≠ 0 := by
    rw [hq]
    have := (Nat.one_le_div_iff hM1).2 hM
    omega
  have hh := h.len
  have hi := h.hi
  have hlo := h.lo
  have hk1 : m = 1 → kk m = 3 := fun e => by subst e; rfl
  have hr1 : r = 1 → m = 1 ∧ 8 ≤ D.getD 0 0 ∧ D'.getD 0 0 = 1 := by
    intro e
    have hm1 : m = 1 := by
      refine Decidable.byContradiction fun hne => ?_
      have := (g2 (by omega)).1
      rw [e] at this; omega
    subst hm1
    subst e
    have hp : pre D 1 = D.getD 0 0 := by simp [pre]
    rw [hp] at hM hq
    have h8 : (2 : Nat) ^ (kk 1) = 8 := by decide
    rw [h8] at hM hq
    have h9 := getD_nine hrow.nine 0
    exact ⟨rfl, hM, by rw [hq]; omega⟩
  have hfl : flag (m - (r - 1)) D' ≤ 1 := by unfold flag; split <;> omega
  have hdp : ((m : Int) - ((r : Int) - 1)) = ((m - (r - 1) : Nat) : Int) := by omega
  rw [hdp] at hd
  refine ⟨D', m - (r - 1), he, ⟨hd, hhead, ?_, by omega, ?_, h.keep.trans hk⟩, ?_⟩
  · by_cases hr2 : r = 1
    · obtain ⟨e1, e2, e3⟩ := hr1 hr2
      have f1 : flag m D = 1 := by unfold flag; rw [if_pos ⟨e1, e2⟩]
      have f2 : flag (m - (r - 1)) D' = 0 := by unfold flag; rw [if_neg (by omega)]
      have := hk1 e1
      rw [f1] at hh; rw [f2]; omega
    · by_cases hm1 : m = 1
      · have := hk1 hm1
        have f2 : flag (m - (r - 1)) D' = 0 := by unfold flag; rw [if_neg (by omega)]
        rw [f2]; omega
      · have := (g2 (by omega)).1; omega
  · by_cases hr2 : r = 1
    · obtain ⟨e1, e2, e3⟩ := hr1 hr2
      have f1 : flag m D = 1 := by unfold flag; rw [if_pos ⟨e1, e2⟩]
      have f2 : flag (m - (r - 1)) D' = 0 := by unfold flag; rw [if_neg (by omega)]
      have := hk1 e1
      rw [f1, if_neg (by omega)] at hi; rw [f2, if_neg (by omega)]; omega
    · by_cases hm1 : m = 1
      · have := hk1 hm1
        have f2 : flag (m - (r - 1)) D' = 0 := by unfold flag; rw [if_neg (by omega)]
        rw [if_neg (by omega)] at hi
        rw [f2, if_neg (by omega)]; omega
      · obtain ⟨_, q1, q2, q3⟩ := g2 (by omega)
        rw [if_pos (by omega)] at hi
        split
        · have := q2 (by omega); omega
        · omega
  · by_cases hr2 : r = 1
    · obtain ⟨e1, e2, e3⟩ := hr1 hr2
      rw [if_pos e2, if_neg (by omega)]; omega
    · split <;> split <;> omega

theorem val_head {D : List Nat} (h : D.getD 0 0 ≠ 0) : D.getD 0 0 * 10 ^ (D.length - 1) ≤ val D := by
  cases D with
  | nil => simp at h
  | cons d l => simp only [val, List.length_cons, Nat.add_sub_cancel, List.getD_cons_zero]; omega

theorem car_zero (D : List Nat) (M : Nat) : car D M 0 = val D * M / 10 ^ D.length := by
  unfold car; rw [List.drop_zero, Nat.sub_zero]

theorem ten_len {D : List Nat} (h : D.getD 0 0 ≠ 0) : 10 ^ D.length = 10 * 10 ^ (D.length - 1) := by
  have := nd_pos h
  rw [show D.length = D.length - 1 + 1 from by omega, Nat.pow_succ, Nat.add_sub_cancel, Nat.mul_comm]

theorem car_big {D : List Nat} (h5 : 5 ≤ D.getD 0 0) (M N : Nat) (hM : M = 2 * N) : N ≤ car D M 0 := by
  have hne : D.getD 0 0 ≠ 0 := by omega
  rw [car_zero, Nat.le_div_iff_mul_le (Nat.pow_pos (by decide)), ten_len hne, hM]
  have h1 := val_head hne
  obtain ⟨P, hP⟩ : ∃ P, P = 10 ^ (D.length - 1) := ⟨_, rfl⟩
  rw [← hP] at h1 ⊢
  have h2 : 5 * P ≤ val D := Nat.le_trans (Nat.mul_le_mul_right _ h5) h1
  have h3 : 5 * P * (2 * N) ≤ val D * (2 * N) := Nat.mul_le_mul_right _ h2
  have h4 : N * (10 * P) = 5 * P * (2 * N) := by
    rw [Nat.mul_comm N, Nat.mul_comm 10 P, Nat.mul_comm 5 P, Nat.mul_assoc P 5, ← Nat.mul_assoc 5 2, Nat.mul_assoc]
  omega

theorem lt_S1 {D : List Nat} (h0 : D.getD 0 0 ≠ 0) (h5 : D.getD 0 0 < 5) : lexLt D S1 = true := by
  cases D with
  | nil => simp at h0
  | cons d l =>
    have hd : d < 5 := by simpa using h5
    unfold S1 lexLt
    rw [if_neg (by omega)]
    simpa using hd

theorem ge_S53 {D : List Nat} (h5 : 5 ≤ D.getD 0 0) : lexLt D S53 = false := by
  cases D with
  | nil => simp at h5
  | cons d l =>
    have hd : 5 ≤ d := by simpa using h5
    have hne : ¬ d = 1 := by omega
    unfold S53 lexLt
    rw [if_neg hne]
    exact decide_eq_false (by omega)

theorem car_one {D : List Nat} (h9 : ∀ d ∈ D, d ≤ 9) (h0 : D.getD 0 0 ≠ 0) (h5 : D.getD 0 0 < 5) : car D (2 ^ 1) 0 = 0 := by
  have h1 := car_step D (2 ^ 1) 0 (nd_pos h0)
  have h2 := car_lt D (2 ^ 1) 1 h9 (by decide)
  have e : (2 : Nat) ^ 1 = 2 := rfl
  rw [Nat.zero_add, e] at h1
  rw [e] at h2 ⊢
  rw [h1]
  omega

theorem car_53 {D : List Nat} (h9 : ∀ d ∈ D, d ≤ 9) (h5 : 5 ≤ D.getD 0 0) : 10 ^ (16 - 1) ≤ car D (2 ^ 53) 0 ∧ car D (2 ^ 53) 0 < 10 ^ 16 := by
  have h1 := car_big h5 (2 ^ 53) (2 ^ 52) (by decide)
  have h2 := car_lt D (2 ^ 53) 0 h9 (by decide)
  have e1 : (10 : Nat) ^ (16 - 1) ≤ 2 ^ 52 := by decide
  have e2 : (2 : Nat) ^ 53 ≤ 10 ^ 16 := by decide
  exact ⟨Nat.le_trans e1 h1, Nat.lt_of_lt_of_le h2 e2⟩

theorem car_24 {D : List Nat} (h9 : ∀ d ∈ D, d ≤ 9) (h5 : 5 ≤ D.getD 0 0) (delta : Nat) (hd : delta = 8 - (if lexLt D S24 then 1 else 0)) : 1 ≤ delta ∧ delta ≤ 8 ∧ 10 ^ (delta - 1) ≤ car D (2 ^ 24) 0 ∧ car D (2 ^ 24) 0 < 10 ^ delta := by
  have h1 := car_big h5 (2 ^ 24) (2 ^ 23) (by decide)
  have h2 := car_lt D (2 ^ 24) 0 h9 (by decide)
  have hl := lex_val D S24 h9 (by decide) (by decide)
  have hv : val S24 * 2 ^ 24 = 10 ^ 7 * 10 ^ 17 := by decide +kernel
  have hlen : S24.length = 17 := rfl
  rw [hlen] at hl
  obtain ⟨V, hV⟩ : ∃ V, V = val D := ⟨_, rfl⟩
  obtain ⟨P, hP⟩ : ∃ P, P = 10 ^ D.length := ⟨_, rfl⟩
  have hP0 : 0 < P := by rw [hP]; exact Nat.pow_pos (by decide)
  rw [← hV, ← hP] at hl
  have hc : car D (2 ^ 24) 0 = V * 2 ^ 24 / P := by rw [car_zero, hV, hP]
  have e1 : (10 : Nat) ^ 6 ≤ 2 ^ 23 := by decide
  have e2 : (2 : Nat) ^ 24 ≤ 10 ^ 8 := by decide
  cases hb : lexLt D S24 with
  | true =>
    rw [hb] at hd
    obtain rfl : delta = 7 := by simpa using hd
    have h3 := hl.1 hb
    refine ⟨by decide, by decide, Nat.le_trans e1 h1, ?_⟩
    rw [hc, Nat.div_lt_iff_lt_mul hP0]
    have h4 : V * 10 ^ 17 * 2 ^ 24 < val S24 * P * 2 ^ 24 := Nat.mul_lt_mul_of_pos_right h3 (by decide)
    have h5' : val S24 * P * 2 ^ 24 = 10 ^ 7 * P * 10 ^ 17 := by
      rw [Nat.mul_assoc, Nat.mul_comm P, ← Nat.mul_assoc, hv, Nat.mul_assoc, Nat.mul_comm (10 ^ 17) P, ← Nat.mul_assoc]
    have h6 : V * 10 ^ 17 * 2 ^ 24 = V * 2 ^ 24 * 10 ^ 17 := by rw [Nat.mul_assoc, Nat.mul_comm (10 ^ 17), ← Nat.mul_assoc]
    rw [h5', h6] at h4
    exact Nat.lt_of_mul_lt_mul_right h4
  | false =>
    rw [hb] at hd
    obtain rfl : delta = 8 := by simpa using hd
    have h3 := hl.2 hb
    refine ⟨by decide, by decide, ?_, Nat.lt_of_lt_of_le h2 e2⟩
    rw [hc, Nat.le_div_iff_mul_le hP0]
    have h4 : val S24 * P * 2 ^ 24 ≤ V * 10 ^ 17 * 2 ^ 24 := Nat.mul_le_mul_right _ h3
    have h5' : val S24 * P * 2 ^ 24 = 10 ^ 7 * P * 10 ^ 17 := by
      rw [Nat.mul_assoc, Nat.mul_comm P, ← Nat.mul_assoc, hv, Nat.mul_assoc, Nat.mul_comm (10 ^ 17) P, ← Nat.mul_assoc]
    have h6 : V * 10 ^ 17 * 2 ^ 24 = V * 2 ^ 24 * 10 ^ 17 := by rw [Nat.mul_assoc, Nat.mul_comm (10 ^ 17), ← Nat.mul_assoc]
    rw [h5', h6] at h4
    exact Nat.le_of_mul_le_mul_right h4 (by decide)

end Go.Proofs.YtpneioocmpagmaaGreatDoor.dc

