/- internal/strconv: decimal.set at a text of digits. -/
import Derived.Test.YtpneioocmpagmaaGreatDoorVa
namespace Go.Proofs.YtpneioocmpagmaaGreatDoor.dc
open Go.RowKit
open Go.Proofs.YtpneioocmpagmaaGreatDoor.tx (Keeps blk_cell blk_frozen blk_set)
set_option linter.unusedVariables false
set_option linter.unusedSimpArgs false

theorem Row.push {cs : Array Value} {D : List Nat} {nd : Nat} {dp : Int} (h : Row cs D nd dp) (d : Nat) (hd : d ≤ 9) (hl : D.length < 800) (c : Int) (hc : c = ((48 + d : Nat) : Int)) : Row (cs.setIfInBounds D.length (.int .u8 c)) (D ++ [d]) nd dp := by
  have hs := h.size
  subst hc
  refine ⟨by simpa using hs, fun j hj => ?_, fun j hj => ?_, ?_, ?_, ?_, ?_, by simp; omega, fun x hx => ?_⟩
  · by_cases e : j = D.length
    · subst e; exact ⟨48 + d, by omega, by rw [Array.getElem?_setIfInBounds_self_of_lt (by omega)]⟩
    · rw [Array.getElem?_setIfInBounds_ne (by omega)]; exact h.any j hj
  · simp at hj
    by_cases e : j = D.length
    · subst e
      rw [Array.getElem?_setIfInBounds_self_of_lt (by omega)]
      simp [List.getD_eq_getElem?_getD]
    · rw [Array.getElem?_setIfInBounds_ne (by omega), h.dig j (by omega)]
      rw [List.getD_eq_getElem?_getD, List.getD_eq_getElem?_getD, List.getElem?_append_left (by omega)]
  · rw [Array.getElem?_setIfInBounds_ne (by omega)]; exact h.nd
  · rw [Array.getElem?_setIfInBounds_ne (by omega)]; exact h.dp
  · rw [Array.getElem?_setIfInBounds_ne (by omega)]; exact h.neg
  · rw [Array.getElem?_setIfInBounds_ne (by omega)]; exact h.tr
  · simp at hx
    rcases hx with hx | rfl
    · exact h.nine x hx
    · exact hd

theorem Row.sign {cs : Array Value} {D : List Nat} {nd : Nat} {dp : Int} (h : Row cs D nd dp) (b : Bool) : Row (cs.setIfInBounds 802 (.bool b)) D nd dp := by
  have hs := h.size
  refine ⟨by simpa using hs, fun j hj => ?_, fun j hj => ?_, ?_, ?_, ?_, ?_, h.le, h.nine⟩
  · rw [Array.getElem?_setIfInBounds_ne (by omega)]; exact h.any j hj
  · have := h.le; rw [Array.getElem?_setIfInBounds_ne (by omega)]; exact h.dig j hj
  · rw [Array.getElem?_setIfInBounds_ne (by omega)]; exact h.nd
  · rw [Array.getElem?_setIfInBounds_ne (by omega)]; exact h.dp
  · exact ⟨b, by rw [Array.getElem?_setIfInBounds_self_of_lt (by omega)]⟩
  · rw [Array.getElem?_setIfInBounds_ne (by omega)]; exact h.tr

/-- What stands between rounds: `i` bytes read, `a` noughts at the start. -/
def SR (w : World) (F a i : Nat) (D : List Nat) (wr : World) : Prop :=
  D.length = i - a ∧ (a < i → D.getD 0 0 ≠ 0) ∧ DAt wr F D D.length (-((if i < a then i else a : Nat) : Int)) ∧ Keeps F w wr

def SR1 (w : World) (F a n : Nat) (v5 v7 : Value) (wr : World) : Prop :=
  ∃ (i : Nat) (D : List Nat), v5 = .int .i64 (i : Int) ∧ i ≤ n ∧ v7 = .bool (decide (0 < i)) ∧ SR w F a i D wr

theorem SR.nought {w : World} {F a i : Nat} {D : List Nat} {wr : World} (h : SR w F a i D wr) (hi : i < a) (v : Int) (hv : v = -(i : Int) - 1) : SR w F a (i + 1) D (wr.setCell ⟨F, 801, none⟩ (.int .i64 v)) := by
  obtain ⟨h1, h2, ⟨cs, hcs, hrow⟩, hk⟩ := h
  refine ⟨by omega, fun h => absurd h (by omega), ⟨_, DAt.set hcs 801 _, ?_⟩, hk.setCell 801 _⟩
  have := hrow.point v
  rw [show (-((if i + 1 < a then i + 1 else a : Nat) : Int)) = v from by split <;> omega]
  exact this

theorem SR.digit {w : World} {F a i : Nat} {D : List Nat} {wr : World} (h : SR w F a i D wr) (hi : a ≤ i) (hl : D.length < 800) (d : Nat) (hd : d ≤ 9) (h0 : i = a → d ≠ 0) (c : Int) (hc : c = ((48 + d : Nat) : Int)) (k m : Nat) (hk : k = D.length) (hm : m = D.length + 1) : SR w F a (i + 1) (D ++ [d]) ((wr.setCell ⟨F, k, none⟩ (.int .u8 c)).drew.setCell ⟨F, 800, none⟩ (.int .i64 (m : Int))) := by
  obtain ⟨h1, h2, ⟨cs, hcs, hrow⟩, hk'⟩ := h
  subst hk
  refine ⟨by simp; omega, fun _ => ?_, ⟨_, DAt.set (w := (wr.setCell ⟨F, D.length, none⟩ (.int .u8 c)).drew) (DAt.set hcs _ _) 800 _, ?_⟩, (keeps_drewN (hk'.setCell _ _) 1).setCell 800 _⟩
  · by_cases e : i = a
    · have : D = [] := List.eq_nil_of_length_eq_zero (by omega)
      subst this
      simpa using h0 e
    · have := h2 (by omega)
      rw [List.getD_eq_getElem?_getD, List.getElem?_append_left (by omega), ← List.getD_eq_getElem?_getD]
      exact this
  · have := (hrow.push d hd hl c hc).put m
    rw [show (D ++ [d]).length = m from by simp; omega]
    rw [show (-((if i + 1 < a then i + 1 else a : Nat) : Int)) = (-((if i < a then i else a : Nat) : Int)) from by split <;> split <;> omega]
    exact this

def SetSays (w : World) (F n : Nat) (e : Ending) (w' : World) : Prop := ∃ D : List Nat, e = .returned (.bool true) ∧ D.length = n ∧ D.getD 0 0 ≠ 0 ∧ DAt w' F D D.length (n : Int) ∧ Keeps F w w'

set_option maxHeartbeats 16000000 in
set_option maxRecDepth 100000 in
theorem set_digits (F : Nat) (t : ByteArray) (a : Nat) (ha : a < t.size) (hs : t.size ≤ 60) (hz : ∀ (j : Nat) (h : j < t.size), j < a → (t[j]).toNat = 48) (hd : ∀ (j : Nat) (h : j < t.size), 48 ≤ (t[j]).toNat ∧ (t[j]).toNat ≤ 57) (h0 : (t[a]).toNat ≠ 48) (w : World) (h : DAt w F [] 0 0) :
    Calls Tryz.prog 207 #[.pointer (some ⟨F, 0, none⟩), .string t] w fun e w' => SetSays w F (t.size - a) e w' := by
  obtain ⟨cs, hcs, hrow⟩ := id h
  obtain ⟨ng, hng⟩ := hrow.neg
  obtain ⟨tr, htr⟩ := hrow.tr
  have q802 := blk_cell hcs hng
  have q803 := blk_cell hcs htr
  have f802 := blk_frozen hcs 802
  have f803 := blk_frozen hcs 803
  have HS0 : Hid (SR w F a 0 [] ((w.setCell ⟨F, 802, none⟩ (.bool false)).setCell ⟨F, 803, none⟩ (.bool false))) := Lib.hid (by
    refine ⟨by simp, fun h => absurd h (by omega), ⟨_, DAt.set (DAt.set hcs 802 _) 803 _, ?_⟩, ((Keeps.refl F w).setCell 802 _).setCell 803 _⟩
    have := (hrow.sign false).flag false
    rw [show (-((if 0 < a then 0 else a : Nat) : Int)) = 0 from by split <;> omega]
    exact this)
  have hp : 0 < t.size := by omega
  have hpi : (0 : Int) < (t.size : Int) := by omega
  have pe : ¬ t = ByteArray.empty := by rintro rfl; exact absurd hp (by decide)
  have b0 := hd 0 hp
  have e1 : (((t[0]'hp).toNat : Int) == 43) = false := by rw [beq_eq_false_iff_ne]; omega
  have e2 : (((t[0]'hp).toNat : Int) == 45) = false := by rw [beq_eq_false_iff_ne]; omega
  have HT := Lib.hid (And.intro hz (And.intro hd (And.intro h0 ha)))
  have hs2 : (t.size : Int) ≤ 60 := by omega
  clear h hrow hcs hng htr b0 hz hd h0
  go_enter Tryz.func207, Tryz.ntmps207
  go_wp2_with fail
  go_loopg [5, 6, 7] (t.size) (fun g v5 v6 v7 wr => v6 = .bool false ∧ SR1 w F a t.size v5 v7 wr ∧ t.size - (intOf v5).toNat = g)
  case atStart => exact ⟨rfl, ⟨0, [], rfl, by omega, rfl, HS0.out⟩, rfl⟩
  case round =>
    obtain ⟨rfl, ⟨i, D, rfl, hi, rfl, hsr⟩, hg⟩ := hrel
    have HSR := Lib.hid hsr
    obtain ⟨hl, _, ⟨cs2, hcs2, hrow2⟩, _⟩ := id hsr
    have q800 := blk_cell hcs2 hrow2.nd
    have q801 := blk_cell hcs2 hrow2.dp
    have f800 := blk_frozen hcs2 800
    have f801 := blk_frozen hcs2 801
    have HG := Lib.hid (And.intro hg (And.intro hl hi))
    by_cases hit : i = t.size
    · subst hit
      have hD : D.length = t.size - a := hl
      have HE : Hid (SetSays w F (t.size - a) (.returned (.bool true)) (wr.setCell ⟨F, 801, none⟩ (.int .i64 (D.length : Int)))) := Lib.hid (by
        obtain ⟨h1, h2, _, hk⟩ := hsr
        exact ⟨D, rfl, hD, h2 ha, ⟨_, DAt.set hcs2 801 _, by rw [← hD]; exact hrow2.point _⟩, hk.setCell 801 _⟩)
      have t1 : decide (0 < t.size) = true := by simpa using hp
      rw [t1]
      have t2 : ¬ (t.size : Int) < (t.size : Int) := by omega
      clear hsr hl hcs2 hrow2 hg hi hD
      go_wp2_with fail
      go_returns
      exact HE.out
    · have hlt : i < t.size := by omega
      have hlti : (i : Int) < (t.size : Int) := by omega
      have b1 := HT.out.2.1 i hlt
      have w1 : IntKind.i64.wrap ((i : Int) + 1) = ((i + 1 : Nat) : Int) := by rw [IntKind.wrap_i64]; omega
      obtain ⟨c, hc⟩ : ∃ c : Nat, c = (t[i]'hlt).toNat := ⟨_, rfl⟩
      have hc' : (((t[i]'hlt).toNat : Nat) : Int) = (c : Int) := by rw [hc]
      have n1 : ((c : Int) == 95) = false := by rw [beq_eq_false_iff_ne]; omega
      have n2 : ((c : Int) == 46) = false := by rw [beq_eq_false_iff_ne]; omega
      have n3 : (48 : Int) ≤ (c : Int) := by omega
      have n4 : (c : Int) ≤ 57 := by omega
      have hi0 : (0 : Int) ≤ (i : Int) := by omega
      by_cases hia : i < a
      · have n5 : ((c : Int) == 48) = true := by have := HT.out.1 i hlt hia; rw [beq_iff_eq]; omega
        obtain ⟨v, hv⟩ : ∃ v : Int, v = -(i : Int) - 1 := ⟨_, rfl⟩
        have HN := Lib.hid (hsr.nought hia v hv)
        have hD0 : D.length = 0 := by omega
        rw [hD0] at q800
        rw [if_pos hia] at q801
        have w2 : IntKind.i64.wrap (-(i : Int) - 1) = v := by rw [IntKind.wrap_i64]; omega
        have e3 : -(i : Int) - 1 = v := hv.symm
        clear hsr hl hcs2 hrow2 hg hi hc hv hD0 b1
        go_wp2_with fail
        go_roundg (t.size - (i + 1))
        case measure => have := HG.out.1; simp [intOf] at this; omega
        case rel => exact ⟨rfl, ⟨i + 1, D, by first | rfl | simp, by omega, by simp, HN.out⟩, by first | (simp [intOf]; done) | (simp [intOf]; omega)⟩
      · obtain ⟨d, hd9, hdc⟩ : ∃ d : Nat, d ≤ 9 ∧ c = 48 + d := ⟨c - 48, by omega, by omega⟩
        have hlD : D.length < 800 := by omega
        have hnd : (D.length : Int) < 800 := by omega
        obtain ⟨k, hk⟩ : ∃ k, k = D.length := ⟨_, rfl⟩
        obtain ⟨m, hm⟩ : ∃ m, m = D.length + 1 := ⟨_, rfl⟩
        have hz0 : i = a → d ≠ 0 := by
          rintro rfl
          have := HT.out.2.2.1
          omega
        have HN := Lib.hid (hsr.digit (by omega) hlD d hd9 hz0 (c : Int) (by omega) k m hk hm)
        rw [← hk] at q800 hnd
        rw [if_neg hia] at q801
        obtain ⟨z, hz, hzc⟩ := hrow2.any k (by omega)
        have kw := blk_cell hcs2 hzc
        have fw := blk_frozen hcs2 k
        have w2 : IntKind.i64.wrap ((k : Int) + 1) = (m : Int) := by rw [IntKind.wrap_i64]; omega
        have e3 : (k : Int) + 1 = (m : Int) := by omega
        have hk8 : k ≠ 800 := by omega
        have hcase : ((c : Int) == 48) = false ∨ (((c : Int) == 48) = true ∧ ((k : Int) == 0) = false) := by
          by_cases e : d = 0
          · right
            refine ⟨by rw [beq_iff_eq]; omega, ?_⟩
            rw [beq_eq_false_iff_ne]
            intro hk0
            exact hz0 (by omega) e
          · left; rw [beq_eq_false_iff_ne]; omega
        have HK := Lib.hid (And.intro hk hm)
        clear hsr hl hcs2 hrow2 hg hi hc b1 hz hzc hdc hd9 hm hz0 hlD hk
        rcases hcase with n5 | ⟨n5, n6⟩
        · go_wp2_with fail
          go_region
          go_wp2_with fail
          go_roundg (t.size - (i + 1))
          case measure => have := HG.out.1; simp [intOf] at this; omega
          case rel => exact ⟨rfl, ⟨i + 1, D ++ [d], by first | rfl | simp, by omega, by simp, HN.out⟩, by first | (simp [intOf]; done) | (simp [intOf]; omega)⟩
        · go_wp2_with fail
          go_region
          go_wp2_with fail
          go_roundg (t.size - (i + 1))
          case measure => have := HG.out.1; simp [intOf] at this; omega
          case rel => exact ⟨rfl, ⟨i + 1, D ++ [d], by first | rfl | simp, by omega, by simp, HN.out⟩, by first | (simp [intOf]; done) | (simp [intOf]; omega)⟩

end Go.Proofs.YtpneioocmpagmaaGreatDoor.dc

