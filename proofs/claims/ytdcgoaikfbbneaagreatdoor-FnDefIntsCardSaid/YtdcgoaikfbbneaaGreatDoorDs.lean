/- The reference's reading of whole numbers: plainDigits, toNumber, ReadWhole, ReadCount. -/
import Derived.Test.YtdcgoaikfbbneaaGreatDoorPu
import Derived.Test.YtdcgoaikfbbneaaGreatDoorDn
import Derived.Deep.DeepCutAuto
namespace Go.Proofs.YtdcgoaikfbbneaaGreatDoor.ints
open Go.RowKit Go.Proofs.YtdcgoaikfbbneaaGreatDoor.num Go.Proofs.YtdcgoaikfbbneaaGreatDoor.pu
set_option linter.unusedVariables false
set_option linter.unusedSimpArgs false

set_option maxHeartbeats 4000000 in
set_option maxRecDepth 100000 in
theorem is_digit (c : Nat) (w : World) : Calls Tryz.prog 41 #[.int .u8 c] w fun e w' => e = .returned (.bool (decide (48 ≤ c ∧ c ≤ 57))) ∧ w = w' := by
  by_cases h0 : (48 : Int) ≤ c <;> by_cases h1 : (c : Int) ≤ 57
  · rw [show decide (48 ≤ c ∧ c ≤ 57) = true from decide_eq_true (by omega)]
    go_enter Tryz.func41, Tryz.ntmps41
    go_wp2
    go_returns
    exact ⟨rfl, rfl⟩
  all_goals
    rw [show decide (48 ≤ c ∧ c ≤ 57) = false from decide_eq_false (by omega)]
    go_enter Tryz.func41, Tryz.ntmps41
    go_wp2
    go_returns
    exact ⟨rfl, rfl⟩

def NoWord (c : Nat) (b : Bool) : Prop := b = false → ¬ Word c
def WordSays (c : Nat) (w : World) (e : Ending) (w' : World) : Prop := (∃ b, e = .returned (.bool b) ∧ NoWord c b) ∧ w = w'

set_option maxHeartbeats 4000000 in
set_option maxRecDepth 100000 in
theorem word_byte (c : Nat) (w : World) : Calls Tryz.prog 42 #[.int .u8 c] w fun e w' => WordSays c w e w' := by
  go_enter Tryz.func42, Tryz.ntmps42
  go_wp2
  all_goals
    go_returns
    refine ⟨⟨_, rfl, fun h => ?_⟩, rfl⟩
    first | (cases h; done) | (unfold Word; simp only [Bool.or_eq_false_iff, Bool.and_eq_false_iff, beq_iff_eq, beq_eq_false_iff_ne, decide_eq_false_iff_not, decide_eq_true_eq, Bool.or_eq_true, ne_eq] at *; omega)

theorem getD_lt (t : ByteArray) (k : Nat) : (t.data.toList.getD k 0).toNat < 256 := UInt8.toNat_lt _

/-- The first k bytes are digits. -/
def Digs (l : List UInt8) (k : Nat) : Prop := ∀ j, j < k → IsDig (l.getD j 0)

theorem digs_all {l : List UInt8} (h : Digs l l.length) : ∀ c ∈ l, IsDig c := by
  intro c hc
  obtain ⟨j, hj, rfl⟩ := List.mem_iff_getElem.1 hc
  have := h j hj
  rw [List.getD_eq_getElem?_getD, List.getElem?_eq_getElem hj] at this
  simpa using this

theorem digs_next {l : List UInt8} {k : Nat} (h : Digs l k) (hk : IsDig (l.getD k 0)) : Digs l (k + 1) := by
  intro j hj
  by_cases e : j = k
  · subst e; exact hk
  · exact h j (by omega)

theorem bad_at {l : List UInt8} {k : Nat} (hk : k < l.length) (h : ¬ Word (l.getD k 0).toNat) : ∃ c ∈ l, ¬ Word c.toNat := by
  refine ⟨l.getD k 0, ?_, h⟩
  rw [List.getD_eq_getElem?_getD, List.getElem?_eq_getElem hk]
  exact List.getElem_mem hk

set_option maxHeartbeats 4000000 in
set_option maxRecDepth 100000 in
theorem plain_digits (t : ByteArray) (hmax : t.size ≤ 140737488355328) (w : World) :
    Calls Tryz.prog 13 #[.string t] w fun e w' => (∃ d, e = .returned (.int .i64 d) ∧ PD t.data.toList d) ∧ w = w' := by
  by_cases hne : t.size = 0
  · have hs : t = ⟨#[]⟩ := by
      apply ByteArray.ext
      exact Array.eq_empty_of_size_eq_zero hne
    subst hs
    go_enter Tryz.func13, Tryz.ntmps13
    go_wp2
    go_ret
    exact ⟨⟨_, rfl, .inr (.inr ⟨rfl, .inl rfl⟩)⟩, rfl⟩
  · have hemp : t.toList.isEmpty = false := by
      rw [← decide_eq_emptyBytes]
      exact decide_eq_false (fun h => hne (by rw [h]; rfl))
    have hn0 : 0 < t.size := by omega
    have hl : t.data.toList.length = t.size := by simp
    have HL := Lib.hid hl
    clear hl
    go_enter Tryz.func13, Tryz.ntmps13
    go_wp2_with fail
    go_loop [3] (fun vi => ∃ k : Nat, vi = .int .i64 k ∧ k ≤ t.size ∧ Digs t.data.toList k) (fun vi => t.size - (intOf vi).toNat)
    case atStart => exact ⟨0, rfl, by omega, fun j hj => by omega⟩
    case round =>
      obtain ⟨k, rfl, hk, hd⟩ := hrel
      by_cases hkn : k < t.size
      · have g := getD_get t k hkn
        have HD := Lib.hid (And.intro hd g)
        by_cases hdig : IsDig (t.data.toList.getD k 0)
        · have e : decide (48 ≤ (t[k]).toNat ∧ (t[k]).toNat ≤ 57) = true := by rw [← g]; exact decide_eq_true hdig
          clear hd g
          go_wp2_with (first | go_meet | (go_at_call 41; refine (is_digit _ _).mono ?_; rw [e]; rintro e w' ⟨rfl, rfl⟩))
          exact ⟨⟨k + 1, rfl, by omega, digs_next HD.out.1 hdig⟩, by simp [intOf]; omega⟩
        · have e : decide (48 ≤ (t[k]).toNat ∧ (t[k]).toNat ≤ 57) = false := by rw [← g]; exact decide_eq_false hdig
          clear hd g
          go_wp2_with (first | go_meet | (go_at_call 41; refine (is_digit _ _).mono ?_; rw [e]; rintro e w' ⟨rfl, rfl⟩) | (go_at_call 42; refine (word_byte _ _).mono ?_; rintro e w' ⟨⟨b, rfl, hb⟩, rfl⟩; have HB := Lib.hid hb; clear hb; cases b))
          all_goals go_ret
          · exact ⟨⟨_, rfl, .inr (.inr ⟨rfl, .inr (bad_at (k := k) (by rw [HL.out]; exact hkn) (by rw [HD.out.2]; exact HB.out rfl))⟩)⟩, rfl⟩
          · exact ⟨⟨_, rfl, .inl rfl⟩, rfl⟩
      · obtain rfl : k = t.size := by omega
        have hall := digs_all (by rw [HL.out]; exact hd)
        have HA := Lib.hid hall
        clear hall hd
        have g := getD_get t 0 hn0
        have HG := Lib.hid g
        have hne' : t.data.toList ≠ [] := fun h => by have := HL.out; rw [h] at this; simp at this; omega
        clear g
        by_cases h1 : t.size = 1
        · go_wp2
          go_ret
          exact ⟨⟨_, rfl, .inr (.inl ⟨rfl, hne', HA.out, .inl (by rw [HL.out]; exact h1)⟩)⟩, rfl⟩
        · have h2 : (1 : Int) < (t.size : Int) := by omega
          by_cases hz : (t[0]).toNat = 48
          · have e : (((t[0]).toNat : Int) == 48) = true := by rw [hz]; rfl
            go_wp2
            go_ret
            exact ⟨⟨_, rfl, .inl rfl⟩, rfl⟩
          · have e : (((t[0]).toNat : Int) == 48) = false := by rw [beq_eq_false_iff_ne]; omega
            go_wp2
            go_ret
            exact ⟨⟨_, rfl, .inr (.inl ⟨rfl, hne', HA.out, .inr (by rw [HG.out]; exact hz)⟩)⟩, rfl⟩

end Go.Proofs.YtdcgoaikfbbneaaGreatDoor.ints
