/- json.parseNumberParts at a number. -/
import Derived.Test.YtdeehmjdbjlfkaaGreatDoorGw
namespace Go.Proofs.YtdeehmjdbjlfkaaGreatDoor.jn
open Go.RowKit Go.Proofs.YtdeehmjdbjlfkaaGreatDoor.js
set_option linter.unusedVariables false
set_option linter.unusedSimpArgs false

/-- Some bytes of a block, as a slice; of none of them the place is left open. -/
def SlOf (b lo n : Nat) (v : Value) : Prop := ∃ a c, v = .slice a n c ∧ n ≤ c ∧ c ≤ 9223372036854775807 ∧ (0 < n → a = some ⟨b, lo, none⟩)

theorem slOf_nil (b lo : Nat) : SlOf b lo 0 (.slice none 0 0) := ⟨none, 0, rfl, by omega, by omega, fun h => by omega⟩

/-- How many are left without the noughts at the end. -/
def tlen (T : List UInt8) (lo : Nat) : Nat → Nat
  | 0 => 0
  | n + 1 => if at_ T (lo + n) = 48 then tlen T lo n else n + 1

theorem tlen_le (T : List UInt8) (lo : Nat) : ∀ n, tlen T lo n ≤ n
  | 0 => Nat.le_refl _
  | n + 1 => by
    unfold tlen
    have := tlen_le T lo n
    split <;> omega

set_option maxHeartbeats 4000000 in
theorem trim_byte (b lo n c L : Nat) (a : Option Addr) (T : List UInt8) (hT : T.length = L) (hn : lo + n ≤ L ∨ n = 0) (hL47 : L ≤ 140737488355000) (hnc : n ≤ c) (hc : c ≤ 9223372036854775807) (ha : 0 < n → a = some ⟨b, lo, none⟩) (w : World) (hr : RowM w b 0 T) :
    Calls Tryz.prog 120 #[.slice a n c, .int .u8 48] w fun e w' => (∃ a', e = .returned (.slice a' (tlen T lo n) c) ∧ (0 < tlen T lo n → a' = some ⟨b, lo, none⟩)) ∧ w = w' := by
  have HR := Lib.hid (fun p (hp : p < L) => cell_at hT hr hp)
  have HA := Lib.hid ha
  have HN := Lib.hid hn
  obtain ⟨R, hR⟩ : ∃ R, R = tlen T lo n := ⟨_, rfl⟩
  rw [← hR]
  have HRR := Lib.hid hR
  have HTL : Hid (∀ j, j < n → tlen T lo (j + 1) = if at_ T (lo + j) = 48 then tlen T lo j else j + 1) := Lib.hid (fun j _ => rfl)
  clear hr ha hn hR
  go_enter Tryz.func120, Tryz.ntmps120
  go_wp2_with fail
  go_loop [0] (fun v0 => ∃ j : Nat, j ≤ n ∧ v0 = .slice a j c ∧ tlen T lo j = R) (fun v0 => match v0 with | .slice _ k _ => k | _ => 0)
  case atStart => exact ⟨n, Nat.le_refl _, rfl, HRR.out.symm⟩
  case round =>
    obtain ⟨j, hj, rfl, htl⟩ := hrel
    have HT1 := Lib.hid htl
    clear htl
    rcases Nat.eq_zero_or_pos j with h0 | h0
    · subst h0
      have HZ : Hid (R = 0) := Lib.hid HT1.out.symm
      go_wp2_with fail
      go_ret
      exact ⟨⟨a, by rw [HZ.out]; rfl, fun h => HA.out (by rw [HZ.out] at h; omega)⟩, rfl⟩
    · obtain ⟨i, rfl⟩ : ∃ i, j = i + 1 := ⟨j - 1, by omega⟩
      have hn0 : 0 < n := by omega
      obtain rfl := HA.out hn0
      have hlt : lo + i < L := by have := HN.out; omega
      have cx := HR.out (lo + i) hlt
      obtain ⟨x, hx⟩ : ∃ x, x = at_ T (lo + i) := ⟨_, rfl⟩
      rw [← hx] at cx
      have HX := Lib.hid hx
      have m0 : (0 : Int) < ((i + 1 : Nat) : Int) := by omega
      have e0 : ((i + 1 : Nat) : Int) - 1 = (i : Int) := by omega
      have m1 : (0 : Int) ≤ (i : Int) := by omega
      have m2 : (i : Int) < ((i + 1 : Nat) : Int) := by omega
      have m3 : (i : Int) ≤ (c : Int) := by omega
      have HJ : Hid (i ≤ n) := Lib.hid (by omega)
      clear hx
      by_cases h48 : x = 48
      · have e48 : ((x : Int) == 48) = true := by rw [h48]; rfl
        have HNX : Hid (tlen T lo i = R) := Lib.hid (by
          have := HT1.out
          unfold tlen at this
          rw [if_pos (by rw [← HX.out]; exact h48)] at this
          exact this)
        clear h48
        go_wp2_with fail
        exact ⟨⟨i, HJ.out, rfl, HNX.out⟩, by simp⟩
      · have e48 : ((x : Int) == 48) = false := by rw [beq_eq_false_iff_ne]; omega
        have HOUT : Hid (i + 1 = R) := Lib.hid (by
          have := HT1.out
          unfold tlen at this
          rw [if_neg (by rw [← HX.out]; exact h48)] at this
          exact this)
        clear h48
        go_wp2_with fail
        go_ret
        exact ⟨⟨_, by rw [← HOUT.out]; rfl, fun _ => rfl⟩, rfl⟩

set_option maxHeartbeats 4000000 in
theorem trim_right (b lo n L : Nat) (v : Value) (T : List UInt8) (hT : T.length = L) (hn : lo + n ≤ L ∨ n = 0) (hL47 : L ≤ 140737488355000) (hv : SlOf b lo n v) (w : World) (hr : RowM w b 0 T) :
    Calls Tryz.prog 103 #[v, .string ⟨#[48]⟩] w fun e w' => (∃ v', e = .returned v' ∧ SlOf b lo (tlen T lo n) v') ∧ w = w' := by
  obtain ⟨a, c, rfl, hnc, hc, ha⟩ := hv
  have hle := tlen_le T lo n
  have H := Lib.hid (trim_byte b lo n c L a T hT hn hL47 hnc hc ha w hr)
  have HA := Lib.hid ha
  have kk : ((⟨#[48]⟩ : ByteArray)[0]'(by decide)).toNat = 48 := rfl
  by_cases h0 : n = 0
  · subst h0
    clear hr ha hn
    go_enter Tryz.func103, Tryz.ntmps103
    go_wp2_with fail
    go_ret
    exact ⟨⟨_, rfl, a, c, rfl, by omega, hc, fun h => by unfold tlen at h; omega⟩, rfl⟩
  · have n0 : ((n : Int) == 0) = false := by rw [beq_eq_false_iff_ne]; omega
    clear hr ha hn h0
    go_enter Tryz.func103, Tryz.ntmps103
    go_wp2_with ((with_reducible refine H.out.mono ?_); rintro e w' ⟨⟨a', rfl, ha'⟩, rfl⟩)
    go_ret
    exact ⟨⟨_, rfl, a', c, rfl, by omega, hc, ha'⟩, rfl⟩

end Go.Proofs.YtdeehmjdbjlfkaaGreatDoor.jn
