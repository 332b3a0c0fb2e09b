/- bytes.TrimLeft with the digits of eight; utf8.DecodeRune at ASCII. -/
import Derived.Test.YtdcgoaikfbbneaaGreatDoorUt
import Derived.Test.YtdcgoaikfbbneaaGreatDoorDw
namespace Go.Proofs.YtdcgoaikfbbneaaGreatDoor.une
open Go.RowKit
set_option linter.unusedVariables false
set_option linter.unusedSimpArgs false

theorem oct_mem (x : UInt8) : octs.data.toList.contains x = decide (48 ≤ x.toNat ∧ x.toNat ≤ 55) := by
  have h : ∀ n : Fin 256, octs.data.toList.contains (UInt8.ofNat n.val) = decide (48 ≤ n.val ∧ n.val ≤ 55) := by decide +kernel
  have := h ⟨x.toNat, x.toNat_lt⟩
  simpa using this

theorem contains_any (g : Nat) (x : UInt8) (v : Bool) (w : World) (hc : w.cell? ⟨g, x.toNat, none⟩ = some (.bool v)) :
    Calls Tryz.prog 112 #[.pointer (some ⟨g, 0, none⟩), .int .u8 x.toNat] w fun e w' => e = .returned (.bool v) ∧ w = w' := by
  have hx256 : (x.toNat : Int) < 256 := by have := UInt8.toNat_lt x; omega
  go_enter Tryz.func112, Tryz.ntmps112
  go_wp2
  go_ret
  exact ⟨rfl, rfl⟩

def lenV : Value → Nat
  | .slice _ n _ => n
  | _ => 0

set_option maxHeartbeats 4000000 in
set_option maxRecDepth 100000 in
theorem trim_ascii (b off m c g : Nat) (B : Nat → UInt8) (hm : m ≤ c) (hc : c ≤ 9223372036854775807) (w : World)
    (hB : ∀ j, j < m → w.cell? ⟨b, off + j, none⟩ = some (.int .u8 ((B j).toNat : Int)))
    (hS : ∀ x : UInt8, w.cell? ⟨g, x.toNat, none⟩ = some (.bool (decide (48 ≤ x.toNat ∧ x.toNat ≤ 55))))
    (h3 : 3 < m) (hd : ∀ j, j < 3 → 48 ≤ (B j).toNat ∧ (B j).toNat ≤ 55) (hl : ¬ (48 ≤ (B (m - 1)).toNat ∧ (B (m - 1)).toNat ≤ 55)) :
    Calls Tryz.prog 94 #[.slice (some ⟨b, off, none⟩) m c, .pointer (some ⟨g, 0, none⟩)] w fun e w' => (∃ q, e = .returned (.slice (some ⟨b, off + q, none⟩) (m - q) (c - q)) ∧ 3 ≤ q ∧ q < m) ∧ w = w' := by
  have HB := Lib.hid hB
  have HS := Lib.hid hS
  have HD := Lib.hid (And.intro hd hl)
  clear hB hS hd hl
  go_enter Tryz.func94, Tryz.ntmps94
  go_wp2_with fail
  go_loop [0] (fun v0 => ∃ q : Nat, v0 = .slice (some ⟨b, off + q, none⟩) (m - q) (c - q) ∧ q < m) (fun v0 => lenV v0)
  case atStart => exact ⟨0, rfl, by omega⟩
  case round =>
    obtain ⟨q, rfl, hq⟩ := hrel
    have hcell := HB.out q hq
    have hset := HS.out (B q)
    obtain ⟨x, hx⟩ : ∃ x, x = B q := ⟨_, rfl⟩
    rw [← hx] at hcell hset
    have HX := Lib.hid hx
    clear hx
    have hpos : (0 : Int) < ((m - q : Nat) : Int) := by omega
    have hpos2 : 0 < m - q := by omega
    have hcq : m - q ≤ c - q := by omega
    by_cases ho : 48 ≤ x.toNat ∧ x.toNat ≤ 55
    · rw [decide_eq_true ho] at hset
      have hq1 : q + 1 < m := by
        have h2 := HD.out.2
        by_cases e : q + 1 < m
        · exact e
        · have e' : m - 1 = q := by omega
          rw [e', ← HX.out] at h2
          exact absurd ho h2
      have hcap : (1 : Int) < ((c - q : Nat) : Int) := by omega
      clear ho
      go_wp2_with (first | go_meet | (go_at_call 112; refine (contains_any g x true _ hset).mono ?_; rintro e w' ⟨rfl, rfl⟩))
      exact ⟨⟨q + 1, by rw [Nat.add_assoc, Nat.sub_sub, Nat.sub_sub], hq1⟩, by simp [lenV]; omega⟩
    · rw [decide_eq_false ho] at hset
      have hq3 : 3 ≤ q := by
        by_cases e : q < 3
        · have := HD.out.1 q e
          rw [← HX.out] at this
          exact absurd this ho
        · omega
      clear ho
      go_wp2_with (first | go_meet | (go_at_call 112; refine (contains_any g x false _ hset).mono ?_; rintro e w' ⟨rfl, rfl⟩))
      go_ret
      exact ⟨⟨q, rfl, hq3, hq⟩, rfl⟩

set_option maxHeartbeats 4000000 in
set_option maxRecDepth 1000000 in
theorem trim_left (b off m c : Nat) (B : Nat → UInt8) (hm : m ≤ c) (hc : c ≤ 9223372036854775807) (w : World) (hb : b < w.heap.size)
    (hB : ∀ j, j < m → w.cell? ⟨b, off + j, none⟩ = some (.int .u8 ((B j).toNat : Int)))
    (h3 : 3 < m) (hd : ∀ j, j < 3 → 48 ≤ (B j).toNat ∧ (B j).toNat ≤ 55) (hl : ¬ (48 ≤ (B (m - 1)).toNat ∧ (B (m - 1)).toNat ≤ 55)) :
    Calls Tryz.prog 71 #[.slice (some ⟨b, off, none⟩) m c, .string octs] w fun e w' => (∃ q, e = .returned (.slice (some ⟨b, off + q, none⟩) (m - q) (c - q)) ∧ 3 ≤ q ∧ q < m) ∧ Below w.heap.size w w' := by
  have HB := Lib.hid hB
  have HD := Lib.hid (And.intro hd hl)
  clear hB hd hl
  have hpos : ((m : Int) == 0) = false := by rw [beq_eq_false_iff_ne]; omega
  obtain ⟨cs, hcs⟩ : ∃ cs, cs = Lib.setCells octs.data.toList := ⟨_, rfl⟩
  have MS : ∀ w, _ := fun w => make_set w
  have hset := setIs
  rw [← hcs] at MS hset
  have hone : cs.toList.all (·.oneCell') = true := by rw [hcs]; exact set_one _
  have HM := Lib.hid MS
  have HSz := Lib.hid hset.1
  have HSt := Lib.hid hset.2
  have HO := Lib.hid hone
  clear MS hset hone hcs
  have hlen8 : ((octs.size : Int) == 1) = false := rfl
  have hemp : octs.toList.isEmpty = false := by rw [ByteArray.toList_eq]; rfl
  obtain ⟨chars, hch⟩ : ∃ ch, ch = octs := ⟨_, rfl⟩
  rw [← hch] at HM hlen8 hemp ⊢
  have HCH := Lib.hid hch
  clear hch
  go_enter Tryz.func71, Tryz.ntmps71
  go_wp2_with (first | go_meet | (go_at_call 93; refine (HM.out _).mono ?_; rintro e w1 ⟨rfl, hb1⟩; refine Hid.out ?_))
  refine Lib.hid ?_
  have HB1 := Lib.hid hb1
  have hz1 := hb1.size
  clear hb1
  go_wp2_with (first | ((with_reducible refine ints.store_blk ?_ 171 (.tmp 5) (.tmp 28) ?_ w1.heap.size cs ?_ ?_ 171 _ (alloc_row _ _ _) 256 sizeSet HSz.out ?_ HO.out w w.heap.size hz1 (HB1.out.alloc hz1 _) ?_); rfl; rfl; rfl; rfl; rfl; (intro w5 hg5 hcs ho5 hs5 hb5); refine Hid.out ?_))
  have hz5 : w1.heap.size < w5.heap.size := (Array.getElem?_eq_some_iff.1 hg5).1
  have HT := Lib.hid (trim_ascii b off m c w1.heap.size B hm hc w5 (fun j hj => (hb5.cell (p := ⟨b, off + j, none⟩) hb).trans (HB.out j hj))
    (fun x => hcs x.toNat _ (by rw [HSt.out x, oct_mem])) h3 HD.out.1 HD.out.2)
  have H5 := Lib.hid hb5
  clear hg5 hcs ho5 hs5 hb5
  refine Lib.hid ?_
  go_wp2_with (first | (go_at_call 94; refine HT.out.mono ?_; rintro e w' ⟨⟨q, rfl, hq⟩, rfl⟩))
  go_ret
  exact ⟨⟨q, rfl, hq⟩, H5.out⟩

set_option maxHeartbeats 4000000 in
set_option maxRecDepth 1000000 in
theorem decode_ascii (b off m c : Nat) (x : Nat) (hx : x < 128) (hm : 0 < m) (w : World) (hc : w.cell? ⟨b, off, none⟩ = some (.int .u8 x)) :
    Calls Tryz.prog 68 #[.slice (some ⟨b, off, none⟩) m c] w fun e w' => e = .returned (.tuple #[.int .i32 x, .int .i64 1]) ∧ w = w' := by
  have hx' : (x : Int) < 128 := by omega
  have hm' : (0 : Int) < (m : Int) := by omega
  go_enter Tryz.func68, Tryz.ntmps68
  go_wp2_with fail
  refine wp_loop_rounds 1 ?_
  rw [rounds_succ]
  go_wp2_with fail
  go_ret2
  exact ⟨rfl, rfl⟩

end Go.Proofs.YtdcgoaikfbbneaaGreatDoor.une
