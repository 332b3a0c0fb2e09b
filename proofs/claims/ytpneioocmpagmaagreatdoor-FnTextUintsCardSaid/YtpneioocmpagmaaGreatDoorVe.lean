/- internal/strconv: decimal.Shift, shouldRoundUp, RoundedInteger. -/
import Derived.Test.YtpneioocmpagmaaGreatDoorVd
namespace Go.Proofs.YtpneioocmpagmaaGreatDoor.dc
open Go.RowKit
open Go.Proofs.YtpneioocmpagmaaGreatDoor.tx (Keeps blk_cell blk_frozen blk_set)
set_option linter.unusedVariables false
set_option linter.unusedSimpArgs false

theorem nd_pos {D : List Nat} (h : D.getD 0 0 ≠ 0) : 1 ≤ D.length := by
  refine Nat.one_le_iff_ne_zero.2 fun e => h ?_
  rw [List.eq_nil_of_length_eq_zero e]; rfl

set_option maxHeartbeats 8000000 in
set_option maxRecDepth 100000 in
theorem shift_right (F : Nat) (D : List Nat) (dp : Int) (hdp : -1000000 ≤ dp ∧ dp ≤ 1000000) (k : Nat) (hk : 1 ≤ k) (hk2 : k ≤ 60) (hd : D.getD 0 0 ≠ 0) (w : World) (h : DAt w F D D.length dp) (z : Int) (hz : z = -(k : Int)) :
    Calls Tryz.prog 186 #[.pointer (some ⟨F, 0, none⟩), .int .i64 z] w fun e w' => RSays w F D dp (2 ^ k) k e w' := by
  have HR := Lib.hid (right_shift F D dp hdp k hk hk2 hd w h)
  obtain ⟨cs, hcs, hrow⟩ := h
  have k800 := blk_cell hcs hrow.nd
  have hn := nd_pos hd
  have t0 : ((D.length : Int) == 0) = false := by rw [beq_eq_false_iff_ne]; omega
  have t1 : ¬ (0 : Int) < z := by omega
  have t2 : z < 0 := by omega
  have t3 : ¬ z < -60 := by omega
  have w1 : IntKind.i64.wrap (-z) = (k : Int) := by rw [IntKind.wrap_i64]; omega
  have w2 : IntKind.u64.wrap (k : Int) = (k : Int) := by rw [IntKind.wrap_u64]; omega
  have e1 : -z = (k : Int) := by omega
  clear hcs hrow hn hz
  go_enter Tryz.func186, Tryz.ntmps186
  go_wp2_with fail
  refine wp_loop_rounds 1 ?_
  rw [rounds_succ]
  go_wp2_with fail
  refine HR.out.mono ?_
  rintro e w' ⟨D', r, rfl, hh⟩
  have HH := Lib.hid hh
  clear hh
  go_wp2_with fail
  go_returns
  exact ⟨D', r, rfl, HH.out⟩

set_option maxHeartbeats 8000000 in
set_option maxRecDepth 100000 in
theorem shift_left (F : Nat) (D : List Nat) (dp : Int) (hdp : -1000000 ≤ dp ∧ dp ≤ 1000000) (k : Nat) (hk : 1 ≤ k) (hk2 : k ≤ 60) (hd : D.getD 0 0 ≠ 0) (d0 : Nat) (hd0 : 1 ≤ d0 ∧ d0 ≤ 100) (s : ByteArray) (S : List Nat) (hS : DigT s S) (hSl : S.length ≤ 100) (hS9 : ∀ d ∈ S, d ≤ 9)
    (delta : Nat) (hdel : delta = d0 - (if lexLt D S then 1 else 0)) (hlen : D.length + d0 ≤ 790)
    (hcar : (delta = 0 ∧ car D (2 ^ k) 0 = 0) ∨ (1 ≤ delta ∧ 10 ^ (delta - 1) ≤ car D (2 ^ k) 0 ∧ car D (2 ^ k) 0 < 10 ^ delta))
    (w : World) (h : DAt w F D D.length dp) (hch : Cheat w k d0 s) :
    Calls Tryz.prog 186 #[.pointer (some ⟨F, 0, none⟩), .int .i64 k] w fun e w' => LSays w F D dp (2 ^ k) delta e w' := by
  have HR := Lib.hid (left_shift F D dp hdp k hk hk2 hd d0 hd0 s S hS hSl hS9 delta hdel hlen hcar w h hch)
  obtain ⟨cs, hcs, hrow⟩ := h
  have k800 := blk_cell hcs hrow.nd
  have hn := nd_pos hd
  have t0 : ((D.length : Int) == 0) = false := by rw [beq_eq_false_iff_ne]; omega
  have t1 : (0 : Int) < (k : Int) := by omega
  have t3 : ¬ (60 : Int) < (k : Int) := by omega
  have w2 : IntKind.u64.wrap (k : Int) = (k : Int) := by rw [IntKind.wrap_u64]; omega
  clear hcs hrow hn hS hS9 hdel hcar hch
  go_enter Tryz.func186, Tryz.ntmps186
  go_wp2_with fail
  refine wp_loop_rounds 1 ?_
  rw [rounds_succ]
  go_wp2_with fail
  refine HR.out.mono ?_
  rintro e w' ⟨D', rfl, hh⟩
  have HH := Lib.hid hh
  clear hh
  go_wp2_with fail
  go_returns
  exact ⟨D', rfl, HH.out⟩

def SomeB (w : World) (e : Ending) (w' : World) : Prop := (∃ b, e = .returned (.bool b)) ∧ ∃ n, w' = w.drewN n

set_option maxHeartbeats 8000000 in
set_option maxRecDepth 100000 in
theorem should_round (F : Nat) (D : List Nat) (dp : Int) (nd : Nat) (w : World) (h : DAt w F D D.length dp) :
    Calls Tryz.prog 226 #[.pointer (some ⟨F, 0, none⟩), .int .i64 nd] w fun e w' => SomeB w e w' := by
  obtain ⟨cs, hcs, hrow⟩ := h
  have k800 := blk_cell hcs hrow.nd
  have hl8 := hrow.le
  obtain ⟨bt, hbt⟩ := hrow.tr
  have k803 := blk_cell hcs hbt
  have HR := Lib.hid (And.intro hcs hrow)
  have t0 : ¬ (nd : Int) < 0 := by omega
  by_cases hn : D.length ≤ nd
  · have t1 : (D.length : Int) ≤ (nd : Int) := by omega
    clear hcs hrow
    go_enter Tryz.func226, Tryz.ntmps226
    go_wp2_with fail
    go_ret
    exact ⟨⟨_, rfl⟩, 0, rfl⟩
  · have t1 : ¬ (D.length : Int) ≤ (nd : Int) := by omega
    have kd := blk_cell hcs (hrow.dig nd (by omega))
    obtain ⟨x, hx⟩ : ∃ x : Int, x = ((48 + D.getD nd 0 : Nat) : Int) := ⟨_, rfl⟩
    rw [← hx] at kd
    have hn8 : (nd : Int) < 800 := by omega
    have w1 : IntKind.i64.wrap ((nd : Int) + 1) = (nd : Int) + 1 := by rw [IntKind.wrap_i64]; omega
    clear hcs hrow hx hbt
    by_cases hz : nd = 0
    · have t2 : ¬ (0 : Int) < (nd : Int) := by omega
      clear hz
      go_enter Tryz.func226, Tryz.ntmps226
      go_wp2_with fail
      all_goals
        go_ret
        exact ⟨⟨_, rfl⟩, 0, rfl⟩
    · have kd1 : ∃ y : Int, w.cell? ⟨F, nd - 1, none⟩ = some (.int .u8 y) := ⟨_, blk_cell HR.out.1 (HR.out.2.dig (nd - 1) (by omega))⟩
      obtain ⟨y, kd1⟩ := kd1
      have t2 : (0 : Int) < (nd : Int) := by omega
      have w2 : IntKind.i64.wrap ((nd : Int) - 1) = ((nd - 1 : Nat) : Int) := by rw [IntKind.wrap_i64]; omega
      have e2 : (nd : Int) - 1 = ((nd - 1 : Nat) : Int) := by omega
      have t3 : ((nd - 1 : Nat) : Int) < 800 := by omega
      go_enter Tryz.func226, Tryz.ntmps226
      go_wp2_with fail
      all_goals
        go_ret
        exact ⟨⟨_, rfl⟩, 0, rfl⟩

def Ri (D : List Nat) (p : Nat) (v3 v4 : Value) : Prop := ∃ (i : Nat) (n : Int), v3 = .int .i64 (i : Int) ∧ v4 = .int .u64 n ∧ i ≤ 20 ∧ i ≤ p ∧ 0 ≤ n ∧ n < 18446744073709551616

/-- Some number. -/
def SomeN (w : World) (e : Ending) (w' : World) : Prop := (∃ n : Int, e = .returned (.int .u64 n) ∧ 0 ≤ n ∧ n < 18446744073709551616) ∧ ∃ n, w' = w.drewN n

set_option maxHeartbeats 8000000 in
set_option maxRecDepth 100000 in
theorem rounded (F : Nat) (D : List Nat) (p : Nat) (hp : p ≤ 20) (w : World) (h : DAt w F D D.length (p : Int)) :
    Calls Tryz.prog 236 #[.pointer (some ⟨F, 0, none⟩)] w fun e w' => SomeN w e w' := by
  have HS := Lib.hid (should_round F D (p : Int) p w h)
  obtain ⟨cs, hcs, hrow⟩ := h
  have k800 := blk_cell hcs hrow.nd
  have k801 := blk_cell hcs hrow.dp
  have hl8 := hrow.le
  have HR := Lib.hid (And.intro hcs hrow)
  have t0 : ¬ (20 : Int) < (p : Int) := by omega
  clear hcs hrow
  go_enter Tryz.func236, Tryz.ntmps236
  have hr64 : ∀ x : Int, 0 ≤ IntKind.u64.wrap x ∧ IntKind.u64.wrap x < 18446744073709551616 := fun x => by rw [IntKind.wrap_u64]; omega
  have HW64 := Lib.hid hr64
  clear hr64
  go_wp2_with fail
  go_loop [3, 4] (fun v3 v4 => Ri D p v3 v4) (fun v3 _ => D.length - (intOf v3).toNat)
  case atStart => exact ⟨0, 0, rfl, rfl, by omega, by omega, by omega, by decide⟩
  case round =>
    obtain ⟨i, n, rfl, rfl, hi, hip, hn0, hn1⟩ := hrel
    by_cases hc : i < p ∧ i < D.length
    · obtain ⟨hcp, hcD⟩ := hc
      have kd := blk_cell HR.out.1 (HR.out.2.dig i hcD)
      have h9 := getD_nine HR.out.2.nine i
      obtain ⟨d, hd⟩ : ∃ d, d = D.getD i 0 := ⟨_, rfl⟩
      rw [← hd] at kd h9
      obtain ⟨c, hc⟩ : ∃ c : Int, c = ((48 + d : Nat) : Int) := ⟨_, rfl⟩
      rw [← hc] at kd
      obtain ⟨n10, hn10⟩ : ∃ x : Int, x = IntKind.u64.wrap (n * 10) := ⟨_, rfl⟩
      obtain ⟨n', hn'⟩ : ∃ x : Int, x = IntKind.u64.wrap (n10 + (d : Int)) := ⟨_, rfl⟩
      have t1 : (i : Int) < (p : Int) := by omega
      have t2 : (i : Int) < (D.length : Int) := by omega
      have t3 : (i : Int) < 800 := by omega
      have w1 : IntKind.u64.wrap (n * 10) = n10 := hn10.symm
      have w2 : IntKind.u8.wrap (c - 48) = (d : Int) := by rw [IntKind.wrap_u8]; omega
      have w3 : IntKind.u64.wrap (d : Int) = (d : Int) := by rw [IntKind.wrap_u64]; omega
      have w4 : IntKind.u64.wrap (n10 + (d : Int)) = n' := hn'.symm
      have w5 : IntKind.i64.wrap ((i : Int) + 1) = (i : Int) + 1 := by rw [IntKind.wrap_i64]; omega
      have HN : Hid (0 ≤ n' ∧ n' < 18446744073709551616) := Lib.hid (by rw [hn']; exact HW64.out _)
      clear hn10 hn' hc hd hn0 hn1
      go_wp2_with fail
      exact ⟨⟨i + 1, n', by go_num, rfl, by omega, by omega, HN.out.1, HN.out.2⟩, by first | (simp [intOf]; done) | (simp [intOf]; omega)⟩
    · have hcc : ¬ (i : Int) < (p : Int) ∨ ((i : Int) < (p : Int) ∧ ¬ (i : Int) < (D.length : Int)) := by omega
      have HN : Hid (0 ≤ n ∧ n < 18446744073709551616) := Lib.hid ⟨hn0, hn1⟩
      clear hn0 hn1
      rcases hcc with t1 | ⟨t1, t2⟩
      all_goals
        go_wp2_with fail
        go_loop [3, 4] (fun v3 v4 => Ri D p v3 v4) (fun v3 _ => p - (intOf v3).toNat)
        case atStart => exact ⟨i, n, rfl, rfl, by omega, by omega, HN.out.1, HN.out.2⟩
        case round =>
          obtain ⟨i2, n2, rfl, rfl, hi2, hip2, hn02, hn12⟩ := hrel
          have HN2 := Lib.hid (And.intro hn02 hn12)
          clear hn02 hn12
          by_cases hc2 : i2 < p
          · have t5 : (i2 : Int) < (p : Int) := by omega
            obtain ⟨n', hn'⟩ : ∃ x : Int, x = IntKind.u64.wrap (n2 * 10) := ⟨_, rfl⟩
            have w1 : IntKind.u64.wrap (n2 * 10) = n' := hn'.symm
            have w5 : IntKind.i64.wrap ((i2 : Int) + 1) = (i2 : Int) + 1 := by rw [IntKind.wrap_i64]; omega
            have HN : Hid (0 ≤ n' ∧ n' < 18446744073709551616) := Lib.hid (by rw [hn']; exact HW64.out _)
            clear hn'
            go_wp2_with fail
            exact ⟨⟨i2 + 1, n', by go_num, rfl, by omega, by omega, HN.out.1, HN.out.2⟩, by first | (simp [intOf]; done) | (simp [intOf]; omega)⟩
          · have t5 : ¬ (i2 : Int) < (p : Int) := by omega
            go_wp2_with fail
            refine HS.out.mono ?_
            rintro e w' ⟨⟨bq, rfl⟩, nq, rfl⟩
            cases bq
            · go_wp2_with fail
              go_ret
              exact ⟨⟨n2, rfl, HN2.out.1, HN2.out.2⟩, _, rfl⟩
            · obtain ⟨n', hn'⟩ : ∃ x : Int, x = IntKind.u64.wrap (n2 + 1) := ⟨_, rfl⟩
              have w1 : IntKind.u64.wrap (n2 + 1) = n' := hn'.symm
              have HN : Hid (0 ≤ n' ∧ n' < 18446744073709551616) := Lib.hid (by rw [hn']; exact HW64.out _)
              clear hn'
              go_wp2_with fail
              go_ret
              exact ⟨⟨n', rfl, HN.out.1, HN.out.2⟩, _, rfl⟩

end Go.Proofs.YtpneioocmpagmaaGreatDoor.dc

