/- laws.digits, laws.signed. -/
import Derived.Test.YtpneioocmpagmaaGreatDoorGj
import Derived.Test.YtpneioocmpagmaaGreatDoorTy
import Derived.Test.YtpneioocmpagmaaGreatDoorPu0
import Derived.Deep.RegionWith
import Derived.Lib.ItoaLen
namespace Go.Proofs.YtpneioocmpagmaaGreatDoor.tx
open Go.RowKit Go.Proofs.YtpneioocmpagmaaGreatDoor.pu Go.Proofs.YtpneioocmpagmaaGreatDoor.num
set_option linter.unusedVariables false
set_option linter.unusedSimpArgs false

theorem conv_one (x : UInt8) (w : World) (b : Nat) (h : w.cell? ⟨b, 0, none⟩ = some (.int .u8 x.toNat)) : (convert 25 9 (.slice (some ⟨b, 0, none⟩) 1 1)).run Tryz.prog w = .ok (.string ⟨#[x]⟩) w :=
  conv_row (c := 1) (o := 0) (tx := [x]) (fun j hj => by
    have h0 : j = 0 := by simpa using hj
    subst h0
    exact h)

set_option maxHeartbeats 8000000 in
set_option maxRecDepth 100000 in
theorem digits_walk : ∀ (n u : Nat), u < n → u < 18446744073709551616 → ∀ w : World, Calls Tryz.prog 17 #[.int .u64 (u : Int)] w fun e w' => e = .returned (.string ⟨(Lib.decDigits u).toArray⟩) ∧ Below w.heap.size w w' := by
  intro n
  induction n with
  | zero => intro u h; omega
  | succ n ih =>
    intro u hn h64 w
    by_cases h10 : u < 10
    · have hx : ((48 + u : Nat) : Int) = ((UInt8.ofNat (48 + u)).toNat : Int) := by rw [UInt8.toNat_ofNat']; omega
      have hcv := conv_one (UInt8.ofNat (48 + u))
      rw [← hx] at hcv
      have h10' : (u : Int) < 10 := by omega
      have hw : IntKind.u64.wrap (48 + (u : Int)) = ((48 + u : Nat) : Int) := by rw [IntKind.wrap_u64]; omega
      have hw8 : IntKind.u8.wrap ((48 + u : Nat) : Int) = ((48 + u : Nat) : Int) := by rw [IntKind.wrap_u8]; omega
      obtain ⟨y, hy⟩ : ∃ y : Int, y = ((48 + u : Nat) : Int) := ⟨_, rfl⟩
      rw [← hy] at hcv hw hw8
      rw [Lib.decDigits_one h10]
      obtain ⟨c, hc⟩ : ∃ c : UInt8, c = UInt8.ofNat (48 + u) := ⟨_, rfl⟩
      rw [← hc] at hcv ⊢
      clear hx ih hn hy hc
      go_enter Tryz.func17, Tryz.ntmps17
      go_wp2_with fail
      go_ret
      exact ⟨rfl, by go_grown⟩
    · have hx : ((48 + u % 10 : Nat) : Int) = ((UInt8.ofNat (48 + u % 10)).toNat : Int) := by rw [UInt8.toNat_ofNat']; omega
      have hcv := conv_one (UInt8.ofNat (48 + u % 10))
      rw [← hx] at hcv
      have h10' : ¬ (u : Int) < 10 := by omega
      have hq : IntKind.u64.wrap ((u / 10 : Nat) : Int) = ((u / 10 : Nat) : Int) := by rw [IntKind.wrap_u64]; omega
      have hq' : Int.tdiv (u : Int) 10 = ((u / 10 : Nat) : Int) := by rw [Int.tdiv_eq_ediv_of_nonneg (by omega)]; omega
      have hr : Int.tmod (u : Int) 10 = ((u % 10 : Nat) : Int) := by rw [Int.tmod_eq_emod_of_nonneg (by omega)]; omega
      have hw : IntKind.u64.wrap (48 + ((u % 10 : Nat) : Int)) = ((48 + u % 10 : Nat) : Int) := by rw [IntKind.wrap_u64]; omega
      have hw8 : IntKind.u8.wrap ((48 + u % 10 : Nat) : Int) = ((48 + u % 10 : Nat) : Int) := by rw [IntKind.wrap_u8]; omega
      obtain ⟨y, hy⟩ : ∃ y : Int, y = ((48 + u % 10 : Nat) : Int) := ⟨_, rfl⟩
      rw [← hy] at hcv hw hw8
      have IH := Lib.hid (ih (u / 10) (by omega) (by omega))
      obtain ⟨D, hD⟩ : ∃ D : ByteArray, D = ⟨(Lib.decDigits (u / 10)).toArray⟩ := ⟨_, rfl⟩
      rw [← hD] at IH
      have hlen : D.size ≤ 20 := by
        rw [hD]
        show (Lib.decDigits (u / 10)).toArray.size ≤ 20
        rw [List.size_toArray, Lib.decDigits_length]; exact Lib.nDigits_le20 _ (by omega)
      have hlen' : ¬ 9223372036854775807 < D.size + 1 := by omega
      obtain ⟨q, hqq⟩ : ∃ q : Int, q = ((u / 10 : Nat) : Int) := ⟨_, rfl⟩
      obtain ⟨r, hrr⟩ : ∃ r : Int, r = ((u % 10 : Nat) : Int) := ⟨_, rfl⟩
      rw [← hqq] at IH hq hq'
      rw [← hrr] at hr hw
      have goal_eq : D ++ ⟨#[UInt8.ofNat (48 + u % 10)]⟩ = ⟨(Lib.decDigits u).toArray⟩ := by
        rw [hD, show Lib.decDigits u = Lib.decDigits (u / 10) ++ [UInt8.ofNat (48 + u % 10)] from by rw [Lib.decDigits, dif_neg h10]]
        exact ByteArray.ext (by simp [ByteArray.data_append])
      rw [← goal_eq]
      obtain ⟨c, hc⟩ : ∃ c : UInt8, c = UInt8.ofNat (48 + u % 10) := ⟨_, rfl⟩
      rw [← hc] at hcv ⊢
      clear hx ih hn hy hD hlen goal_eq hqq hrr h10 hc
      go_enter Tryz.func17, Tryz.ntmps17
      go_wp2_with fail
      go_region_with (go_at_call 17; (with_reducible refine (IH.out _).mono ?_); rintro e w4 ⟨rfl, hb4⟩; have hbw : Below w.heap.size w w4 := Below.trans (by first | exact (Below.refl _ _).drew | exact (Below.refl _ _).drew.alloc (Nat.le_refl _) _ | go_grown) (hb4.mono (by simp)); have k0 := hb4.cell (p := ⟨w.heap.size, 0, none⟩); (try simp at k0); clear hb4)
      all_goals
        go_wp2_with fail
        go_ret
        exact ⟨rfl, by first | exact hbw | exact hbw.alloc (by simpa using hbw.size) _ | (have := hbw.size; go_grown)⟩

set_option maxHeartbeats 8000000 in
set_option maxRecDepth 100000 in
theorem signed_walk (n : Int) (h0 : -9223372036854775808 ≤ n) (h1 : n ≤ 9223372036854775807) (w : World) : Calls Tryz.prog 16 #[.int .i64 n] w fun e w' => e = .returned (.string ⟨(Lib.itoa n).toArray⟩) ∧ Below w.heap.size w w' := by
  obtain ⟨D, hD⟩ : ∃ D : ByteArray, D = ⟨(Lib.decDigits n.natAbs).toArray⟩ := ⟨_, rfl⟩
  have HD := Lib.hid (digits_walk (n.natAbs + 1) n.natAbs (by omega) (by omega))
  rw [← hD] at HD
  have hlen : D.size ≤ 20 := by
    rw [hD]
    show (Lib.decDigits n.natAbs).toArray.size ≤ 20
    rw [List.size_toArray, Lib.decDigits_length]; exact Lib.nDigits_le20 _ (by omega)
  obtain ⟨a, ha⟩ : ∃ a : Int, a = (n.natAbs : Int) := ⟨_, rfl⟩
  rw [← ha] at HD
  by_cases hn : n < 0
  · have e : Lib.itoa n = 45 :: Lib.decDigits n.natAbs := by unfold Lib.itoa; rw [if_pos hn]
    have he : (⟨#[45]⟩ : ByteArray) ++ D = ⟨(Lib.itoa n).toArray⟩ := by
      rw [hD, e]
      exact ByteArray.ext (by simp [ByteArray.data_append])
    rw [← he]
    have hw : IntKind.u64.wrap n = n + 18446744073709551616 := by rw [IntKind.wrap_u64]; omega
    have hw2 : IntKind.u64.wrap (-(n + 18446744073709551616)) = a := by rw [IntKind.wrap_u64]; omega
    have hlen' : ¬ 9223372036854775807 < 1 + D.size := by omega
    clear he e hD ha hlen
    go_enter Tryz.func16, Tryz.ntmps16
    go_wp2_with ((with_reducible refine (HD.out _).mono ?_); rintro e w' ⟨rfl, hb⟩)
    go_ret
    exact ⟨rfl, hb⟩
  · have e : Lib.itoa n = Lib.decDigits n.natAbs := by unfold Lib.itoa; rw [if_neg hn, show n.toNat = n.natAbs from by omega]
    rw [e, ← hD]
    have hw : IntKind.u64.wrap n = a := by rw [IntKind.wrap_u64]; omega
    clear e hD ha hlen
    go_enter Tryz.func16, Tryz.ntmps16
    go_wp2_with ((with_reducible refine (HD.out _).mono ?_); rintro e w' ⟨rfl, hb⟩)
    go_ret
    exact ⟨rfl, hb⟩

end Go.Proofs.YtpneioocmpagmaaGreatDoor.tx

