/- strconv.parseFloat64, parseFloat32: some number comes back. -/
import Derived.Test.YtpneioocmpagmaaGreatDoorFf
import Derived.Lib.BitFns
import Derived.Lib.ItoaNum
namespace Go.Proofs.YtpneioocmpagmaaGreatDoor.fl
open Go.RowKit
set_option linter.unusedVariables false
set_option linter.unusedSimpArgs false

theorem or_range (a b : Int) : 0 ≤ bits .or .u64 a b ∧ bits .or .u64 a b < 18446744073709551616 := by
  have : bits .or .u64 a b = IntKind.u64.wrap ((BitVec.ofInt 64 a ||| BitVec.ofInt 64 b).toNat : Int) := rfl
  rw [this, IntKind.wrap_u64]
  omega
theorem or_range32 (a b : Int) : 0 ≤ bits .or .u32 a b ∧ bits .or .u32 a b < 4294967296 := by
  have : bits .or .u32 a b = IntKind.u32.wrap ((BitVec.ofInt 32 a ||| BitVec.ofInt 32 b).toNat : Int) := rfl
  rw [this, IntKind.wrap_u32]
  omega

theorem len_bounds (d : Nat) (h : 1 ≤ d) (h' : d < 18446744073709551616) : 1 ≤ Lib.bitLen d ∧ Lib.bitLen d ≤ 64 ∧ 2 ^ (Lib.bitLen d - 1) ≤ d ∧ d < 2 ^ Lib.bitLen d := by
  obtain ⟨a, b, c⟩ := Lib.bitLenAux_bounds 64 d h' (by omega)
  exact ⟨a, Lib.bitLen_le d 64 (by omega) h', b, c⟩

/-- Moved up to the first bit. -/
theorem just (d b : Nat) (hb1 : 1 ≤ b) (hb : b ≤ 64) (h0 : 2 ^ (b - 1) ≤ d) (h1 : d < 2 ^ b) : 9223372036854775808 ≤ d * 2 ^ (64 - b) ∧ d * 2 ^ (64 - b) < 18446744073709551616 := by
  have e1 : 2 ^ (b - 1) * 2 ^ (64 - b) = 9223372036854775808 := by
    rw [← Nat.pow_add, show b - 1 + (64 - b) = 63 from by omega]
  have e2 : 2 ^ b * 2 ^ (64 - b) = 18446744073709551616 := by
    rw [← Nat.pow_add, show b + (64 - b) = 64 from by omega]
  have hp : 0 < 2 ^ (64 - b) := Nat.two_pow_pos _
  constructor
  · rw [← e1]; exact Nat.mul_le_mul_right _ h0
  · rw [← e2]; exact Nat.mul_lt_mul_of_pos_right h1 hp

theorem and63 (s : Nat) (h : s < 64) : bits .and .i64 (s : Int) 63 = (s : Int) := by
  have : ∀ n : Fin 64, bits .and .i64 (n.val : Int) 63 = (n.val : Int) := by decide
  exact this ⟨s, h⟩

theorem below_drewN {B : Nat} {a w : World} (h : Below B a w) (n : Nat) : Below B a (w.drewN n) := ⟨h.os, h.tape, h.output, h.size, h.block⟩

def R64 (e : Ending) : Prop := ∃ (b : Nat) (v : Value), e = .returned (.tuple #[.float .f64 b, v]) ∧ (v = .nilIface ∨ v = .iface 198 (.int .i64 1))

set_option maxRecDepth 100000 in
set_option maxHeartbeats 1000000 in
theorem parse64 (d : Nat) (p sign : Int) (hd : 1 ≤ d) (hd' : d < 18446744073709551616) (hp : -345 ≤ p) (hp' : p ≤ 310) (hs : 0 ≤ sign) (hs' : sign < 18446744073709551616) (w : World) (ht : ∀ w', Below w.heap.size w w' → TabP w') (hw : 17 < w.heap.size) :
    Calls Tryz.prog 212 #[.int .u64 d, .int .i64 p, .int .u64 sign] w fun e w' => R64 e ∧ Below w.heap.size w w' := by
  obtain ⟨b, hb⟩ : ∃ b, b = Lib.bitLen d := ⟨_, rfl⟩
  obtain ⟨b1, b2, b3, b4⟩ := len_bounds d hd hd'
  have HLN : Hid (∀ w, Calls Tryz.prog 157 #[.int .u64 d] w fun e w' => e = .returned (.int .i64 (b : Int)) ∧ w = w') := Lib.hid (fun w => by
    have := Tryz.bits_Len64 d w (by omega) (by omega)
    rw [Int.toNat_natCast, ← hb] at this
    exact this.mono fun e w' h => ⟨h.1, h.2.symm⟩)
  rw [← hb] at b1 b2 b3 b4
  obtain ⟨j1, j2⟩ := just d b b1 b2 b3 b4
  clear hb b3 b4
  obtain ⟨i, hi⟩ : ∃ i : Nat, p = (i : Int) - 348 := ⟨(p + 348).toNat, by omega⟩
  subst hi
  have hi1 : i < 696 := by omega
  have hfb := from64
  go_enter Tryz.func212, Tryz.ntmps212
  go_wp2_with fail
  refine (HLN.out _).mono ?_
  rintro e w' ⟨rfl, rfl⟩
  go_wp2_with fail
  refine (log2_any _ (by omega) (by omega) _).mono ?_
  rintro e w1 ⟨rfl, rfl⟩
  obtain ⟨lp, hlp⟩ : ∃ lp, lp = l2 ((i : Int) - 348) := ⟨_, rfl⟩
  have hl1 : -2000 ≤ lp ∧ lp ≤ 2000 := by rw [hlp]; unfold l2; omega
  rw [← hlp]
  obtain ⟨hl1, hl2⟩ := hl1
  clear hlp
  obtain ⟨M, hM⟩ : ∃ M, M = min 1074 (53 - (b : Int) - lp) := ⟨_, rfl⟩
  have hM1 : M ≤ 1074 := by omega
  have hM2 : M ≤ 53 - (b : Int) - lp := by omega
  have hM3 : -3000 ≤ M := by omega
  have hM' : min 1074 (53 - (b : Int) - lp) = M := hM.symm
  clear hM
  go_wp2_with fail
  have hne : ¬ w.heap.size = 17 := by omega
  refine (prescale_at w.heap.size _ lp i hi1 (by omega) (by omega) _ _ _ _ hne (by simp; rfl) (by simp; rfl) (by simp; rfl) (by simp) (ht _ (by go_grown))).mono ?_
  rintro e w1 ⟨rfl, rfl⟩
  obtain ⟨s, hs⟩ : ∃ s : Nat, -(M - (64 - (b : Int)) + lp + 3) = (s : Int) := ⟨(-(M - (64 - (b : Int)) + lp + 3)).toNat, by omega⟩
  rw [hs]
  go_wp2_with fail
  · go_ret2
    exact ⟨⟨_, _, rfl, .inl rfl⟩, by go_grown⟩
  · have hs64 : s < 64 := by omega
    have hx : IntKind.u64.wrap ((d : Int) * 2 ^ (64 - b)) = ((d * 2 ^ (64 - b) : Nat) : Int) := by
      have e : (d : Int) * 2 ^ (64 - b) = ((d * 2 ^ (64 - b) : Nat) : Int) := by push_cast; rfl
      rw [e, IntKind.wrap_u64]
      obtain ⟨y, hy⟩ : ∃ y, y = d * 2 ^ (64 - b) := ⟨_, rfl⟩
      rw [← hy] at j1 j2 ⊢
      omega
    rw [hx]
    obtain ⟨x, hxx⟩ : ∃ x, x = d * 2 ^ (64 - b) := ⟨_, rfl⟩
    rw [← hxx] at j1 j2 ⊢
    obtain ⟨t1, t2, t3⟩ := t_all i hi1
    clear hxx hx
    refine (uscale_at w.heap.size x (tHi i) (tLo i) s s (by omega) j2 t1 t2 t3 (and63 s hs64) hs64 _ (by simp) (by simp) (by simp)).mono ?_
    rintro e w2 ⟨rfl, n, rfl⟩
    have hu := usc_lt (x := x) (lo := tLo i) (t := s) j2 t2
    obtain ⟨u, hu'⟩ : ∃ u, u = usc x (tHi i) (tLo i) s := ⟨_, rfl⟩
    rw [← hu'] at hu ⊢
    clear hu' t1 t2 t3 j1 j2
    go_wp2_with (first | (go_at_call 221; go_in) | ((with_reducible refine (bool2i _ _).mono ?_); rintro e w' ⟨rfl, rfl⟩))
    all_goals
      refine (round_any _ (or_range _ _).1 (or_range _ _).2 _).mono ?_
      rintro e w3 ⟨⟨r, rfl, r0, r1⟩, rfl⟩
      go_wp2_with fail
      refine (pack64_any _ _ (or_range _ _).1 (or_range _ _).2 (by omega) (by omega) _).mono ?_
      rintro e w4 ⟨⟨fb, v, rfl, hv⟩, rfl⟩
      go_wp2_with fail
      go_ret2
      exact ⟨⟨_, _, rfl, hv⟩, below_drewN (by go_grown) _⟩

def R32 (e : Ending) : Prop := ∃ (b : Nat) (v : Value), e = .returned (.tuple #[.float .f32 b, v]) ∧ (v = .nilIface ∨ v = .iface 198 (.int .i64 1))

set_option maxRecDepth 100000 in
set_option maxHeartbeats 1000000 in
theorem parse32 (d : Nat) (p sign : Int) (hd : 1 ≤ d) (hd' : d < 18446744073709551616) (hp : -70 ≤ p) (hp' : p ≤ 40) (hs : 0 ≤ sign) (hs' : sign < 4294967296) (w : World) (ht : ∀ w', Below w.heap.size w w' → TabP w') (hw : 17 < w.heap.size) :
    Calls Tryz.prog 206 #[.int .u64 d, .int .i64 p, .int .u32 sign] w fun e w' => R32 e ∧ Below w.heap.size w w' := by
  obtain ⟨b, hb⟩ : ∃ b, b = Lib.bitLen d := ⟨_, rfl⟩
  obtain ⟨b1, b2, b3, b4⟩ := len_bounds d hd hd'
  have HLN : Hid (∀ w, Calls Tryz.prog 157 #[.int .u64 d] w fun e w' => e = .returned (.int .i64 (b : Int)) ∧ w = w') := Lib.hid (fun w => by
    have := Tryz.bits_Len64 d w (by omega) (by omega)
    rw [Int.toNat_natCast, ← hb] at this
    exact this.mono fun e w' h => ⟨h.1, h.2.symm⟩)
  rw [← hb] at b1 b2 b3 b4
  obtain ⟨j1, j2⟩ := just d b b1 b2 b3 b4
  clear hb b3 b4
  obtain ⟨i, hi⟩ : ∃ i : Nat, p = (i : Int) - 348 := ⟨(p + 348).toNat, by omega⟩
  subst hi
  have hi1 : i < 696 := by omega
  have hfb := from32
  go_enter Tryz.func206, Tryz.ntmps206
  go_wp2_with fail
  refine (HLN.out _).mono ?_
  rintro e w' ⟨rfl, rfl⟩
  go_wp2_with fail
  refine (log2_any _ (by omega) (by omega) _).mono ?_
  rintro e w1 ⟨rfl, rfl⟩
  obtain ⟨lp, hlp⟩ : ∃ lp, lp = l2 ((i : Int) - 348) := ⟨_, rfl⟩
  have hl1 : -2000 ≤ lp ∧ lp ≤ 2000 := by rw [hlp]; unfold l2; omega
  rw [← hlp]
  obtain ⟨hl1, hl2⟩ := hl1
  clear hlp
  obtain ⟨M, hM⟩ : ∃ M, M = min 149 (24 - (b : Int) - lp) := ⟨_, rfl⟩
  have hM1 : M ≤ 149 := by omega
  have hM2 : M ≤ 24 - (b : Int) - lp := by omega
  have hM3 : -3000 ≤ M := by omega
  have hM' : min 149 (24 - (b : Int) - lp) = M := hM.symm
  clear hM
  go_wp2_with fail
  have hne : ¬ w.heap.size = 17 := by omega
  refine (prescale_at w.heap.size _ lp i hi1 (by omega) (by omega) _ _ _ _ hne (by simp; rfl) (by simp; rfl) (by simp; rfl) (by simp) (ht _ (by go_grown))).mono ?_
  rintro e w1 ⟨rfl, rfl⟩
  obtain ⟨s, hs⟩ : ∃ s : Nat, -(M - (64 - (b : Int)) + lp + 3) = (s : Int) := ⟨(-(M - (64 - (b : Int)) + lp + 3)).toNat, by omega⟩
  rw [hs]
  go_wp2_with fail
  · go_ret2
    exact ⟨⟨_, _, rfl, .inl rfl⟩, by go_grown⟩
  · have hs64 : s < 64 := by omega
    have hx : IntKind.u64.wrap ((d : Int) * 2 ^ (64 - b)) = ((d * 2 ^ (64 - b) : Nat) : Int) := by
      have e : (d : Int) * 2 ^ (64 - b) = ((d * 2 ^ (64 - b) : Nat) : Int) := by push_cast; rfl
      rw [e, IntKind.wrap_u64]
      obtain ⟨y, hy⟩ : ∃ y, y = d * 2 ^ (64 - b) := ⟨_, rfl⟩
      rw [← hy] at j1 j2 ⊢
      omega
    rw [hx]
    obtain ⟨x, hxx⟩ : ∃ x, x = d * 2 ^ (64 - b) := ⟨_, rfl⟩
    rw [← hxx] at j1 j2 ⊢
    obtain ⟨t1, t2, t3⟩ := t_all i hi1
    clear hxx hx
    refine (uscale_at w.heap.size x (tHi i) (tLo i) s s (by omega) j2 t1 t2 t3 (and63 s hs64) hs64 _ (by simp) (by simp) (by simp)).mono ?_
    rintro e w2 ⟨rfl, n, rfl⟩
    have hu := usc_lt (x := x) (lo := tLo i) (t := s) j2 t2
    obtain ⟨u, hu'⟩ : ∃ u, u = usc x (tHi i) (tLo i) s := ⟨_, rfl⟩
    rw [← hu'] at hu ⊢
    clear hu' t1 t2 t3 j1 j2
    go_wp2_with (first | (go_at_call 221; go_in) | ((with_reducible refine (bool2i _ _).mono ?_); rintro e w' ⟨rfl, rfl⟩))
    all_goals
      refine (round_any _ (or_range _ _).1 (or_range _ _).2 _).mono ?_
      rintro e w3 ⟨⟨r, rfl, r0, r1⟩, rfl⟩
      go_wp2_with fail
      refine (pack32_any _ _ (or_range32 _ _).1 (or_range32 _ _).2 (by omega) (by omega) _).mono ?_
      rintro e w4 ⟨⟨fb, v, rfl, hv⟩, rfl⟩
      go_wp2_with fail
      go_ret2
      exact ⟨⟨_, _, rfl, hv⟩, below_drewN (by go_grown) _⟩

end Go.Proofs.YtpneioocmpagmaaGreatDoor.fl

