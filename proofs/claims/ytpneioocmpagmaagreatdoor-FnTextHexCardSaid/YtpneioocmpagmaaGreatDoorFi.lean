/- strconv.atof64exact, atof32exact: some number, or none. -/
import Derived.Test.YtpneioocmpagmaaGreatDoorNum
import Derived.Test.YtpneioocmpagmaaGreatDoorFf
namespace Go.Proofs.YtpneioocmpagmaaGreatDoor.fl
open Go.RowKit
set_option linter.unusedVariables false
set_option linter.unusedSimpArgs false

/-- The tables of powers of ten as floats. -/
structure FTab (w : World) : Prop where
  m64 : w.cell? ⟨11, 0, none⟩ = some (.int .u64 52)
  t64 : ∃ a : Addr, w.cell? ⟨16, 0, none⟩ = some (.slice (some a) 23 23) ∧ ∀ k, k < 23 → ∃ x, w.cell? (a.add k) = some (.float .f64 x) ∧ Good .f64 x
  t32 : ∃ a : Addr, w.cell? ⟨14, 0, none⟩ = some (.slice (some a) 11 11) ∧ ∀ k, k < 11 → ∃ x, w.cell? (a.add k) = some (.float .f32 x) ∧ Good .f32 x

def X64 (e : Ending) : Prop := ∃ (b : Nat) (ok : Bool), e = .returned (.tuple #[.float .f64 b, .bool ok])
def X32 (e : Ending) : Prop := ∃ (b : Nat) (ok : Bool), e = .returned (.tuple #[.float .f32 b, .bool ok])

set_option maxRecDepth 100000 in
set_option maxHeartbeats 4000000 in
theorem exact64 (m : Nat) (p : Int) (ng : Bool) (hm : m < 18446744073709551616) (hp : -400 ≤ p) (hp' : p ≤ 400) (w : World) (ht : FTab w) :
    Calls Tryz.prog 211 #[.int .u64 m, .int .i64 p, .bool ng] w fun e w' => X64 e ∧ w = w' := by
  have m64 := ht.m64
  have hng : ∀ w b, (Op.unary .neg (.float .f64 b)).run Tryz.prog w = .ok (.float .f64 (Op.negFloat .f64 b)) w := fun _ _ => rfl
  have hng2 : ∀ w b, (Op.unary .neg (.float .f32 b)).run Tryz.prog w = .ok (.float .f32 (Op.negFloat .f32 b)) w := fun _ _ => rfl
  obtain ⟨b, cc, hk⟩ := ht.t64
  have HK := Lib.hid hk
  obtain ⟨F, hF⟩ : ∃ F, floatOfInt .f64 (m : Int) = F := ⟨_, rfl⟩
  have nF : NN .f64 F := by rw [← hF]; exact nearest_nn .f64 m
  obtain ⟨G, hG⟩ : ∃ G, Op.negFloat .f64 F = G := ⟨_, rfl⟩
  have nG : NN .f64 G := by rw [← hG]; exact neg_nn nF
  clear hk ht
  by_cases hbig : ((m : Int) / 4503599627370496 != 0) = true
  · clear nF nG
    cases ng
    all_goals
      go_enter Tryz.func211, Tryz.ntmps211
      go_wp2_with fail
      go_ret2
      exact ⟨⟨_, _, rfl⟩, rfl⟩
  · rw [Bool.not_eq_true] at hbig
    by_cases h0 : p = 0
    · subst h0
      have h00 : ((0 : Int) == 0) = true := rfl
      clear nF nG
      cases ng
      all_goals
        go_enter Tryz.func211, Tryz.ntmps211
        go_wp2_with fail
        go_ret2
        exact ⟨⟨_, _, rfl⟩, rfl⟩
    · have h00 : (p == 0) = false := by rw [beq_eq_false_iff_ne]; exact h0
      rcases (by omega : p < -22 ∨ (-22 ≤ p ∧ p < 0) ∨ (0 < p ∧ p ≤ 22) ∨ (22 < p ∧ p ≤ 37) ∨ 37 < p) with h | ⟨h1, h2⟩ | ⟨h1, h2⟩ | ⟨h1, h2⟩ | h
      · have h3 : p < 0 := by omega
        have h4 : ¬ 0 < p := by omega
        have h5 : ¬ -22 ≤ p := by omega
        clear nF nG
        cases ng
        all_goals
          go_enter Tryz.func211, Tryz.ntmps211
          go_wp2_with fail
          go_ret2
          exact ⟨⟨_, _, rfl⟩, rfl⟩
      · obtain ⟨x, hx, gx⟩ := HK.out (-p).toNat (by omega)
        obtain ⟨r, hr, _⟩ := div_good nF gx
        obtain ⟨r', hr', _⟩ := div_good nG gx
        have q1 : ∀ t w, (binOp .quo t (.float .f64 F) (.float .f64 x)).run Tryz.prog w = .ok (.float .f64 r) w := fun t w => run_float_arith w .quo t .f64 F x r hr
        have q2 : ∀ t w, (binOp .quo t (.float .f64 G) (.float .f64 x)).run Tryz.prog w = .ok (.float .f64 r') w := fun t w => run_float_arith w .quo t .f64 G x r' hr'
        have h4 : ¬ 0 < p := by omega
        have h5 : 0 ≤ -p := by omega
        have h6 : -p < 23 := by omega
        clear nF nG hr hr' gx
        cases ng
        all_goals
          go_enter Tryz.func211, Tryz.ntmps211
          go_wp2_with fail
          go_ret2
          exact ⟨⟨_, _, rfl⟩, rfl⟩
      · obtain ⟨x, hx, gx⟩ := HK.out p.toNat (by omega)
        obtain ⟨r, hr, _⟩ := mul_good nF gx
        obtain ⟨r', hr', _⟩ := mul_good nG gx
        have q1 : ∀ t w, (binOp .mul t (.float .f64 F) (.float .f64 x)).run Tryz.prog w = .ok (.float .f64 r) w := fun t w => run_float_arith w .mul t .f64 F x r hr
        have q2 : ∀ t w, (binOp .mul t (.float .f64 G) (.float .f64 x)).run Tryz.prog w = .ok (.float .f64 r') w := fun t w => run_float_arith w .mul t .f64 G x r' hr'
        have h5 : 0 ≤ p := by omega
        have h6 : p < 23 := by omega
        have h7 : p ≤ 37 := by omega
        have h8 : ¬ 22 < p := by omega
        clear nF nG hr hr' gx
        cases ng
        all_goals
          go_enter Tryz.func211, Tryz.ntmps211
          go_wp2_with fail
          all_goals
            go_ret2
            exact ⟨⟨_, _, rfl⟩, rfl⟩
      · obtain ⟨x, hx, gx⟩ := HK.out (p - 22).toNat (by omega)
        obtain ⟨y, hy, gy⟩ := HK.out 22 (by omega)
        have hy2 : w.cell? ⟨b.block, b.off + 22, none⟩ = some (.float .f64 y) := by simpa [Addr.add] using hy
        obtain ⟨r, hr, nr⟩ := mul_good nF gx
        obtain ⟨r', hr', nr'⟩ := mul_good nG gx
        obtain ⟨s, hs, _⟩ := mul_good nr gy
        obtain ⟨s', hs', _⟩ := mul_good nr' gy
        have q1 : ∀ t w, (binOp .mul t (.float .f64 F) (.float .f64 x)).run Tryz.prog w = .ok (.float .f64 r) w := fun t w => run_float_arith w .mul t .f64 F x r hr
        have q2 : ∀ t w, (binOp .mul t (.float .f64 G) (.float .f64 x)).run Tryz.prog w = .ok (.float .f64 r') w := fun t w => run_float_arith w .mul t .f64 G x r' hr'
        have q3 : ∀ t w, (binOp .mul t (.float .f64 r) (.float .f64 y)).run Tryz.prog w = .ok (.float .f64 s) w := fun t w => run_float_arith w .mul t .f64 r y s hs
        have q4 : ∀ t w, (binOp .mul t (.float .f64 r') (.float .f64 y)).run Tryz.prog w = .ok (.float .f64 s') w := fun t w => run_float_arith w .mul t .f64 r' y s' hs'
        have h5 : 0 ≤ p - 22 := by omega
        have h6 : p - 22 < 23 := by omega
        have h7 : 0 < p := by omega
        clear nF nG hr hr' gx gy hs hs' nr nr'
        cases ng
        all_goals
          go_enter Tryz.func211, Tryz.ntmps211
          go_wp2_with fail
          all_goals
            go_ret2
            exact ⟨⟨_, _, rfl⟩, rfl⟩
      · have h3 : ¬ p < 0 := by omega
        have h4 : 0 < p := by omega
        have h5 : ¬ p ≤ 37 := by omega
        clear nF nG
        cases ng
        all_goals
          go_enter Tryz.func211, Tryz.ntmps211
          go_wp2_with fail
          go_ret2
          exact ⟨⟨_, _, rfl⟩, rfl⟩

set_option maxRecDepth 100000 in
set_option maxHeartbeats 4000000 in
theorem exact32 (m : Nat) (p : Int) (ng : Bool) (hm : m < 18446744073709551616) (hp : -400 ≤ p) (hp' : p ≤ 400) (w : World) (ht : FTab w) :
    Calls Tryz.prog 205 #[.int .u64 m, .int .i64 p, .bool ng] w fun e w' => X32 e ∧ w = w' := by
  have m64 := ht.m64
  have hng : ∀ w b, (Op.unary .neg (.float .f64 b)).run Tryz.prog w = .ok (.float .f64 (Op.negFloat .f64 b)) w := fun _ _ => rfl
  have hng2 : ∀ w b, (Op.unary .neg (.float .f32 b)).run Tryz.prog w = .ok (.float .f32 (Op.negFloat .f32 b)) w := fun _ _ => rfl
  obtain ⟨b, cc, hk⟩ := ht.t32
  have HK := Lib.hid hk
  obtain ⟨F, hF⟩ : ∃ F, floatOfInt .f32 (m : Int) = F := ⟨_, rfl⟩
  have nF : NN .f32 F := by rw [← hF]; exact nearest_nn .f32 m
  obtain ⟨G, hG⟩ : ∃ G, Op.negFloat .f32 F = G := ⟨_, rfl⟩
  have nG : NN .f32 G := by rw [← hG]; exact neg_nn nF
  clear hk ht
  by_cases hbig : ((m : Int) / 8388608 != 0) = true
  · clear nF nG
    cases ng
    all_goals
      go_enter Tryz.func205, Tryz.ntmps205
      go_wp2_with fail
      go_ret2
      exact ⟨⟨_, _, rfl⟩, rfl⟩
  · rw [Bool.not_eq_true] at hbig
    by_cases h0 : p = 0
    · subst h0
      have h00 : ((0 : Int) == 0) = true := rfl
      clear nF nG
      cases ng
      all_goals
        go_enter Tryz.func205, Tryz.ntmps205
        go_wp2_with fail
        go_ret2
        exact ⟨⟨_, _, rfl⟩, rfl⟩
    · have h00 : (p == 0) = false := by rw [beq_eq_false_iff_ne]; exact h0
      rcases (by omega : p < -10 ∨ (-10 ≤ p ∧ p < 0) ∨ (0 < p ∧ p ≤ 10) ∨ (10 < p ∧ p ≤ 17) ∨ 17 < p) with h | ⟨h1, h2⟩ | ⟨h1, h2⟩ | ⟨h1, h2⟩ | h
      · have h3 : p < 0 := by omega
        have h4 : ¬ 0 < p := by omega
        have h5 : ¬ -10 ≤ p := by omega
        clear nF nG
        cases ng
        all_goals
          go_enter Tryz.func205, Tryz.ntmps205
          go_wp2_with fail
          go_ret2
          exact ⟨⟨_, _, rfl⟩, rfl⟩
      · obtain ⟨x, hx, gx⟩ := HK.out (-p).toNat (by omega)
        obtain ⟨r, hr, _⟩ := div_good nF gx
        obtain ⟨r', hr', _⟩ := div_good nG gx
        have q1 : ∀ t w, (binOp .quo t (.float .f32 F) (.float .f32 x)).run Tryz.prog w = .ok (.float .f32 r) w := fun t w => run_float_arith w .quo t .f32 F x r hr
        have q2 : ∀ t w, (binOp .quo t (.float .f32 G) (.float .f32 x)).run Tryz.prog w = .ok (.float .f32 r') w := fun t w => run_float_arith w .quo t .f32 G x r' hr'
        have h4 : ¬ 0 < p := by omega
        have h5 : 0 ≤ -p := by omega
        have h6 : -p < 11 := by omega
        clear nF nG hr hr' gx
        cases ng
        all_goals
          go_enter Tryz.func205, Tryz.ntmps205
          go_wp2_with fail
          go_ret2
          exact ⟨⟨_, _, rfl⟩, rfl⟩
      · obtain ⟨x, hx, gx⟩ := HK.out p.toNat (by omega)
        obtain ⟨r, hr, _⟩ := mul_good nF gx
        obtain ⟨r', hr', _⟩ := mul_good nG gx
        have q1 : ∀ t w, (binOp .mul t (.float .f32 F) (.float .f32 x)).run Tryz.prog w = .ok (.float .f32 r) w := fun t w => run_float_arith w .mul t .f32 F x r hr
        have q2 : ∀ t w, (binOp .mul t (.float .f32 G) (.float .f32 x)).run Tryz.prog w = .ok (.float .f32 r') w := fun t w => run_float_arith w .mul t .f32 G x r' hr'
        have h5 : 0 ≤ p := by omega
        have h6 : p < 11 := by omega
        have h7 : p ≤ 17 := by omega
        have h8 : ¬ 10 < p := by omega
        clear nF nG hr hr' gx
        cases ng
        all_goals
          go_enter Tryz.func205, Tryz.ntmps205
          go_wp2_with fail
          all_goals
            go_ret2
            exact ⟨⟨_, _, rfl⟩, rfl⟩
      · obtain ⟨x, hx, gx⟩ := HK.out (p - 10).toNat (by omega)
        obtain ⟨y, hy, gy⟩ := HK.out 10 (by omega)
        have hy2 : w.cell? ⟨b.block, b.off + 10, none⟩ = some (.float .f32 y) := by simpa [Addr.add] using hy
        obtain ⟨r, hr, nr⟩ := mul_good nF gx
        obtain ⟨r', hr', nr'⟩ := mul_good nG gx
        obtain ⟨s, hs, _⟩ := mul_good nr gy
        obtain ⟨s', hs', _⟩ := mul_good nr' gy
        have q1 : ∀ t w, (binOp .mul t (.float .f32 F) (.float .f32 x)).run Tryz.prog w = .ok (.float .f32 r) w := fun t w => run_float_arith w .mul t .f32 F x r hr
        have q2 : ∀ t w, (binOp .mul t (.float .f32 G) (.float .f32 x)).run Tryz.prog w = .ok (.float .f32 r') w := fun t w => run_float_arith w .mul t .f32 G x r' hr'
        have q3 : ∀ t w, (binOp .mul t (.float .f32 r) (.float .f32 y)).run Tryz.prog w = .ok (.float .f32 s) w := fun t w => run_float_arith w .mul t .f32 r y s hs
        have q4 : ∀ t w, (binOp .mul t (.float .f32 r') (.float .f32 y)).run Tryz.prog w = .ok (.float .f32 s') w := fun t w => run_float_arith w .mul t .f32 r' y s' hs'
        have h5 : 0 ≤ p - 10 := by omega
        have h6 : p - 10 < 11 := by omega
        have h7 : 0 < p := by omega
        clear nF nG hr hr' gx gy hs hs' nr nr'
        cases ng
        all_goals
          go_enter Tryz.func205, Tryz.ntmps205
          go_wp2_with fail
          all_goals
            go_ret2
            exact ⟨⟨_, _, rfl⟩, rfl⟩
      · have h3 : ¬ p < 0 := by omega
        have h4 : 0 < p := by omega
        have h5 : ¬ p ≤ 17 := by omega
        clear nF nG
        cases ng
        all_goals
          go_enter Tryz.func205, Tryz.ntmps205
          go_wp2_with fail
          go_ret2
          exact ⟨⟨_, _, rfl⟩, rfl⟩

end Go.Proofs.YtpneioocmpagmaaGreatDoor.fl

