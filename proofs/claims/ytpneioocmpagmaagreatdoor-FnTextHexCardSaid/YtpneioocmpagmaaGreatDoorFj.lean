/- strconv.atof64, atof32, ParseFloat at a decimal of few digits: some number, or none. -/
import Derived.Test.YtpneioocmpagmaaGreatDoorFg
import Derived.Test.YtpneioocmpagmaaGreatDoorFi
namespace Go.Proofs.YtpneioocmpagmaaGreatDoor.fl
open Go.RowKit
set_option linter.unusedVariables false
set_option linter.unusedSimpArgs false

/-- What readFloat reads of a text. -/
def RdF (t : ByteArray) (m : Nat) (p : Int) (ng : Bool) : Prop := ∀ w, Calls Tryz.prog 201 #[.string t] w fun e w' => e = .returned (.tuple #[.int .u64 (m : Int), .int .i64 p, .bool ng, .bool false, .bool false, .int .i64 (t.size : Int), .bool true]) ∧ w = w'

def A64 (t : ByteArray) (e : Ending) : Prop := ∃ (b : Nat) (v : Value), e = .returned (.tuple #[.float .f64 b, .int .i64 (t.size : Int), v]) ∧ (v = .nilIface ∨ v = .iface 198 (.int .i64 1))
def A32 (t : ByteArray) (e : Ending) : Prop := ∃ (b : Nat) (v : Value), e = .returned (.tuple #[.float .f32 b, .int .i64 (t.size : Int), v]) ∧ (v = .nilIface ∨ v = .iface 198 (.int .i64 1))

structure FEnv (w : World) : Prop where
  opt : w.cell? ⟨8, 0, none⟩ = some (.bool true)
  tabs : FTab w
  pows : TabP w
  lt : 17 < w.heap.size

set_option maxRecDepth 100000 in
set_option maxHeartbeats 4000000 in
theorem atof64_at (t : ByteArray) (m : Nat) (p : Int) (ng : Bool) (hrf : RdF t m p ng) (hm : m < 10000000000000000000) (hp : -1000000000000000 ≤ p) (hp' : p ≤ 1000000000000000) (hmax : t.size ≤ 140737488355328) (hn : Num1 t) (w : World) (hE : ∀ w', Below w.heap.size w w' → FEnv w') :
    Calls Tryz.prog 176 #[.string t] w fun e w' => A64 t e ∧ Below w.heap.size w w' := by
  have env := hE w (Below.refl _ _)
  have hopt := env.opt
  have HSP := Lib.hid (fun w => special_no t hmax hn w)
  unfold RdF at hrf
  have HRF := Lib.hid hrf
  have HTB := Lib.hid env.tabs
  have HPW := Lib.hid (fun w' (h : Below w.heap.size w w') => (hE w' h).pows)
  have hlt := env.lt
  have hfb := from64
  clear hrf hE hn env
  by_cases h0 : m = 0
  · have h0' : ((m : Int) == 0) = true := by rw [h0]; rfl
    clear h0
    cases ng
    all_goals
      go_enter Tryz.func176, Tryz.ntmps176
      go_wp2_with (first | ((with_reducible refine (HSP.out _).mono ?_); rintro e w' ⟨rfl, rfl⟩) | ((with_reducible refine (HRF.out _).mono ?_); rintro e w' ⟨rfl, rfl⟩) | ((with_reducible refine (bool2_any _ _).mono ?_); rintro e w' ⟨rfl, rfl⟩))
      go_ret3
      exact ⟨⟨_, _, rfl, .inl rfl⟩, Below.refl _ _⟩
  · have h0' : ((m : Int) == 0) = false := by rw [beq_eq_false_iff_ne]; omega
    have hm1 : 1 ≤ m := by omega
    rcases (by omega : 310 < p ∨ p < -345 ∨ (-345 ≤ p ∧ p ≤ 310)) with hb | hb | ⟨hb1, hb2⟩
    · cases ng
      all_goals
        go_enter Tryz.func176, Tryz.ntmps176
        go_wp2_with (first | ((with_reducible refine (HSP.out _).mono ?_); rintro e w' ⟨rfl, rfl⟩) | ((with_reducible refine (HRF.out _).mono ?_); rintro e w' ⟨rfl, rfl⟩) | ((with_reducible refine (bool2_any _ _).mono ?_); rintro e w' ⟨rfl, rfl⟩))
        go_ret3
        exact ⟨⟨_, _, rfl, .inr rfl⟩, Below.refl _ _⟩
    · have hb' : ¬ 310 < p := by omega
      cases ng
      all_goals
        go_enter Tryz.func176, Tryz.ntmps176
        go_wp2_with (first | ((with_reducible refine (HSP.out _).mono ?_); rintro e w' ⟨rfl, rfl⟩) | ((with_reducible refine (HRF.out _).mono ?_); rintro e w' ⟨rfl, rfl⟩) | ((with_reducible refine (bool2_any _ _).mono ?_); rintro e w' ⟨rfl, rfl⟩))
        go_ret3
        exact ⟨⟨_, _, rfl, .inl rfl⟩, Below.refl _ _⟩
    · have hc1 : ¬ p < -345 := by omega
      have hc2 : ¬ 310 < p := by omega
      have HX : Hid (∀ b, Calls Tryz.prog 211 #[.int .u64 m, .int .i64 p, .bool b] w fun e w' => X64 e ∧ w = w') := Lib.hid (fun b => exact64 m p b (by omega) (by omega) (by omega) w HTB.out)
      have HP : Hid (∀ s : Int, 0 ≤ s → s < 18446744073709551616 → Calls Tryz.prog 212 #[.int .u64 m, .int .i64 p, .int .u64 s] w fun e w' => R64 e ∧ Below w.heap.size w w') := Lib.hid (fun s h1 h2 => parse64 m p s hm1 (by omega) hb1 hb2 h1 h2 w HPW.out hlt)
      cases ng
      all_goals
        go_enter Tryz.func176, Tryz.ntmps176
        go_wp2_with (first | ((with_reducible refine (HSP.out _).mono ?_); rintro e w' ⟨rfl, rfl⟩) | ((with_reducible refine (HRF.out _).mono ?_); rintro e w' ⟨rfl, rfl⟩) | ((with_reducible refine (bool2_any _ _).mono ?_); rintro e w' ⟨rfl, rfl⟩))
        refine (HX.out _).mono ?_
        rintro e w' ⟨⟨fb, ok, rfl⟩, rfl⟩
        cases ok with
        | true =>
          go_wp2_with fail
          go_ret3
          exact ⟨⟨_, _, rfl, .inl rfl⟩, Below.refl _ _⟩
        | false =>
          go_wp2_with fail
          refine (HP.out _ (by decide) (by decide)).mono ?_
          rintro e w' ⟨⟨fb2, v, rfl, hv⟩, hbw⟩
          go_wp2_with fail
          go_ret3
          exact ⟨⟨_, _, rfl, hv⟩, hbw⟩

set_option maxRecDepth 100000 in
set_option maxHeartbeats 4000000 in
theorem atof32_at (t : ByteArray) (m : Nat) (p : Int) (ng : Bool) (hrf : RdF t m p ng) (hm : m < 10000000000000000000) (hp : -1000000000000000 ≤ p) (hp' : p ≤ 1000000000000000) (hmax : t.size ≤ 140737488355328) (hn : Num1 t) (w : World) (hE : ∀ w', Below w.heap.size w w' → FEnv w') :
    Calls Tryz.prog 175 #[.string t] w fun e w' => A32 t e ∧ Below w.heap.size w w' := by
  have env := hE w (Below.refl _ _)
  have hopt := env.opt
  have HSP := Lib.hid (fun w => special_no t hmax hn w)
  unfold RdF at hrf
  have HRF := Lib.hid hrf
  have HTB := Lib.hid env.tabs
  have HPW := Lib.hid (fun w' (h : Below w.heap.size w w') => (hE w' h).pows)
  have hlt := env.lt
  have hfb := from32
  clear hrf hE hn env
  by_cases h0 : m = 0
  · have h0' : ((m : Int) == 0) = true := by rw [h0]; rfl
    clear h0
    cases ng
    all_goals
      go_enter Tryz.func175, Tryz.ntmps175
      go_wp2_with (first | ((with_reducible refine (HSP.out _).mono ?_); rintro e w' ⟨rfl, rfl⟩) | ((with_reducible refine (HRF.out _).mono ?_); rintro e w' ⟨rfl, rfl⟩) | ((with_reducible refine (bool2w _ _).mono ?_); rintro e w' ⟨rfl, rfl⟩))
      go_ret3
      exact ⟨⟨_, _, rfl, .inl rfl⟩, Below.refl _ _⟩
  · have h0' : ((m : Int) == 0) = false := by rw [beq_eq_false_iff_ne]; omega
    have hm1 : 1 ≤ m := by omega
    rcases (by omega : 40 < p ∨ p < -70 ∨ (-70 ≤ p ∧ p ≤ 40)) with hb | hb | ⟨hb1, hb2⟩
    · cases ng
      all_goals
        go_enter Tryz.func175, Tryz.ntmps175
        go_wp2_with (first | ((with_reducible refine (HSP.out _).mono ?_); rintro e w' ⟨rfl, rfl⟩) | ((with_reducible refine (HRF.out _).mono ?_); rintro e w' ⟨rfl, rfl⟩) | ((with_reducible refine (bool2w _ _).mono ?_); rintro e w' ⟨rfl, rfl⟩))
        go_ret3
        exact ⟨⟨_, _, rfl, .inr rfl⟩, Below.refl _ _⟩
    · have hb' : ¬ 40 < p := by omega
      cases ng
      all_goals
        go_enter Tryz.func175, Tryz.ntmps175
        go_wp2_with (first | ((with_reducible refine (HSP.out _).mono ?_); rintro e w' ⟨rfl, rfl⟩) | ((with_reducible refine (HRF.out _).mono ?_); rintro e w' ⟨rfl, rfl⟩) | ((with_reducible refine (bool2w _ _).mono ?_); rintro e w' ⟨rfl, rfl⟩))
        go_ret3
        exact ⟨⟨_, _, rfl, .inl rfl⟩, Below.refl _ _⟩
    · have hc1 : ¬ p < -70 := by omega
      have hc2 : ¬ 40 < p := by omega
      have HX : Hid (∀ b, Calls Tryz.prog 205 #[.int .u64 m, .int .i64 p, .bool b] w fun e w' => X32 e ∧ w = w') := Lib.hid (fun b => exact32 m p b (by omega) (by omega) (by omega) w HTB.out)
      have HP : Hid (∀ s : Int, 0 ≤ s → s < 4294967296 → Calls Tryz.prog 206 #[.int .u64 m, .int .i64 p, .int .u32 s] w fun e w' => R32 e ∧ Below w.heap.size w w') := Lib.hid (fun s h1 h2 => parse32 m p s hm1 (by omega) hb1 hb2 h1 h2 w HPW.out hlt)
      cases ng
      all_goals
        go_enter Tryz.func175, Tryz.ntmps175
        go_wp2_with (first | ((with_reducible refine (HSP.out _).mono ?_); rintro e w' ⟨rfl, rfl⟩) | ((with_reducible refine (HRF.out _).mono ?_); rintro e w' ⟨rfl, rfl⟩) | ((with_reducible refine (bool2w _ _).mono ?_); rintro e w' ⟨rfl, rfl⟩))
        refine (HX.out _).mono ?_
        rintro e w' ⟨⟨fb, ok, rfl⟩, rfl⟩
        cases ok with
        | true =>
          go_wp2_with fail
          go_ret3
          exact ⟨⟨_, _, rfl, .inl rfl⟩, Below.refl _ _⟩
        | false =>
          go_wp2_with fail
          refine (HP.out _ (by decide) (by decide)).mono ?_
          rintro e w' ⟨⟨fb2, v, rfl, hv⟩, hbw⟩
          go_wp2_with fail
          go_ret3
          exact ⟨⟨_, _, rfl, hv⟩, hbw⟩

end Go.Proofs.YtpneioocmpagmaaGreatDoor.fl

