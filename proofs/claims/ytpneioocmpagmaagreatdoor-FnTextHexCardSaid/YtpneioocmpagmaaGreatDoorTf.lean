/- strconv.ParseFloat at a decimal of few digits and a small power: a number, without an error. -/
import Derived.Test.YtpneioocmpagmaaGreatDoorFk
namespace Go.Proofs.YtpneioocmpagmaaGreatDoor.fl
open Go.RowKit
open Go.Proofs.YtpneioocmpagmaaGreatDoor.pu
set_option linter.unusedVariables false
set_option linter.unusedSimpArgs false

def SomeFe (x : Int) (w : World) (e : Ending) (w' : World) : Prop := (∃ (b : Nat) (v : Value), e = .returned (.tuple #[.float .f64 b, v]) ∧ (v = .nilIface ∨ (972 ≤ x ∧ v = .iface 198 (.int .i64 1)))) ∧ w = w'

set_option maxHeartbeats 1000000 in
set_option maxRecDepth 100000 in
theorem pack64_e (m e : Int) (h0 : 0 ≤ m) (h1 : m < 18446744073709551616) (e0 : -100000 ≤ e) (e1 : e ≤ 100000) (w : World) :
    Calls Tryz.prog 237 #[.int .u64 m, .int .i64 e] w fun r w' => SomeFe e w r w' := by
  have hfb := from64
  go_enter Tryz.func237, Tryz.ntmps237
  go_wp2_with fail
  all_goals
    go_ret2
    exact ⟨⟨_, _, rfl, by first | exact .inl rfl | exact .inr ⟨by omega, rfl⟩⟩, rfl⟩

def R64e (p : Int) (e : Ending) : Prop := ∃ (b : Nat) (v : Value), e = .returned (.tuple #[.float .f64 b, v]) ∧ (v = .nilIface ∨ (100 < p ∧ v = .iface 198 (.int .i64 1)))

set_option maxRecDepth 100000 in
set_option maxHeartbeats 1000000 in
theorem parse64e (d : Nat) (p sign : Int) (hd : 1 ≤ d) (hd' : d < 18446744073709551616) (hp : -345 ≤ p) (hp' : p ≤ 310) (hs : 0 ≤ sign) (hs' : sign < 18446744073709551616) (w : World) (ht : ∀ w', Below w.heap.size w w' → TabP w') (hw : 17 < w.heap.size) :
    Calls Tryz.prog 212 #[.int .u64 d, .int .i64 p, .int .u64 sign] w fun e w' => R64e p e ∧ Below w.heap.size w w' := by
  obtain ⟨b, hb⟩ : ∃ b, b = Lib.bitLen d := ⟨_, rfl⟩
  obtain ⟨b1, b2, b3, b4⟩ := len_bounds d hd hd'
  have HLN : Hid (∀ w, Calls Tryz.prog 157 #[.int .u64 d] w fun e w' => e = .returned (.int .i64 (b : Int)) ∧ w = w') := Lib.hid (fun w => by
    have := Tryz.bits_Len64 d w (by omega) (by omega)
    rw [Int.toNat_natCast, ← hb] at this
    exact this.mono fun e w' h => ⟨h.1, h.2.symm⟩)
  rw [← hb] at b1 b2 b3 b4
  obtain ⟨j1, j2⟩ := just d b b1 b2 b3 b4
  clear hb b3 b4
  obtain ⟨i, hi⟩ : ∃ i : Nat, p = (i : Int) - 348 := ⟨(p + 348).toNat, by omega⟩
  subst hi
  have hi1 : i < 696 := by omega
  have hfb := from64
  go_enter Tryz.func212, Tryz.ntmps212
  go_wp2_with fail
  refine (HLN.out _).mono ?_
  rintro e w' ⟨rfl, rfl⟩
  go_wp2_with fail
  refine (log2_any _ (by omega) (by omega) _).mono ?_
  rintro e w1 ⟨rfl, rfl⟩
  obtain ⟨lp, hlp⟩ : ∃ lp, lp = l2 ((i : Int) - 348) := ⟨_, rfl⟩
  have hl1 : -2000 ≤ lp ∧ lp ≤ 2000 := by rw [hlp]; unfold l2; omega
  have HLQ : Hid ((i : Int) - 348 ≤ 100 → lp ≤ 400) := Lib.hid (fun h => by rw [hlp]; unfold l2; omega)
  rw [← hlp]
  obtain ⟨hl1, hl2⟩ := hl1
  clear hlp
  obtain ⟨M, hM⟩ : ∃ M, M = min 1074 (53 - (b : Int) - lp) := ⟨_, rfl⟩
  have hM1 : M ≤ 1074 := by omega
  have hM2 : M ≤ 53 - (b : Int) - lp := by omega
  have hM3 : -3000 ≤ M := by omega
  have hM' : min 1074 (53 - (b : Int) - lp) = M := hM.symm
  have HMQ : Hid (M = min 1074 (53 - (b : Int) - lp)) := Lib.hid hM
  clear hM
  go_wp2_with fail
  have hne : ¬ w.heap.size = 17 := by omega
  refine (prescale_at w.heap.size _ lp i hi1 (by omega) (by omega) _ _ _ _ hne (by simp; rfl) (by simp; rfl) (by simp; rfl) (by simp) (ht _ (by go_grown))).mono ?_
  rintro e w1 ⟨rfl, rfl⟩
  obtain ⟨s, hs⟩ : ∃ s : Nat, -(M - (64 - (b : Int)) + lp + 3) = (s : Int) := ⟨(-(M - (64 - (b : Int)) + lp + 3)).toNat, by omega⟩
  rw [hs]
  go_wp2_with fail
  · go_ret2
    exact ⟨⟨_, _, rfl, .inl rfl⟩, by go_grown⟩
  · have hs64 : s < 64 := by omega
    have hx : IntKind.u64.wrap ((d : Int) * 2 ^ (64 - b)) = ((d * 2 ^ (64 - b) : Nat) : Int) := by
      have e : (d : Int) * 2 ^ (64 - b) = ((d * 2 ^ (64 - b) : Nat) : Int) := by push_cast; rfl
      rw [e, IntKind.wrap_u64]
      obtain ⟨y, hy⟩ : ∃ y, y = d * 2 ^ (64 - b) := ⟨_, rfl⟩
      rw [← hy] at j1 j2 ⊢
      omega
    rw [hx]
    obtain ⟨x, hxx⟩ : ∃ x, x = d * 2 ^ (64 - b) := ⟨_, rfl⟩
    rw [← hxx] at j1 j2 ⊢
    obtain ⟨t1, t2, t3⟩ := t_all i hi1
    clear hxx hx
    refine (uscale_at w.heap.size x (tHi i) (tLo i) s s (by omega) j2 t1 t2 t3 (and63 s hs64) hs64 _ (by simp) (by simp) (by simp)).mono ?_
    rintro e w2 ⟨rfl, n, rfl⟩
    have hu := usc_lt (x := x) (lo := tLo i) (t := s) j2 t2
    obtain ⟨u, hu'⟩ : ∃ u, u = usc x (tHi i) (tLo i) s := ⟨_, rfl⟩
    rw [← hu'] at hu ⊢
    clear hu' t1 t2 t3 j1 j2
    go_wp2_with (first | (go_at_call 221; go_in) | ((with_reducible refine (bool2i _ _).mono ?_); rintro e w' ⟨rfl, rfl⟩))
    all_goals
      refine (round_any _ (or_range _ _).1 (or_range _ _).2 _).mono ?_
      rintro e w3 ⟨⟨r, rfl, r0, r1⟩, rfl⟩
      go_wp2_with fail
      refine (pack64_e _ _ (or_range _ _).1 (or_range _ _).2 (by omega) (by omega) _).mono ?_
      rintro e w4 ⟨⟨fb, v, rfl, hv⟩, rfl⟩
      go_wp2_with fail
      go_ret2
      refine ⟨⟨_, _, rfl, ?_⟩, below_drewN (by go_grown) _⟩
      rcases hv with hv | ⟨he, hv⟩
      · exact .inl hv
      · refine .inr ⟨?_, hv⟩
        have h1 := HLQ.out
        have h2 := HMQ.out
        omega

def A64n (t : ByteArray) (e : Ending) : Prop := ∃ (b : Nat), e = .returned (.tuple #[.float .f64 b, .int .i64 (t.size : Int), .nilIface])

set_option maxRecDepth 100000 in
set_option maxHeartbeats 4000000 in
theorem atof64_nil (t : ByteArray) (m : Nat) (p : Int) (ng : Bool) (hrf : RdF t m p ng) (hm : m < 10000000000000000000) (hp : -1000000000000000 ≤ p) (hp' : p ≤ 100) (hmax : t.size ≤ 140737488355328) (hn : Num1 t) (w : World) (hE : ∀ w', Below w.heap.size w w' → FEnv w') :
    Calls Tryz.prog 176 #[.string t] w fun e w' => A64n t e ∧ Below w.heap.size w w' := by
  have env := hE w (Below.refl _ _)
  have hopt := env.opt
  have HSP := Lib.hid (fun w => special_no t hmax hn w)
  unfold RdF at hrf
  have HRF := Lib.hid hrf
  have HTB := Lib.hid env.tabs
  have HPW := Lib.hid (fun w' (h : Below w.heap.size w w') => (hE w' h).pows)
  have hlt := env.lt
  have hfb := from64
  clear hrf hE hn env
  by_cases h0 : m = 0
  · have h0' : ((m : Int) == 0) = true := by rw [h0]; rfl
    clear h0
    cases ng
    all_goals
      go_enter Tryz.func176, Tryz.ntmps176
      go_wp2_with (first | ((with_reducible refine (HSP.out _).mono ?_); rintro e w' ⟨rfl, rfl⟩) | ((with_reducible refine (HRF.out _).mono ?_); rintro e w' ⟨rfl, rfl⟩) | ((with_reducible refine (bool2_any _ _).mono ?_); rintro e w' ⟨rfl, rfl⟩))
      go_ret3
      exact ⟨⟨_, rfl⟩, Below.refl _ _⟩
  · have h0' : ((m : Int) == 0) = false := by rw [beq_eq_false_iff_ne]; omega
    have hm1 : 1 ≤ m := by omega
    rcases (by omega : 310 < p ∨ p < -345 ∨ (-345 ≤ p ∧ p ≤ 310)) with hb | hb | ⟨hb1, hb2⟩
    · omega
    · have hb' : ¬ 310 < p := by omega
      cases ng
      all_goals
        go_enter Tryz.func176, Tryz.ntmps176
        go_wp2_with (first | ((with_reducible refine (HSP.out _).mono ?_); rintro e w' ⟨rfl, rfl⟩) | ((with_reducible refine (HRF.out _).mono ?_); rintro e w' ⟨rfl, rfl⟩) | ((with_reducible refine (bool2_any _ _).mono ?_); rintro e w' ⟨rfl, rfl⟩))
        go_ret3
        exact ⟨⟨_, rfl⟩, Below.refl _ _⟩
    · have hc1 : ¬ p < -345 := by omega
      have hc2 : ¬ 310 < p := by omega
      have HX : Hid (∀ b, Calls Tryz.prog 211 #[.int .u64 m, .int .i64 p, .bool b] w fun e w' => X64 e ∧ w = w') := Lib.hid (fun b => exact64 m p b (by omega) (by omega) (by omega) w HTB.out)
      have HP : Hid (∀ s : Int, 0 ≤ s → s < 18446744073709551616 → Calls Tryz.prog 212 #[.int .u64 m, .int .i64 p, .int .u64 s] w fun e w' => R64e p e ∧ Below w.heap.size w w') := Lib.hid (fun s h1 h2 => parse64e m p s hm1 (by omega) hb1 hb2 h1 h2 w HPW.out hlt)
      cases ng
      all_goals
        go_enter Tryz.func176, Tryz.ntmps176
        go_wp2_with (first | ((with_reducible refine (HSP.out _).mono ?_); rintro e w' ⟨rfl, rfl⟩) | ((with_reducible refine (HRF.out _).mono ?_); rintro e w' ⟨rfl, rfl⟩) | ((with_reducible refine (bool2_any _ _).mono ?_); rintro e w' ⟨rfl, rfl⟩))
        refine (HX.out _).mono ?_
        rintro e w' ⟨⟨fb, ok, rfl⟩, rfl⟩
        cases ok with
        | true =>
          go_wp2_with fail
          go_ret3
          exact ⟨⟨_, rfl⟩, Below.refl _ _⟩
        | false =>
          go_wp2_with fail
          refine (HP.out _ (by decide) (by decide)).mono ?_
          rintro e w' ⟨⟨fb2, v, rfl, hv⟩, hbw⟩
          obtain rfl : v = .nilIface := by
            rcases hv with hv | ⟨hv, _⟩
            · exact hv
            · omega
          go_wp2_with fail
          go_ret3
          exact ⟨⟨_, rfl⟩, hbw⟩

/-- strconv.ParseFloat ends without an error. -/
def PFn (e : Ending) : Prop := ∃ b : Nat, e = .returned (.tuple #[.float .f64 b, .nilIface])

set_option maxHeartbeats 1000000 in
theorem inner_nil (t : ByteArray) (m : Nat) (p : Int) (ng : Bool) (hf : Few t m p ng) (hp : p ≤ 100) (w : World) (hE : ∀ w', Below w.heap.size w w' → FEnv w') :
    Calls Tryz.prog 122 #[.string t, .int .i64 64] w fun e w' => PFn e ∧ Below w.heap.size w w' := by
  have hts : ((t.size : Int) != (t.size : Int)) = false := by simp
  have H := Lib.hid (atof64_nil t m p ng hf.rdf hf.hm hf.hp hp hf.hmax hf.hn w hE)
  clear hf hE
  go_enter Tryz.func122, Tryz.ntmps122
  go_wp2_with (first | (go_at_call 153; go_in) | fail)
  refine H.out.mono ?_
  rintro e w' ⟨⟨b, rfl⟩, hb⟩
  go_wp2_with fail
  go_ret2
  exact ⟨⟨_, rfl⟩, hb⟩

set_option maxHeartbeats 1000000 in
theorem parse_float_nil (t : ByteArray) (m : Nat) (p : Int) (ng : Bool) (hf : Few t m p ng) (hp : p ≤ 100) (w : World) (hE : ∀ w', Below w.heap.size w w' → FEnv w') :
    Calls Tryz.prog 89 #[.string t, .int .i64 64] w fun e w' => PFn e ∧ Below w.heap.size w w' := by
  have H := Lib.hid (inner_nil t m p ng hf hp w hE)
  clear hf hE
  go_enter Tryz.func89, Tryz.ntmps89
  go_wp2_with fail
  refine H.out.mono ?_
  rintro e w' ⟨⟨b, rfl⟩, hb⟩
  go_wp2_with fail
  go_ret2
  exact ⟨⟨_, rfl⟩, hb⟩

end Go.Proofs.YtpneioocmpagmaaGreatDoor.fl

