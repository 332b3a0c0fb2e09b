/- strconv.ParseFloat at a decimal of few digits: some number, or none. -/
import Derived.Test.YtpneioocmpagmaaGreatDoorFj
import Derived.Test.YtpneioocmpagmaaGreatDoorPp
namespace Go.Proofs.YtpneioocmpagmaaGreatDoor.fl
open Go.RowKit
open Go.Proofs.YtpneioocmpagmaaGreatDoor.pu
set_option linter.unusedVariables false
set_option linter.unusedSimpArgs false

theorem conv_any (w : World) (b : Nat) : ∃ r n, (convert 98 93 (.float .f32 b)).run Tryz.prog w = .ok (.float .f64 r) (w.drewN n) := by
  have h1 := Tryz.underlying98
  have h2 := Tryz.underlying93
  cases hd : FloatKind.f32.decode b with
  | nan s t =>
    by_cases hf : (Question.nanConv FloatKind.f64 b).forced = true
    · exact ⟨_, 0, by simp [convert, run_underlying h1, run_underlying h2, Conv.floatToFloat, hd, hf]; exact ⟨rfl, rfl⟩⟩
    · exact ⟨_, 1, by simp [convert, run_underlying h1, run_underlying h2, Conv.floatToFloat, hd, hf]; exact ⟨rfl, rfl⟩⟩
  | infinity s => exact ⟨_, 0, by simp [convert, run_underlying h1, run_underlying h2, Conv.floatToFloat, hd]; exact ⟨rfl, rfl⟩⟩
  | number s m e =>
    by_cases hi : (FloatKind.f64.decode (FloatKind.f64.encode (.number s m e))).isInfinity = true
    · by_cases hf : (Question.floatToFloat b).forced = true
      · exact ⟨_, 0, by simp [convert, run_underlying h1, run_underlying h2, Conv.floatToFloat, hd, hi, hf]; exact ⟨rfl, rfl⟩⟩
      · exact ⟨_, 1, by simp [convert, run_underlying h1, run_underlying h2, Conv.floatToFloat, hd, hi, hf]; exact ⟨rfl, rfl⟩⟩
    · exact ⟨_, 0, by simp [convert, run_underlying h1, run_underlying h2, Conv.floatToFloat, hd, hi]; exact ⟨rfl, rfl⟩⟩

def PF (e : Ending) : Prop := ∃ (b : Nat) (v : Value), e = .returned (.tuple #[.float .f64 b, v]) ∧ (v = .nilIface ∨ v = .iface 198 (.int .i64 1))

/-- A text that is read as a decimal of few digits. -/
structure Few (t : ByteArray) (m : Nat) (p : Int) (ng : Bool) : Prop where
  rdf : RdF t m p ng
  hm : m < 10000000000000000000
  hp : -1000000000000000 ≤ p
  hp' : p ≤ 1000000000000000
  hmax : t.size ≤ 140737488355328
  hn : Num1 t

set_option maxHeartbeats 1000000 in
theorem inner_parse (t : ByteArray) (m : Nat) (p : Int) (ng : Bool) (hf : Few t m p ng) (sz : Int) (hs : sz = 32 ∨ sz = 64) (w : World) (hE : ∀ w', Below w.heap.size w w' → FEnv w') :
    Calls Tryz.prog 122 #[.string t, .int .i64 sz] w fun e w' => PF e ∧ Below w.heap.size w w' := by
  have hts : ((t.size : Int) != (t.size : Int)) = false := by simp
  rcases hs with rfl | rfl
  · have H := Lib.hid (atof32_at t m p ng hf.rdf hf.hm hf.hp hf.hp' hf.hmax hf.hn w hE)
    clear hf hE
    go_enter Tryz.func122, Tryz.ntmps122
    go_wp2_with (first | (go_at_call 153; go_in) | fail)
    refine H.out.mono ?_
    rintro e w' ⟨⟨b, v, rfl, hv⟩, hb⟩
    obtain ⟨r, n, hc⟩ := conv_any w' b
    go_wp2_with fail
    go_ret2
    exact ⟨⟨_, _, rfl, hv⟩, below_drewN hb _⟩
  · have H := Lib.hid (atof64_at t m p ng hf.rdf hf.hm hf.hp hf.hp' hf.hmax hf.hn w hE)
    clear hf hE
    go_enter Tryz.func122, Tryz.ntmps122
    go_wp2_with (first | (go_at_call 153; go_in) | fail)
    refine H.out.mono ?_
    rintro e w' ⟨⟨b, v, rfl, hv⟩, hb⟩
    go_wp2_with fail
    go_ret2
    exact ⟨⟨_, _, rfl, hv⟩, hb⟩

/-- How strconv.ParseFloat ends. -/
def PFp (e : Ending) : Prop := ∃ (b : Nat) (v : Value), e = .returned (.tuple #[.float .f64 b, v]) ∧ (v = .nilIface ∨ NumErr v)

set_option maxHeartbeats 1000000 in
theorem parse_float (t : ByteArray) (m : Nat) (p : Int) (ng : Bool) (hf : Few t m p ng) (sz : Int) (hs : sz = 32 ∨ sz = 64) (w : World) (hE : ∀ w', Below w.heap.size w w' → FEnv w') (he : Errs w) :
    Calls Tryz.prog 89 #[.string t, .int .i64 sz] w fun e w' => PFp e ∧ Below w.heap.size w w' := by
  have H := Lib.hid (inner_parse t m p ng hf sz hs w hE)
  have HT := Lib.hid (fun w' (h : Below w.heap.size w w') => toError_any ⟨#[80, 97, 114, 115, 101, 70, 108, 111, 97, 116]⟩ t 0 sz 1 (.inl rfl) w' hf.hmax (he.below h))
  clear hf hE he
  go_enter Tryz.func89, Tryz.ntmps89
  go_wp2_with fail
  refine H.out.mono ?_
  rintro e w' ⟨⟨b, v, rfl, hv⟩, hb⟩
  rcases hv with rfl | rfl
  · go_wp2_with fail
    go_ret2
    exact ⟨⟨_, _, rfl, .inl rfl⟩, hb⟩
  · have HB := Lib.hid hb
    clear hb
    go_wp2_with ((with_reducible refine (HT.out _ HB.out).mono ?_); rintro e w2 ⟨⟨v2, rfl, hv2⟩, hb2⟩)
    go_ret2
    exact ⟨⟨_, _, rfl, .inr hv2⟩, HB.out.trans (hb2.mono HB.out.size)⟩

end Go.Proofs.YtpneioocmpagmaaGreatDoor.fl

