/- strconv.special at a number, pack64, round, unmin. -/
import Derived.Test.YtpneioocmpagmaaGreatDoorFc
import Derived.Test.YtpneioocmpagmaaGreatDoorPu0
import Derived.LoopTactic
import Derived.Outline
import Derived.Laws.Externs
namespace Go.Proofs.YtpneioocmpagmaaGreatDoor.fl
open Go.RowKit
open Go.Proofs.YtpneioocmpagmaaGreatDoor.pu Go.Proofs.YtpneioocmpagmaaGreatDoor.num
set_option linter.unusedVariables false
set_option linter.unusedSimpArgs false

set_option maxHeartbeats 1000000 in
theorem common_no (t : ByteArray) (h : 0 < t.size) (hmax : t.size ≤ 140737488355328) (h0 : 48 ≤ (t[0]).toNat) (h1 : (t[0]).toNat ≤ 57) (w : World) :
    Calls Tryz.prog 232 #[.string t, .string ⟨#[105, 110, 102, 105, 110, 105, 116, 121]⟩] w fun e w' => e = .returned (.int .i64 0) ∧ w = w' := by
  have pe : ¬ t = ByteArray.empty := by rintro rfl; exact absurd h (by decide)
  have p0 : (0 : Int) < (t.size : Int) := by omega
  have hc : (t[0]).toNat = 48 ∨ (t[0]).toNat = 49 ∨ (t[0]).toNat = 50 ∨ (t[0]).toNat = 51 ∨ (t[0]).toNat = 52 ∨ (t[0]).toNat = 53 ∨ (t[0]).toNat = 54 ∨ (t[0]).toNat = 55 ∨ (t[0]).toNat = 56 ∨ (t[0]).toNat = 57 := by omega
  have k1 : ¬ (65 : Int) ≤ ((t[0]).toNat : Int) := by omega
  have k2 : (((t[0]).toNat : Int) != 105) = true := by rw [bne_iff_ne]; omega
  have k3 : (0 : Int) < min 8 (t.size : Int) := by omega
  have kk : ((⟨#[105, 110, 102, 105, 110, 105, 116, 121]⟩ : ByteArray)[0]'(by decide)).toNat = 105 := rfl
  clear hc h0 h1
  go_enter Tryz.func232, Tryz.ntmps232
  go_wp2_with fail
  refine wp_loop_rounds 1 ?_
  rw [rounds_succ]
  go_wp2_with fail
  go_ret
  exact ⟨rfl, rfl⟩

/-- A text that begins as a number does. -/
def Num1 (t : ByteArray) : Prop := ∃ i, i ≤ 1 ∧ i < t.size ∧ (i = 1 → t.data.toList.getD 0 0 = 45) ∧ 48 ≤ (t.data.toList.getD i 0).toNat ∧ (t.data.toList.getD i 0).toNat ≤ 57

theorem at_get (t : ByteArray) (i : Nat) (h : i < t.size) : t[i] = t.data.toList.getD i 0 := by
  rw [List.getD_eq_getElem?_getD, Array.getElem?_toList]
  show t.data[i] = _
  rw [Array.getElem?_eq_getElem (show i < t.data.size from h)]; rfl

theorem ext_get (t : ByteArray) (h : 1 < t.size) (h' : 0 < (t.extract 1 t.size).size) : (t.extract 1 t.size)[0] = t[1] := by
  rw [at_get, at_get]
  have : (t.extract 1 t.size).data.toList = t.data.toList.drop 1 := by
    simp [ByteArray.data_extract]
    refine List.take_of_length_le ?_
    rw [List.length_tail, Array.length_toList]
    exact Nat.le_refl _
  rw [this]
  simp [List.getD_eq_getElem?_getD]

set_option maxHeartbeats 2000000 in
theorem special_no (t : ByteArray) (hmax : t.size ≤ 140737488355328) (hn : Num1 t) (w : World) :
    Calls Tryz.prog 200 #[.string t] w fun e w' => e = .returned (.tuple #[.float .f64 0, .int .i64 0, .bool false]) ∧ w = w' := by
  obtain ⟨i, hi, his, h45, h0, h1⟩ := hn
  have p0 : 0 < t.size := by omega
  have pe : ¬ t = ByteArray.empty := by rintro rfl; exact absurd p0 (by decide)
  have pz : ((t.size : Int) == 0) = false := by rw [beq_eq_false_iff_ne]; omega
  rcases (by omega : i = 0 ∨ i = 1) with rfl | rfl
  · rw [← at_get t 0 his] at h0 h1
    have e1 : (((t[0]).toNat : Int) == 43) = false := by rw [beq_eq_false_iff_ne]; omega
    have e2 : (((t[0]).toNat : Int) == 45) = false := by rw [beq_eq_false_iff_ne]; omega
    have e3 : (((t[0]).toNat : Int) == 105) = false := by rw [beq_eq_false_iff_ne]; omega
    have e4 : (((t[0]).toNat : Int) == 73) = false := by rw [beq_eq_false_iff_ne]; omega
    have e5 : (((t[0]).toNat : Int) == 110) = false := by rw [beq_eq_false_iff_ne]; omega
    have e6 : (((t[0]).toNat : Int) == 78) = false := by rw [beq_eq_false_iff_ne]; omega
    clear h45 h0 h1 hi
    go_enter Tryz.func200, Tryz.ntmps200
    go_wp2_with fail
    go_ret3
    exact ⟨rfl, rfl⟩
  · have h2 : (t[0]).toNat = 45 := by rw [at_get t 0 p0, h45 rfl]; rfl
    rw [← at_get t 1 his] at h0 h1
    have hs : (t.extract 1 t.size).size = t.size - 1 := by simp
    have hp : 0 < (t.extract 1 t.size).size := by omega
    rw [← ext_get t his hp] at h0 h1
    have HC := Lib.hid (fun w => common_no (t.extract 1 t.size) hp (by omega) h0 h1 w)
    have e1 : (((t[0]).toNat : Int) == 43) = false := by rw [h2]; rfl
    have e2 : (((t[0]).toNat : Int) == 45) = true := by rw [h2]; rfl
    have s1 : (1 : Int) ≤ (t.size : Int) := by omega
    clear h45 h0 h1 hi hs hp h2
    go_enter Tryz.func200, Tryz.ntmps200
    go_wp2_with ((with_reducible refine (HC.out _).mono ?_); rintro e w' ⟨rfl, rfl⟩)
    go_ret3
    exact ⟨rfl, rfl⟩

theorem from64 (n : Int) (w : World) : (callFunc 210 #[.int .u64 n]).run Tryz.prog w = .ok (.value (.float .f64 n.toNat)) w := by
  rw [run_callFunc_extern (e := Extern.MathFloatBits.float64frombits) Tryz.func210 (by kernel_rfl) (by kernel_rfl) (by kernel_rfl) (by kernel_rfl)]
  rfl
theorem from32 (n : Int) (w : World) : (callFunc 204 #[.int .u32 n]).run Tryz.prog w = .ok (.value (.float .f32 n.toNat)) w := by
  rw [run_callFunc_extern (e := Extern.MathFloatBits.float32frombits) Tryz.func204 (by kernel_rfl) (by kernel_rfl) (by kernel_rfl) (by kernel_rfl)]
  rfl

def SomeF64 (w : World) (e : Ending) (w' : World) : Prop := (∃ (b : Nat) (v : Value), e = .returned (.tuple #[.float .f64 b, v]) ∧ (v = .nilIface ∨ v = .iface 198 (.int .i64 1))) ∧ w = w'

set_option maxHeartbeats 1000000 in
set_option maxRecDepth 100000 in
theorem pack64_any (m e : Int) (h0 : 0 ≤ m) (h1 : m < 18446744073709551616) (e0 : -100000 ≤ e) (e1 : e ≤ 100000) (w : World) :
    Calls Tryz.prog 237 #[.int .u64 m, .int .i64 e] w fun r w' => SomeF64 w r w' := by
  have hfb := from64
  go_enter Tryz.func237, Tryz.ntmps237
  go_wp2_with fail
  all_goals
    go_ret2
    exact ⟨⟨_, _, rfl, by first | exact .inl rfl | exact .inr rfl⟩, rfl⟩

def SomeF32 (w : World) (e : Ending) (w' : World) : Prop := (∃ (b : Nat) (v : Value), e = .returned (.tuple #[.float .f32 b, v]) ∧ (v = .nilIface ∨ v = .iface 198 (.int .i64 1))) ∧ w = w'

set_option maxRecDepth 100000 in
set_option maxHeartbeats 1000000 in
theorem pack32_any (m e : Int) (h0 : 0 ≤ m) (h1 : m < 4294967296) (e0 : -100000 ≤ e) (e1 : e ≤ 100000) (w : World) :
    Calls Tryz.prog 235 #[.int .u32 m, .int .i64 e] w fun r w' => SomeF32 w r w' := by
  have hfb := from32
  go_enter Tryz.func235, Tryz.ntmps235
  go_wp2_with fail
  all_goals
    go_ret2
    exact ⟨⟨_, _, rfl, by first | exact .inl rfl | exact .inr rfl⟩, rfl⟩

theorem bool2i (b : Bool) (w : World) : Calls Tryz.prog 158 #[.bool b] w fun e w' => e = .returned (.int .i64 (if b then 1 else 0)) ∧ w = w' := by
  cases b
  all_goals
    go_enter Tryz.func158, Tryz.ntmps158
    go_wp2
    go_ret
    exact ⟨rfl, rfl⟩

theorem bool2w (b : Bool) (w : World) : Calls Tryz.prog 203 #[.bool b] w fun e w' => e = .returned (.int .u32 (if b then 1 else 0)) ∧ w = w' := by
  cases b
  all_goals
    go_enter Tryz.func203, Tryz.ntmps203
    go_wp2
    go_ret
    exact ⟨rfl, rfl⟩

set_option maxRecDepth 100000 in
theorem round_any (u : Int) (h0 : 0 ≤ u) (h1 : u < 18446744073709551616) (w : World) :
    Calls Tryz.prog 220 #[.int .u64 u] w fun e w' => (∃ r : Int, e = .returned (.int .u64 r) ∧ 0 ≤ r ∧ r < 18446744073709551616) ∧ w = w' := by
  go_enter Tryz.func220, Tryz.ntmps220
  go_wp2_with fail
  go_ret
  refine ⟨⟨_, rfl, ?_, ?_⟩, rfl⟩
  all_goals
    rw [IntKind.wrap_u64]
    omega

end Go.Proofs.YtpneioocmpagmaaGreatDoor.fl

