/- internal/strconv.ParseInt at any base and size: its contract. -/
import Derived.Test.YtpneioocmpagmaaGreatDoorPu
import Derived.Lib.IfaceNeq
import Derived.Lib.IfaceEq
namespace Go.Proofs.YtpneioocmpagmaaGreatDoor.pu
open Go.RowKit Go.Proofs.YtpneioocmpagmaaGreatDoor.num
set_option linter.unusedVariables false
set_option linter.unusedSimpArgs false

def tupI (n : Int) (v : Value) : Value := .tuple #[.int .i64 n, v]

/-- It ends with an error: no numeral, or out of range. -/
def FailsI (e : Ending) : Prop := ∃ n k : Int, e = .returned (tupI n (.iface 198 (.int .i64 k))) ∧ (k = 1 ∨ k = 2)

def EndsI (r : Option (Int × Bool)) (e : Ending) : Prop :=
  match r with
  | some (n, us) => e = .returned (tupI n .nilIface) ∨ (us = true ∧ FailsI e)
  | none => FailsI e

/-- What the sign's switch leaves. -/
def SgnIn (t : ByteArray) (v0 v8 : Value) : Prop := ∃ t' : ByteArray, v0 = .string t' ∧ v8 = .bool (sgn t.data.toList).1 ∧ t'.data.toList = (sgn t.data.toList).2 ∧ t'.size ≤ 140737488355328

theorem sgn_plus {t : ByteArray} (hmax : t.size ≤ 140737488355328) (h : (((t.data.toList.getD 0 0).toNat : Int) == 43) = true) : SgnIn t (.string (t.extract 1 t.size)) (.bool false) := by
  have h' : (t.data.toList.getD 0 0).toNat = 43 := by have := beq_iff_eq.1 h; omega
  refine ⟨_, rfl, ?_, ?_, by rw [ext_size]; omega⟩
  · unfold sgn; rw [if_pos h']
  · unfold sgn; rw [if_pos h', ext_list]

theorem sgn_minus {t : ByteArray} (hmax : t.size ≤ 140737488355328) (h : (((t.data.toList.getD 0 0).toNat : Int) == 45) = true) : SgnIn t (.string (t.extract 1 t.size)) (.bool true) := by
  have h' : (t.data.toList.getD 0 0).toNat = 45 := by have := beq_iff_eq.1 h; omega
  refine ⟨_, rfl, ?_, ?_, by rw [ext_size]; omega⟩
  · unfold sgn; rw [if_neg (by omega), if_pos h']
  · unfold sgn; rw [if_neg (by omega), if_pos h', ext_list]

theorem sgn_none {t : ByteArray} (hmax : t.size ≤ 140737488355328) (h : (((t.data.toList.getD 0 0).toNat : Int) == 43) = false) (h2 : (((t.data.toList.getD 0 0).toNat : Int) == 45) = false) : SgnIn t (.string t) (.bool false) := by
  have h' : ¬ (t.data.toList.getD 0 0).toNat = 43 := by have := beq_eq_false_iff_ne.1 h; omega
  have h2' : ¬ (t.data.toList.getD 0 0).toNat = 45 := by have := beq_eq_false_iff_ne.1 h2; omega
  refine ⟨_, rfl, ?_, ?_, hmax⟩
  · unfold sgn; rw [if_neg h', if_neg h2']
  · unfold sgn; rw [if_neg h', if_neg h2']

theorem pi_eq {b mx half : Nat} {l : List UInt8} {ng : Bool} {n : Nat} {us : Bool} (hl : ¬ l = []) (hg : ng = (sgn l).1) (hr : pu b mx (sgn l).2 = .ok n us) :
    pi b mx half l = if ng = true then (if n ≤ half then some (-(n : Int), us) else none) else if n < half then some ((n : Int), us) else none := by
  unfold pi
  rw [if_neg hl, hr, hg]

theorem pi_bad {b mx half : Nat} {l : List UInt8} (hl : ¬ l = []) (hr : pu b mx (sgn l).2 = .syn ∨ pu b mx (sgn l).2 = .rng) : pi b mx half l = none := by
  unfold pi
  rw [if_neg hl]
  rcases hr with hr | hr <;> rw [hr]

theorem fails_any {n k : Int} (hk : k = 1 ∨ k = 2) : FailsI (.returned (tupI n (.iface 198 (.int .i64 k)))) := ⟨n, k, rfl, hk⟩

theorem ends_us {b mx half : Nat} {l : List UInt8} {ng : Bool} {n : Nat} {us : Bool} {e : Ending} (hl : ¬ l = []) (hg : ng = (sgn l).1) (hr : pu b mx (sgn l).2 = .ok n us) (hus : us = true) (he : FailsI e) : EndsI (pi b mx half l) e := by
  rw [pi_eq hl hg hr]
  by_cases h1 : ng = true
  · rw [if_pos h1]
    by_cases h2 : n ≤ half
    · rw [if_pos h2]; exact .inr ⟨hus, he⟩
    · rw [if_neg h2]; exact he
  · rw [if_neg h1]
    by_cases h2 : n < half
    · rw [if_pos h2]; exact .inr ⟨hus, he⟩
    · rw [if_neg h2]; exact he

theorem wrap_neg {n : Nat} (h : n ≤ 9223372036854775808) : wrap64 (-wrap64 (n : Int)) = -(n : Int) := by
  unfold wrap64
  omega
theorem wrap_pos {n : Nat} (h : n < 9223372036854775808) : wrap64 (n : Int) = (n : Int) := by
  unfold wrap64
  omega

set_option maxHeartbeats 4000000 in
set_option maxRecDepth 100000 in
theorem pi_half (t : ByteArray) (b bits mx half : Nat) (HM : Hid (mx = 2 ^ bits - 1)) (HH : Hid (half = 2 ^ (bits - 1))) (hb : b = 0 ∨ (2 ≤ b ∧ b ≤ 36)) (h1 : 2 ≤ bits) (h64 : bits ≤ 64) (hmax : t.size ≤ 140737488355328) (w : World) :
    Calls Tryz.prog 113 #[.string t, .int .i64 b, .int .i64 bits] w fun e w' => EndsI (pi b mx half t.data.toList) e ∧ Below w.heap.size w w' := by
  by_cases hne : t.size = 0
  · have hs : t = ⟨#[]⟩ := by
      apply ByteArray.ext
      exact Array.eq_empty_of_size_eq_zero hne
    subst hs
    go_enter Tryz.func113, Tryz.ntmps113
    go_wp2
    go_ret2
    exact ⟨⟨0, 2, rfl, .inr rfl⟩, Below.refl _ _⟩
  · have hemp : t.toList.isEmpty = false := by
      rw [← decide_eq_emptyBytes]
      exact decide_eq_false (fun h => hne (by rw [h]; rfl))
    have hn0 : 0 < t.size := by omega
    have G0 := Lib.hid (getD_get t 0 hn0)
    have hhv : IntKind.u64.wrap (2 ^ (bits - 1)) = (half : Int) ∧ half ≤ 9223372036854775808 ∧ mx = 2 * half - 1 ∧ 2 ≤ half := by
      have hh := HH.out
      have hm := HM.out
      have hp2 : 2 ^ (bits - 1) ≤ 2 ^ 63 := Nat.pow_le_pow_right (by decide) (by omega)
      have hp1 : 2 ^ 1 ≤ 2 ^ (bits - 1) := Nat.pow_le_pow_right (by decide) (by omega)
      have e2 : 2 ^ bits = 2 * 2 ^ (bits - 1) := by
        have : bits = bits - 1 + 1 := by omega
        rw [this, Nat.pow_succ]; simp; omega
      have e : ((2 : Int) ^ (bits - 1)) = ((2 ^ (bits - 1) : Nat) : Int) := by simp
      refine ⟨?_, by omega, by omega, by omega⟩
      rw [e, IntKind.wrap_u64]
      omega
    have HHV := Lib.hid hhv
    clear hhv
    go_enter Tryz.func113, Tryz.ntmps113
    go_upto_block 0 with fail
    go_cut [0, 8] (fun v0 v8 wx => SgnIn t v0 v8 ∧ w = wx)
    case first =>
      go_wp2_with (first | go_meet | fail)
      all_goals
        have g0 := G0.out
        simp only [← g0] at *
      all_goals first
        | exact sgn_plus hmax ‹_›
        | exact sgn_minus hmax ‹_›
        | exact sgn_none hmax ‹_› ‹_›
    case rest =>
      obtain ⟨⟨t', rfl, rfl, HT, ht'⟩, rfl⟩ := hcut
      have HT := Lib.hid HT
      obtain ⟨ng, hng⟩ : ∃ ng, ng = (sgn t.data.toList).1 := ⟨_, rfl⟩
      rw [← hng]
      have HNG := Lib.hid hng
      clear hng
      have hnil : ¬ t.data.toList = [] := fun h => hne (by have := congrArg List.length h; simpa using this)
      have HNIL := Lib.hid hnil
      clear hnil
      obtain ⟨hhv, hh1, hh2, hh3⟩ := HHV.out
      have HMX := Lib.hid hh2
      clear hh2
      have hlt : (half : Int) < mx := by have := HMX.out; omega
      have HH1 := Lib.hid hh1
      clear hh1 hh3
      have hx := fun W => Lib.run_neq_iface_int (P := Tryz.prog) W 1 1 (t := 58) (tx := 198) (k := .i64) Tryz.underlying58 (by kernel_rfl) Tryz.underlying198
      have hy := fun W => Lib.run_neq_iface_int (P := Tryz.prog) W 2 1 (t := 58) (tx := 198) (k := .i64) Tryz.underlying58 (by kernel_rfl) Tryz.underlying198
      go_wp2_with fail
      refine (pu_mx t' b bits mx HM hb (by omega) h64 ht' _).mono ?_
      rintro e w1 ⟨he, hb1⟩
      rw [HT.out] at he
      cases hr : pu b mx (sgn t.data.toList).2 with
      | syn =>
        have HR := Lib.hid hr
        rw [hr] at he
        simp only [Ends, tup] at he
        subst he
        clear hr
        go_wp2
        go_ret2
        refine ⟨?_, hb1⟩
        rw [pi_bad HNIL.out (.inl HR.out)]
        exact fails_any (.inr rfl)
      | rng =>
        have HR := Lib.hid hr
        rw [hr] at he
        simp only [Ends, tup] at he
        subst he
        clear hr
        go_wp2
        all_goals
          go_ret2
          refine ⟨?_, hb1⟩
          rw [pi_bad HNIL.out (.inr HR.out)]
          exact fails_any (.inl rfl)
      | ok n us =>
        have hn := pu_le hr
        have HR := Lib.hid hr
        have HN := Lib.hid hn
        rw [hr] at he
        simp only [Ends, tup] at he
        clear hr hn
        rcases he with rfl | ⟨hus, rfl⟩
        · cases ng with
          | true =>
            by_cases hc : n ≤ half
            · have hc' : (n : Int) ≤ half := by omega
              go_wp2
              go_ret2
              refine ⟨?_, hb1⟩
              have hh1 := HH1.out
              rw [pi_eq HNIL.out HNG.out HR.out, if_pos rfl, if_pos hc]
              exact .inl (congrArg (fun z => Ending.returned (tupI z .nilIface)) (wrap_neg (by omega)))
            · have hc' : (half : Int) < n := by omega
              go_wp2
              go_ret2
              refine ⟨?_, hb1⟩
              rw [pi_eq HNIL.out HNG.out HR.out, if_pos rfl, if_neg hc]
              exact fails_any (.inl rfl)
          | false =>
            by_cases hc : n < half
            · have hc' : (n : Int) < half := by omega
              go_wp2
              go_ret2
              refine ⟨?_, hb1⟩
              have hh1 := HH1.out
              rw [pi_eq HNIL.out HNG.out HR.out, if_neg (by decide), if_pos hc]
              exact .inl (congrArg (fun z => Ending.returned (tupI z .nilIface)) (wrap_pos (by omega)))
            · have hc' : (half : Int) ≤ n := by omega
              go_wp2
              go_ret2
              refine ⟨?_, hb1⟩
              rw [pi_eq HNIL.out HNG.out HR.out, if_neg (by decide), if_neg hc]
              exact fails_any (.inl rfl)
        · have HUS := Lib.hid hus
          clear hus
          go_wp2
          go_ret2
          exact ⟨ends_us HNIL.out HNG.out HR.out HUS.out (fails_any (.inr rfl)), hb1⟩

theorem pi_any (t : ByteArray) (b bits : Nat) (hb : b = 0 ∨ (2 ≤ b ∧ b ≤ 36)) (h1 : 2 ≤ bits) (h64 : bits ≤ 64) (hmax : t.size ≤ 140737488355328) (w : World) :
    Calls Tryz.prog 113 #[.string t, .int .i64 b, .int .i64 bits] w fun e w' => EndsI (pi b (2 ^ bits - 1) (2 ^ (bits - 1)) t.data.toList) e ∧ Below w.heap.size w w' :=
  pi_half t b bits _ _ (Lib.hid rfl) (Lib.hid rfl) hb h1 h64 hmax w

end Go.Proofs.YtpneioocmpagmaaGreatDoor.pu

