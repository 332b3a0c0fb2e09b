/- strconv.atof64 at a whole number of more than 19 digits: some number, without an error. -/
import Derived.Test.YtpneioocmpagmaaGreatDoorTf
import Derived.Test.YtpneioocmpagmaaGreatDoorVg
import Derived.Test.YtpneioocmpagmaaGreatDoorVh
namespace Go.Proofs.YtpneioocmpagmaaGreatDoor.dc
open Go.RowKit
open Go.Proofs.YtpneioocmpagmaaGreatDoor.fl
open Go.Proofs.YtpneioocmpagmaaGreatDoor.tx (Keeps blk_cell blk_frozen blk_set)
set_option linter.unusedVariables false
set_option linter.unusedSimpArgs false

/-- What readFloat reads of a long text. -/
def RdT (t : ByteArray) (m : Nat) (p : Int) : Prop := ∀ w, Calls Tryz.prog 201 #[.string t] w fun e w' => e = .returned (.tuple #[.int .u64 (m : Int), .int .i64 p, .bool false, .bool true, .bool false, .int .i64 (t.size : Int), .bool true]) ∧ w = w'

/-- A text that is read as a whole number of more than 19 digits, `a` noughts ahead of them. -/
structure Slow (t : ByteArray) (m : Nat) (p : Int) (a : Nat) : Prop where
  rdt : RdT t m p
  hm : m < 10000000000000000000
  hp : -345 ≤ p
  hp' : p ≤ 100
  hn : Num1 t
  ha : a < t.size
  hs : t.size ≤ 25
  hz : ∀ (j : Nat) (h : j < t.size), j < a → (t[j]).toNat = 48
  hd : ∀ (j : Nat) (h : j < t.size), 48 ≤ (t[j]).toNat ∧ (t[j]).toNat ≤ 57
  h0 : (t[a]).toNat ≠ 48

structure SEnv (w : World) : Prop where
  few : FEnv w
  pe : PEnv w
  inf : Info w 11 52 11 (-1023)

theorem zero_cells : Tryz.zeroCells246 = (List.replicate 800 (Value.int .u8 0) ++ [Value.int .i64 0, Value.int .i64 0, Value.bool false, Value.bool false]).toArray := by kernel_rfl

theorem row_of (Z : List Value) (hZ : Z = List.replicate 800 (Value.int .u8 0)) (cs : Array Value) (hcs : cs = (Z ++ [Value.int .i64 0, Value.int .i64 0, Value.bool false, Value.bool false]).toArray) : Row cs [] 0 0 := by
  have hl : Z.length = 800 := by rw [hZ, List.length_replicate]
  have hg : ∀ j, j < 800 → Z[j]? = some (Value.int .u8 0) := fun j hj => by rw [hZ, List.getElem?_replicate, if_pos hj]
  clear hZ
  subst hcs
  have hr : ∀ k, 800 ≤ k → (Z ++ [Value.int .i64 0, Value.int .i64 0, Value.bool false, Value.bool false]).toArray[k]? = [Value.int .i64 0, Value.int .i64 0, Value.bool false, Value.bool false][k - 800]? := fun k hk => by
    rw [List.getElem?_toArray, List.getElem?_append_right (by omega), hl]
  refine ⟨by rw [List.size_toArray, List.length_append, hl]; rfl, fun j hj => ⟨0, by decide, ?_⟩, fun j hj => absurd hj (Nat.not_lt_zero _), ?_, ?_, ⟨false, ?_⟩, ⟨false, ?_⟩, by decide, fun d hd => by cases hd⟩
  · rw [List.getElem?_toArray, List.getElem?_append_left (by omega)]; exact hg j hj
  · rw [hr 800 (by decide)]; rfl
  · rw [hr 801 (by decide)]; rfl
  · rw [hr 802 (by decide)]; rfl
  · rw [hr 803 (by decide)]; rfl

theorem zero_row : Row Tryz.zeroCells246 [] 0 0 := row_of _ rfl _ zero_cells

set_option maxRecDepth 100000 in
set_option maxHeartbeats 4000000 in
theorem atof64_slow (t : ByteArray) (m : Nat) (p : Int) (a : Nat) (hf : Slow t m p a) (w : World) (hE : ∀ w', Below w.heap.size w w' → SEnv w') :
    Calls Tryz.prog 176 #[.string t] w fun e w' => A64n t e ∧ Below w.heap.size w w' := by
  have env := hE w (Below.refl _ _)
  have hopt := env.few.opt
  have hmax : t.size ≤ 140737488355328 := by have := hf.hs; omega
  have HSP := Lib.hid (fun w => special_no t hmax hf.hn w)
  have hrd := hf.rdt
  unfold RdT at hrd
  have HRF := Lib.hid hrd
  clear hrd
  have HPW := Lib.hid (fun w' (h : Below w.heap.size w w') => (hE w' h).few.pows)
  have HEV := Lib.hid (fun w' (h : Below w.heap.size w w') => hE w' h)
  have hlt := env.few.lt
  have hfb := from64
  have hm := hf.hm
  have hc1 : ¬ p < -345 := by have := hf.hp; omega
  have hc2 : ¬ 310 < p := by have := hf.hp'; omega
  have w1 : IntKind.u64.wrap ((m : Int) + 1) = ((m + 1 : Nat) : Int) := by rw [IntKind.wrap_u64]; omega
  have hp1 := hf.hp
  have hp2 := hf.hp'
  have HP : Hid (∀ (d : Nat) (W : World), 1 ≤ d → d < 18446744073709551616 → Below w.heap.size w W → Calls Tryz.prog 212 #[.int .u64 (d : Int), .int .i64 p, .int .u64 0] W fun e w' => R64e p e ∧ Below W.heap.size W w') := Lib.hid (fun d W h1 h2 hW => parse64e d p 0 h1 h2 (by omega) (by omega) (by decide) (by decide) W (fun w' h => HPW.out w' (hW.trans (h.mono hW.size))) (Nat.lt_of_lt_of_le hlt hW.size))
  have HF := Lib.hid hf
  clear hE env hp1 hp2 hf
  by_cases h0 : m = 0
  · have h0' : ((m : Int) == 0) = true := by rw [h0]; rfl
    clear h0 w1 hc1 hc2
    go_enter Tryz.func176, Tryz.ntmps176
    go_wp2_with (first | ((with_reducible refine (HSP.out _).mono ?_); rintro e w' ⟨rfl, rfl⟩) | ((with_reducible refine (HRF.out _).mono ?_); rintro e w' ⟨rfl, rfl⟩) | ((with_reducible refine (bool2_any _ _).mono ?_); rintro e w' ⟨rfl, rfl⟩))
    go_ret3
    exact ⟨⟨_, rfl⟩, Below.refl _ _⟩
  · have h0' : ((m : Int) == 0) = false := by rw [beq_eq_false_iff_ne]; omega
    have hm1 : 1 ≤ m := by omega
    clear h0
    go_enter Tryz.func176, Tryz.ntmps176
    go_wp2_with (first | ((with_reducible refine (HSP.out _).mono ?_); rintro e w' ⟨rfl, rfl⟩) | ((with_reducible refine (HRF.out _).mono ?_); rintro e w' ⟨rfl, rfl⟩) | ((with_reducible refine (bool2_any _ _).mono ?_); rintro e w' ⟨rfl, rfl⟩))
    refine (HP.out m w hm1 (by omega) (Below.refl _ _)).mono ?_
    rintro e w2 ⟨⟨b1, v, rfl, hv⟩, hb2⟩
    obtain rfl : v = .nilIface := by
      rcases hv with hv | ⟨hv, _⟩
      · exact hv
      · have := HF.out.hp'; omega
    have HB2 := Lib.hid hb2
    clear hb2 hv
    go_wp2_with fail
    refine (HP.out (m + 1) w2 (by omega) (by omega) HB2.out).mono ?_
    rintro e w3 ⟨⟨b2, v, rfl, hv⟩, hb3⟩
    obtain rfl : v = .nilIface := by
      rcases hv with hv | ⟨hv, _⟩
      · exact hv
      · have := HF.out.hp'; omega
    have HB3 := Lib.hid (HB2.out.trans (hb3.mono HB2.out.size))
    clear hb3 hv
    go_wp2_with fail
    · go_ret3
      exact ⟨⟨_, rfl⟩, HB3.out⟩
    · obtain ⟨W, hW⟩ : ∃ W, W = w3.alloc (Obj.cells Tryz.zeroCells246 246) := ⟨_, rfl⟩
      rw [← hW]
      obtain ⟨F, hF⟩ : ∃ F, F = w3.heap.size := ⟨_, rfl⟩
      rw [← hF]
      have hd0 : DAt W F [] 0 0 := ⟨_, by rw [hW, hF]; exact Array.getElem?_push_size, zero_row⟩
      have HBW : Hid (Below w.heap.size w W ∧ w.heap.size ≤ F ∧ F < W.heap.size) := Lib.hid (by
        have h := HB3.out
        refine ⟨by rw [hW]; exact h.alloc h.size _, by rw [hF]; exact h.size, by rw [hW, hF]; show _ < (w3.heap.push _).size; rw [Array.size_push]; exact Nat.lt_succ_self _⟩)
      have HSD := Lib.hid (set_digits F t a HF.out.ha (by have := HF.out.hs; omega) HF.out.hz HF.out.hd HF.out.h0 W hd0)
      clear hW hF hd0
      refine HSD.out.mono ?_
      rintro e w4 ⟨D, rfl, hl, hh, hd4, hk4⟩
      have HFB := Lib.hid (float_bits F 11 D (t.size - a) (by have := HF.out.ha; omega) (by have := HF.out.hs; omega) (by have := HF.out.hs; omega) hh 52 11 (-1023) w4 hd4 (fun w' h => by
        have h2 := HEV.out w' (HBW.out.1.trans ((hk4.trans h).below HBW.out.2.1 HBW.out.1.size))
        exact ⟨h2.pe, h2.inf⟩))
      have HK4 := Lib.hid hk4
      clear hl hh hd4 hk4
      go_wp2_with fail
      refine HFB.out.mono ?_
      rintro e w5 ⟨⟨b, rfl⟩, hk5⟩
      have HB5 := Lib.hid (HBW.out.1.trans ((HK4.out.trans hk5).below HBW.out.2.1 HBW.out.1.size))
      clear hk5
      go_wp2_with fail
      go_ret3
      exact ⟨⟨_, rfl⟩, HB5.out⟩

set_option maxHeartbeats 1000000 in
theorem inner_slow (t : ByteArray) (m : Nat) (p : Int) (a : Nat) (hf : Slow t m p a) (w : World) (hE : ∀ w', Below w.heap.size w w' → SEnv w') :
    Calls Tryz.prog 122 #[.string t, .int .i64 64] w fun e w' => PFn e ∧ Below w.heap.size w w' := by
  have hts : ((t.size : Int) != (t.size : Int)) = false := by simp
  have H := Lib.hid (atof64_slow t m p a hf w hE)
  clear hf hE
  go_enter Tryz.func122, Tryz.ntmps122
  go_wp2_with (first | (go_at_call 153; go_in) | fail)
  refine H.out.mono ?_
  rintro e w' ⟨⟨b, rfl⟩, hb⟩
  go_wp2_with fail
  go_ret2
  exact ⟨⟨_, rfl⟩, hb⟩

set_option maxHeartbeats 1000000 in
theorem parse_float_slow (t : ByteArray) (m : Nat) (p : Int) (a : Nat) (hf : Slow t m p a) (w : World) (hE : ∀ w', Below w.heap.size w w' → SEnv w') :
    Calls Tryz.prog 89 #[.string t, .int .i64 64] w fun e w' => PFn e ∧ Below w.heap.size w w' := by
  have H := Lib.hid (inner_slow t m p a hf w hE)
  clear hf hE
  go_enter Tryz.func89, Tryz.ntmps89
  go_wp2_with fail
  refine H.out.mono ?_
  rintro e w' ⟨⟨b, rfl⟩, hb⟩
  go_wp2_with fail
  go_ret2
  exact ⟨⟨_, rfl⟩, hb⟩

end Go.Proofs.YtpneioocmpagmaaGreatDoor.dc

