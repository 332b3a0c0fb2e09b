/- laws.FnTextHex. -/
import Derived.Test.YtpneioocmpagmaaGreatDoorHg
import Derived.Test.YtpneioocmpagmaaGreatDoorTg
import Derived.Test.YtpneioocmpagmaaGreatDoorTz
namespace Go.Proofs.YtpneioocmpagmaaGreatDoor.hx
open Go.RowKit Go.Proofs.YtpneioocmpagmaaGreatDoor.pu Go.Proofs.YtpneioocmpagmaaGreatDoor.num Go.Proofs.YtpneioocmpagmaaGreatDoor.fl Go.Proofs.YtpneioocmpagmaaGreatDoor.jn Go.Proofs.YtpneioocmpagmaaGreatDoor.tx
set_option linter.unusedVariables false
set_option linter.unusedSimpArgs false

def setS (up : Bool) : ByteArray := if up = true then ⟨#[48, 49, 50, 51, 52, 53, 54, 55, 56, 57, 65, 66, 67, 68, 69, 70]⟩ else ⟨#[48, 49, 50, 51, 52, 53, 54, 55, 56, 57, 97, 98, 99, 100, 101, 102]⟩

theorem set_at : ∀ (up : Bool) (d : Nat), d < 16 → (setS up).extract d (d + 1) = ⟨#[hb up d]⟩ := by decide +kernel

/-- Where the loop stands. -/
def Mid (b J : Nat) (up : Bool) (u : Nat) (v10 v9 : Value) : Prop := ∃ (j n : Nat) (l : List UInt8), n < b ^ j ∧ bd b up j n ++ l = bd b up J u ∧ n ≤ u ∧ v10 = .int .u64 (n : Int) ∧ v9 = .string ⟨l.toArray⟩

theorem mid_next {b j : Nat} {up : Bool} {n : Nat} {l : List UInt8} (hb0 : 0 < b) (hn : n ≠ 0) (h : n < b ^ j) : ∃ k, n / b < b ^ k ∧ bd b up k (n / b) ++ (hb up (n % b) :: l) = bd b up j n ++ l := by
  cases j with
  | zero => simp at h; omega
  | succ k =>
    refine ⟨k, div_lt hb0 h, ?_⟩
    rw [show bd b up (k + 1) n = bd b up k (n / b) ++ [hb up (n % b)] from by rw [bd, if_neg hn]]
    simp

set_option maxHeartbeats 16000000 in
set_option maxRecDepth 100000 in
theorem law_walk (u : Nat) (oct up : Bool) (h1 : u ≤ 18446744073709551615) (w : World) (he : ErrsB w) (hE : ∀ w', Below w.heap.size w w' → dc.SEnv w') :
    Calls Tryz.prog 5 #[.int .u64 (u : Int), .bool oct, .bool up] w fun e w' => e = .returned (.bool true) ∧ Below w.heap.size w w' := by
  obtain ⟨na, HR, HV⟩ := based_all oct up u h1
  have HRR := Lib.hid HR
  have HVV := Lib.hid (fun (W : World) (hW : Below w.heap.size w W) => HV W (he.below hW) (fun w' h => hE w' (hW.trans (h.mono hW.size))))
  clear HR HV he hE
  obtain ⟨S, hS⟩ : ∃ S, S = setS up := ⟨_, rfl⟩
  have HSA : Hid (∀ d, d < 16 → S.extract d (d + 1) = ⟨#[hb up d]⟩) := Lib.hid (fun d h => by rw [hS]; exact set_at up d h)
  have HS16 : S.size = 16 := by rw [hS]; cases up <;> rfl
  obtain ⟨b, hbase⟩ : ∃ b : Nat, b = if oct = true then 8 else 16 := ⟨_, rfl⟩
  obtain ⟨J, hJ⟩ : ∃ J : Nat, J = if oct = true then 22 else 16 := ⟨_, rfl⟩
  have hb2 : 8 ≤ b ∧ b ≤ 16 := by rw [hbase]; split <;> omega
  have hst : Mid b J up u (.int .u64 (u : Int)) (.string ⟨#[]⟩) := by
    refine ⟨J, u, [], ?_, by simp, Nat.le_refl _, rfl, rfl⟩
    rw [hbase, hJ]
    split
    · exact Nat.lt_of_le_of_lt h1 (by decide)
    · exact Nat.lt_of_le_of_lt h1 (by decide)
  have HST := Lib.hid hst
  have HSS := Lib.hid hS
  have HBB := Lib.hid hbase
  have HJJ := Lib.hid hJ
  clear hst hS hbase hJ
  go_enter Tryz.func5, Tryz.ntmps5
  go_upto_if 14 with (fail)
  go_cut [7] (fun v7 wx => v7 = .string S ∧ w = wx)
  case first => as_aux_lemma =>
    cases up
    all_goals
      go_wp2_with (first | go_meet | fail)
      all_goals (first | (rw [hS]; rfl) | (rw [HSS.out]; rfl))
  case rest => as_aux_lemma =>
   obtain ⟨rfl, rfl⟩ := hcut
   go_upto_if 15 with (fail)
   go_cut [8] (fun v8 wx => v8 = .int .u64 (b : Int) ∧ w = wx)
   case first => as_aux_lemma =>
    cases oct
    all_goals
      go_wp2_with (first | go_meet | fail)
      all_goals (rw [HBB.out]; rfl)
   case rest => as_aux_lemma =>
    obtain ⟨rfl, rfl⟩ := hcut
    go_wp2_with fail
    go_loopw [10, 9] (fun v10 v9 wr => Mid b J up u v10 v9 ∧ Below w.heap.size w wr) (fun v10 _ _ => (intOf v10).toNat)
    case atStart => exact ⟨HST.out, Below.refl _ _⟩
    case round => as_aux_lemma =>
      obtain ⟨⟨j, n, l, hn, hl, hnu, rfl, rfl⟩, hbw⟩ := hrel
      have hlen : l.length ≤ 22 := by
        have h1 := congrArg List.length hl
        have h2 := bd_len b up J u
        have h3 : J ≤ 22 := by rw [HJJ.out]; split <;> omega
        rw [List.length_append] at h1
        omega
      obtain ⟨D, hD⟩ : ∃ D : ByteArray, D = ⟨l.toArray⟩ := ⟨_, rfl⟩
      rw [← hD]
      have hDs : D.size ≤ 22 := by rw [hD]; show l.toArray.size ≤ 22; rw [List.size_toArray]; exact hlen
      have HX := Lib.hid (And.intro hn (And.intro hl (And.intro hbw hD)))
      clear hn hl hbw hD hlen
      by_cases h0 : n = 0
      · subst h0
        have HL : Hid (D = ⟨(bd b up J u).toArray⟩) := Lib.hid (by
          have := HX.out.2.1
          rw [bd_zero, List.nil_append] at this
          rw [HX.out.2.2.2, this])
        have HBW := Lib.hid HX.out.2.2.1
        clear HX
        have z0 : ¬ (0 : Int) < ((0 : Nat) : Int) := by omega
        go_upto_if 33 with (fail)
        go_cut [9] (fun v9 wx => v9 = .string ⟨(htext oct up u).toArray⟩ ∧ Below w.heap.size w wx)
        case first => as_aux_lemma =>
          cases oct with
          | true =>
            have e : (⟨#[48]⟩ ++ D : ByteArray) = ⟨(htext true up u).toArray⟩ := by
              rw [HL.out, HJJ.out, HBB.out]; rfl
            go_wp2_with (first | go_meet | fail)
            all_goals first | exact HBW.out | exact ⟨by rw [e], HBW.out⟩
          | false =>
            by_cases hu0 : u = 0
            · have e0 : D = ByteArray.empty := by
                rw [HL.out, HJJ.out, HBB.out, hu0, bd_zero]; rfl
              have e : (⟨#[48, 120, 48]⟩ : ByteArray) = ⟨(htext false up u).toArray⟩ := by
                rw [hu0]; rfl
              have e1 : D.toList.isEmpty = true := by rw [e0, Lib.toList_data]; rfl
              clear e0 hu0
              go_wp2_with (first | go_meet | fail)
              all_goals first | exact HBW.out | exact ⟨by rw [e], HBW.out⟩
            · have e1 : D.toList.isEmpty = false := by
                rw [Lib.toList_data, HL.out, HJJ.out, HBB.out]
                have h3 := bd_ne 16 up 15 u hu0
                show (bd 16 up 16 u).toArray.toList.isEmpty = false
                rw [List.toList_toArray]
                cases hq : bd 16 up 16 u with
                | nil => exact absurd hq h3
                | cons a l => rfl
              have e : (⟨#[48, 120]⟩ ++ D : ByteArray) = ⟨(htext false up u).toArray⟩ := by
                rw [HL.out, HJJ.out, HBB.out]
                unfold htext
                rw [if_neg (by decide), if_neg hu0]
                rfl
              clear hu0
              go_wp2_with (first | go_meet | fail)
              all_goals first | exact HBW.out | exact ⟨by rw [e], HBW.out⟩
        case rest => as_aux_lemma =>
          obtain ⟨rfl, hbw⟩ := hcut
          clear HBW HL
          have HBW := Lib.hid hbw
          clear hbw
          obtain ⟨cap, C, fr, hcv, hrow⟩ := conv_bytes (htext oct up u) wc
          have HROW := Lib.hid hrow
          clear hrow
          go_wp2_with fail
          have hb0 : Below w.heap.size w ((wc.alloc (.cells C 5 fr)).drew) := by have hb := HBW.out; have hz := hb.size; go_grown
          refine (text_scalar (htext oct up u) (by have := htext_len oct up u; intro h; rw [h] at this; simp at this) (by have := htext_len oct up u; omega) ⟨wc.heap.size, 0, none⟩ cap na ⟨(htext oct up u).toArray⟩ HRR.out (fun _ _ => True) (QRn (-9223372036854775808) 9223372036854775807 u) (fun _ _ => True) (QIn u) (fun _ _ => True) (fun _ => True) (fun _ => True) (fun _ _ => True) (fun _ _ => True) _ (fun j u hj => HROW.out j u hj) (fun t k1 k2 k3 k4 k5 W hW => HVV.out W (hb0.trans (hW.mono hb0.size)) t k1 k2 k3 k4 k5)).mono ?_
          rintro e w3 ⟨⟨v, rs, rfl, x0, y0, x1, y1, x2, y2, x3, y3, x4, y4, x5, y5, x6, y6, x7, y7, x8, y8, hv, q0, q1, q2, q3, q4, q5, q6, q7, q8⟩, hb2⟩
          injection hv with hv
          subst hv
          have HB : Hid (Below w.heap.size w w3) := Lib.hid (hb0.trans (hb2.mono hb0.size))
          obtain ⟨rfl, rfl⟩ := q3
          clear hb2 hb0 q0 q2 q4 q5 q6 q7 q8 hcv
          rcases Nat.lt_or_ge 9223372036854775807 u with hr | hr
          · obtain rfl := qr_out q1 (by omega)
            have g1 : ¬ (u : Int) ≤ 9223372036854775807 := by omega
            clear q1
            as_aux_lemma =>
              go_wp2_with fail
              go_ret
              refine ⟨?_, by have hb := HB.out; have hz := hb.size; go_grown⟩
              simp only [Ending.returned.injEq, Value.bool.injEq]
              first | rfl | (rw [decide_eq_false (by omega)]; rfl) | (simp; omega)
          · obtain ⟨rfl, _⟩ := qr_in q1 (by omega) (by omega)
            have g1 : (u : Int) ≤ 9223372036854775807 := by omega
            clear q1
            as_aux_lemma =>
              go_wp2_with fail
              go_ret
              refine ⟨?_, by have hb := HB.out; have hz := hb.size; go_grown⟩
              simp only [Ending.returned.injEq, Value.bool.injEq]
              first | rfl | (rw [decide_eq_true (by omega)]; rfl) | (simp; omega)
      · have h0' : (0 : Int) < (n : Int) := by omega
        have hbz : ((b : Int) == 0) = false := by rw [beq_eq_false_iff_ne]; omega
        have hbz2 : ¬ (b : Int) = 0 := by omega
        obtain ⟨r, hr⟩ : ∃ r, r = n % b := ⟨_, rfl⟩
        obtain ⟨m, hm⟩ : ∃ m, m = n / b := ⟨_, rfl⟩
        have hrb : r < 16 := by have := Nat.mod_lt n (show 0 < b by omega); omega
        have hrm : (n : Int) % (b : Int) = (r : Int) := by rw [hr]; exact (Int.natCast_emod n b).symm
        have hqm : (n : Int) / (b : Int) = (m : Int) := by rw [hm]; exact (Int.natCast_ediv n b).symm
        have hmn : m < n := by rw [hm]; exact Nat.div_lt_self (by omega) (by omega)
        have hex := HSA.out r hrb
        have s0 : (r : Int) + 1 ≤ (S.size : Int) := by omega
        have hNX : Hid (Mid b J up u (.int .u64 (m : Int)) (.string (⟨#[hb up r]⟩ ++ D))) := Lib.hid (by
          obtain ⟨k, k1, k2⟩ := mid_next (b := b) (j := j) (up := up) (l := l) (show 0 < b by omega) h0 HX.out.1
          refine ⟨k, m, hb up r :: l, by rw [hm]; exact k1, by rw [hm, hr, k2]; exact HX.out.2.1, by omega, rfl, ?_⟩
          rw [HX.out.2.2.2]; rfl)
        have HBW := Lib.hid HX.out.2.2.1
        clear hr hm HX
        go_wp2_with fail
        go_region
        go_wp2_with fail
        go_roundw
        case rel => exact ⟨hNX.out, by have hb := HBW.out; have hz := hb.size; go_grown⟩
        case measure => simp [intOf]; omega

end Go.Proofs.YtpneioocmpagmaaGreatDoor.hx

