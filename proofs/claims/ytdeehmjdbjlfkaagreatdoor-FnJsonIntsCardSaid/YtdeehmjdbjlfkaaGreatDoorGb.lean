/- json.parseNumber. -/
import Derived.Test.YtdeehmjdbjlfkaaGreatDoorGw
import Derived.Outline
namespace Go.Proofs.YtdeehmjdbjlfkaaGreatDoor.jn
open Go.RowKit Go.Proofs.YtdeehmjdbjlfkaaGreatDoor.js
set_option linter.unusedVariables false
set_option linter.unusedSimpArgs false

set_option maxHeartbeats 400000000 in
set_option maxRecDepth 100000 in
theorem parse_number (b L cap P0 N C : Nat) (T : List UInt8) (hT : T.length = L) (hL : L ≤ cap) (hcap : cap ≤ 9223372036854775807) (hL47 : L ≤ 140737488355000) (hN : 1 ≤ N) (hPN : P0 + N = L) (hC : C = cap - P0) (w : World) (hr : RowM w b 0 T) :
    Calls Tryz.prog 77 #[.slice (some ⟨b, P0, none⟩) N C] w fun e w' => Says P0 (pn T P0) e ∧ w = w' := by
  have hin0 : InAt b L cap P0 P0 N C := ⟨hPN, by omega, by omega, fun _ => ⟨rfl, hC⟩⟩
  have c0 := cell_at hT hr (show P0 < L by omega)
  have HR := Lib.hid (fun p (hp : p < L) => cell_at hT hr hp)
  obtain ⟨x0, hx0⟩ : ∃ x0, x0 = at_ T P0 := ⟨_, rfl⟩
  rw [← hx0] at c0
  have HX0 := Lib.hid hx0
  have HT := Lib.hid hT
  have n0 : (0 : Int) < (N : Int) := by omega
  have n1 : (1 : Int) ≤ (N : Int) := by omega
  have n2 : ((N : Int) == 0) = false := by rw [beq_eq_false_iff_ne]; omega
  have n3 : (1 : Int) ≤ (C : Int) := by omega
  have HIN0 := Lib.hid hin0
  have HC := Lib.hid hC
  have HPN := Lib.hid hPN
  have hPNl : P0 < L := by omega
  have hLi : (L : Int) ≤ 9223372036854775807 := by omega
  clear hx0 hr hT hin0 hC
  go_enter Tryz.func77, Tryz.ntmps77
  go_upto_if 13 with (fail)
  go_cut [4, 5] (fun v4 v5 wx => ∃ p, At b L cap P0 p v4 v5 ∧ p < L ∧ pn T P0 = pnE T p ∧ w = wx)
  case first => as_aux_lemma =>
    by_cases h45 : x0 = 45
    · have e45 : ((x0 : Int) == 45) = true := by rw [h45]; rfl
      have HPE : Hid (pn T P0 = pnE T (P0 + 1)) := Lib.hid (by unfold pn; rw [if_pos (by rw [← HX0.out]; exact h45)])
      clear h45
      by_cases hN1 : N = 1
      · have HNO : Hid (pn T P0 = none) := Lib.hid (by
          rw [HPE.out]
          have h0 : at_ T (P0 + 1) = 0 := by
            unfold at_
            rw [List.getD_eq_getElem?_getD, List.getElem?_eq_none (by have := HT.out; omega)]; rfl
          unfold pnE
          rw [h0]
          rfl)
        subst hN1
        by_cases hC1 : C = 1
        · subst hC1
          go_wp2_with (first | go_meet | fail)
          go_ret2
          unfold Says
          rw [HNO.out]
          exact ⟨rfl, rfl⟩
        · have n4 : ¬ (C : Int) = 1 := by omega
          go_wp2_with (first | go_meet | fail)
          go_ret2
          unfold Says
          rw [HNO.out]
          exact ⟨rfl, rfl⟩
      · have hC1 : ¬ C = 1 := by have := HIN0.out.2.1; omega
        have n4 : (((N : Int) - 1) == 0) = false := by rw [beq_eq_false_iff_ne]; omega
        have n5 : (((N - 1 : Nat) : Int) == 0) = false := by rw [beq_eq_false_iff_ne]; omega
        have HCU := Lib.hid ((inAt_one HIN0.out hN hL).2 hC1)
        have HAT : Hid (At b L cap P0 (P0 + 1) (.int .i64 1) (.slice (some ⟨b, P0 + 1, none⟩) (N - 1) (C - 1))) := Lib.hid ⟨_, _, _, by omega, HCU.out, num_i64 (by omega), rfl⟩
        go_wp2_with (first | go_meet | fail)
        exact ⟨P0 + 1, HAT.out, by omega, HPE.out⟩
    · have e45 : ((x0 : Int) == 45) = false := by rw [beq_eq_false_iff_ne]; omega
      have HPE : Hid (pn T P0 = pnE T P0) := Lib.hid (by unfold pn; rw [if_neg (by rw [← HX0.out]; exact h45)])
      have HAT : Hid (At b L cap P0 P0 (.int .i64 0) (.slice (some ⟨b, P0, none⟩) N C)) := Lib.hid ⟨_, _, _, by omega, HIN0.out, num_i64 (by omega), rfl⟩
      clear h45
      go_wp2_with (first | go_meet | fail)
      exact ⟨P0, HAT.out, by omega, HPE.out⟩
  case rest => as_aux_lemma =>
    obtain ⟨p1, ⟨off1, m1, k1, hp1, hi1, rfl, rfl⟩, hpl, hpn1, rfl⟩ := hcut
    obtain ⟨ho1, hk1⟩ := hi1.2.2.2 (by have := hi1.1; omega)
    subst ho1
    have HI1 := Lib.hid hi1
    have HPN1 := Lib.hid hpn1
    have j1 := hi1.1
    have j2 := hi1.2.1
    have j3 := hi1.2.2.1
    have cx1 := HR.out off1 hpl
    obtain ⟨x1, hx1⟩ : ∃ x1, x1 = at_ T off1 := ⟨_, rfl⟩
    rw [← hx1] at cx1
    have HX1 := Lib.hid hx1
    have m0 : (0 : Int) < (m1 : Int) := by omega
    have m2 : (1 : Int) ≤ (m1 : Int) := by omega
    have m3 : (1 : Int) ≤ (k1 : Int) := by omega
    have HM1 : Hid (1 ≤ m1) := Lib.hid (by omega)
    have HPP1 : Hid ((((off1 - P0 : Nat) : Int)) + 1 = ((off1 + 1 - P0 : Nat) : Int)) := Lib.hid (by omega)
    have z0 : (0 : Int) ≤ ((off1 - P0 : Nat) : Int) := by omega
    have z1 : ((off1 - P0 : Nat) : Int) ≤ 9223372036854775806 := by omega
    obtain ⟨u1, hu1⟩ : ∃ u1, u1 = off1 - P0 := ⟨_, rfl⟩
    rw [← hu1] at z0 z1 HPP1 ⊢
    have HU1 := Lib.hid hu1
    have HCUT1 := Lib.hid (inAt_one hi1 (by omega) hL)
    clear hi1 hpn1 hx1 hk1 hu1 c0 n0 n1 n2 n3 j1 j2 j3
    go_upto_block 0 with (fail)
    go_cut [4, 5] (fun v4 v5 wx => ∃ p, At b L cap P0 p v4 v5 ∧ pn T P0 = pnB T p ∧ w = wx)
    case first => as_aux_lemma =>
      by_cases h48 : x1 = 48
      · have e48 : ((x1 : Int) == 48) = true := by rw [h48]; rfl
        have HPE : Hid (pn T P0 = pnB T (off1 + 1)) := Lib.hid (by
          rw [HPN1.out]; unfold pnE
          rw [if_pos (by rw [← HX1.out]; exact h48)])
        clear h48
        by_cases hc1 : k1 = 1
        · obtain ⟨hcut1, hn1⟩ := HCUT1.out.1 hc1
          have HC1 := Lib.hid hcut1
          subst hc1
          subst hn1
          clear hcut1
          go_wp2_with (first | go_meet | fail)
          exact ⟨off1 + 1, ⟨_, _, _, by omega, HC1.out, num_i64 (by have := HPP1.out; omega), rfl⟩, HPE.out⟩
        · go_wp2_with (first | go_meet | fail)
          exact ⟨off1 + 1, ⟨_, _, _, by omega, HCUT1.out.2 hc1, num_i64 (by have := HPP1.out; omega), rfl⟩, HPE.out⟩
      · have e48 : ((x1 : Int) == 48) = false := by rw [beq_eq_false_iff_ne]; omega
        by_cases hdd : 49 ≤ x1 ∧ x1 ≤ 57
        · obtain ⟨R, hR⟩ : ∃ R, R = run T (off1 + 1) := ⟨_, rfl⟩
          have HPE : Hid (pn T P0 = pnB T R) := Lib.hid (by
            rw [HPN1.out, hR]; unfold pnE
            rw [if_neg (by rw [← HX1.out]; exact h48), if_pos (by rw [← HX1.out]; exact hdd)])
          have HRR := Lib.hid hR
          obtain ⟨d0, d1⟩ := hdd
          have e0 : (49 : Int) ≤ (x1 : Int) := by omega
          have e1 : (x1 : Int) ≤ 57 := by omega
          clear h48 d0 d1 hR
          by_cases hc1 : k1 = 1
          · obtain ⟨hcut1, hn1⟩ := HCUT1.out.1 hc1
            have HC1 := Lib.hid hcut1
            subst hc1
            subst hn1
            clear hcut1
            have HST : Hid (∃ p, At b L cap P0 p (.int .i64 ((u1 : Int) + 1)) (.slice (some ⟨b, off1, none⟩) 0 0) ∧ run T p = R) := Lib.hid ⟨off1 + 1, ⟨_, _, _, by omega, HC1.out, num_i64 (by have := HPP1.out; omega), rfl⟩, HRR.out.symm⟩
            go_wp2_with (first | go_meet | fail)
            clear cx1 m0 m2 m3 e0 e1 e48 z0 z1
            go_loop [4, 5] (fun v4 v5 => ∃ p, At b L cap P0 p v4 v5 ∧ run T p = R) (fun v4 _ => L - P0 - (intOf v4).toNat)
            case atStart => exact HST.out
            case round => as_aux_lemma =>
              obtain ⟨p, ⟨off, n, c, hp, hi, rfl, rfl⟩, hrun⟩ := hrel
              have HI := Lib.hid hi
              have HRU := Lib.hid hrun
              have j1 := hi.1
              have j2 := hi.2.1
              have j3 := hi.2.2.1
              have hpP : (((p - P0 : Nat) : Int)) + 1 = ((p + 1 - P0 : Nat) : Int) := by omega
              have HPP := Lib.hid hpP
              have z0 : (0 : Int) ≤ ((p - P0 : Nat) : Int) := by omega
              have z1 : ((p - P0 : Nat) : Int) ≤ 9223372036854775806 := by omega
              obtain ⟨u, hu⟩ : ∃ u, u = p - P0 := ⟨_, rfl⟩
              rw [← hu] at z0 z1 hpP HPP ⊢
              have HUU := Lib.hid hu
              clear hi hrun hpP hu
              rcases Nat.eq_zero_or_pos n with hn0 | hn0
              · have HOUT : Hid (p = R) := Lib.hid (by
                  rw [← HRU.out]
                  refine (run_stop (fun h => ?_)).symm
                  have := dg_lt h
                  have := HT.out
                  omega)
                subst hn0
                go_wp2_with (first | go_meet | fail)
                exact ⟨p, ⟨off, 0, c, hp, HI.out, by rw [HUU.out], rfl⟩, by rw [HOUT.out]; exact HPE.out⟩
              · have hpl2 : p < L := by omega
                have cx := HR.out p hpl2
                obtain ⟨hoff, hcc⟩ := HI.out.2.2.2 hn0
                subst hoff
                obtain ⟨x, hx⟩ : ∃ x, x = at_ T off := ⟨_, rfl⟩
                rw [← hx] at cx
                have HX := Lib.hid hx
                have m0 : (0 : Int) < (n : Int) := by omega
                have m1 : (1 : Int) ≤ (n : Int) := by omega
                have m2 : (1 : Int) ≤ (c : Int) := by omega
                have HN0 := Lib.hid hn0
                have HME : Hid (L - P0 - (u + 1) < L - P0 - u) := Lib.hid (by have := HUU.out; omega)
                clear hx hcc hn0 j1 j2 j3
                by_cases hd : dg x
                · have HNX : Hid (run T (off + 1) = R) := Lib.hid (by rw [← run_step (by rw [← HX.out]; exact hd)]; exact HRU.out)
                  obtain ⟨d0, d1⟩ := hd
                  have e0 : (48 : Int) ≤ (x : Int) := by omega
                  have e1 : (x : Int) ≤ 57 := by omega
                  have HCUT := Lib.hid (inAt_one HI.out HN0.out hL)
                  clear d0 d1
                  by_cases hc1 : c = 1
                  · obtain ⟨hcut1, hn1⟩ := HCUT.out.1 hc1
                    have HC1 := Lib.hid hcut1
                    subst hc1
                    subst hn1
                    clear hcut1
                    go_wp2_with (first | go_meet | fail)
                    exact ⟨⟨off + 1, ⟨_, _, _, by omega, HC1.out, num_i64 (by have := HPP.out; omega), rfl⟩, HNX.out⟩, by simp [intOf]; exact HME.out⟩
                  · go_wp2_with (first | go_meet | fail)
                    exact ⟨⟨off + 1, ⟨_, _, _, by omega, HCUT.out.2 hc1, num_i64 (by have := HPP.out; omega), rfl⟩, HNX.out⟩, by simp [intOf]; exact HME.out⟩
                · have HOUT : Hid (off = R) := Lib.hid (by
                    rw [← HRU.out]
                    exact (run_stop (by rw [← HX.out]; exact hd)).symm)
                  have hd2 : (x : Int) < 48 ∨ ((48 : Int) ≤ (x : Int) ∧ 57 < (x : Int)) := by unfold dg at hd; omega
                  clear hd
                  rcases hd2 with e0 | ⟨e0, e1⟩
                  · have e2 : ¬ (48 : Int) ≤ (x : Int) := by omega
                    go_wp2_with (first | go_meet | fail)
                    exact ⟨off, ⟨off, n, c, hp, HI.out, by rw [HUU.out], rfl⟩, by rw [HOUT.out]; exact HPE.out⟩
                  · have e2 : ¬ (x : Int) ≤ 57 := by omega
                    go_wp2_with (first | go_meet | fail)
                    exact ⟨off, ⟨off, n, c, hp, HI.out, by rw [HUU.out], rfl⟩, by rw [HOUT.out]; exact HPE.out⟩
          · have HST : Hid (∃ p, At b L cap P0 p (.int .i64 ((u1 : Int) + 1)) (.slice (some ⟨b, off1 + 1, none⟩) (m1 - 1) (k1 - 1)) ∧ run T p = R) := Lib.hid ⟨off1 + 1, ⟨_, _, _, by omega, HCUT1.out.2 hc1, num_i64 (by have := HPP1.out; omega), rfl⟩, HRR.out.symm⟩
            go_wp2_with (first | go_meet | fail)
            clear cx1 m0 m2 m3 e0 e1 e48 z0 z1
            go_loop [4, 5] (fun v4 v5 => ∃ p, At b L cap P0 p v4 v5 ∧ run T p = R) (fun v4 _ => L - P0 - (intOf v4).toNat)
            case atStart => exact HST.out
            case round => as_aux_lemma =>
              obtain ⟨p, ⟨off, n, c, hp, hi, rfl, rfl⟩, hrun⟩ := hrel
              have HI := Lib.hid hi
              have HRU := Lib.hid hrun
              have j1 := hi.1
              have j2 := hi.2.1
              have j3 := hi.2.2.1
              have hpP : (((p - P0 : Nat) : Int)) + 1 = ((p + 1 - P0 : Nat) : Int) := by omega
              have HPP := Lib.hid hpP
              have z0 : (0 : Int) ≤ ((p - P0 : Nat) : Int) := by omega
              have z1 : ((p - P0 : Nat) : Int) ≤ 9223372036854775806 := by omega
              obtain ⟨u, hu⟩ : ∃ u, u = p - P0 := ⟨_, rfl⟩
              rw [← hu] at z0 z1 hpP HPP ⊢
              have HUU := Lib.hid hu
              clear hi hrun hpP hu
              rcases Nat.eq_zero_or_pos n with hn0 | hn0
              · have HOUT : Hid (p = R) := Lib.hid (by
                  rw [← HRU.out]
                  refine (run_stop (fun h => ?_)).symm
                  have := dg_lt h
                  have := HT.out
                  omega)
                subst hn0
                go_wp2_with (first | go_meet | fail)
                exact ⟨p, ⟨off, 0, c, hp, HI.out, by rw [HUU.out], rfl⟩, by rw [HOUT.out]; exact HPE.out⟩
              · have hpl2 : p < L := by omega
                have cx := HR.out p hpl2
                obtain ⟨hoff, hcc⟩ := HI.out.2.2.2 hn0
                subst hoff
                obtain ⟨x, hx⟩ : ∃ x, x = at_ T off := ⟨_, rfl⟩
                rw [← hx] at cx
                have HX := Lib.hid hx
                have m0 : (0 : Int) < (n : Int) := by omega
                have m1 : (1 : Int) ≤ (n : Int) := by omega
                have m2 : (1 : Int) ≤ (c : Int) := by omega
                have HN0 := Lib.hid hn0
                have HME : Hid (L - P0 - (u + 1) < L - P0 - u) := Lib.hid (by have := HUU.out; omega)
                clear hx hcc hn0 j1 j2 j3
                by_cases hd : dg x
                · have HNX : Hid (run T (off + 1) = R) := Lib.hid (by rw [← run_step (by rw [← HX.out]; exact hd)]; exact HRU.out)
                  obtain ⟨d0, d1⟩ := hd
                  have e0 : (48 : Int) ≤ (x : Int) := by omega
                  have e1 : (x : Int) ≤ 57 := by omega
                  have HCUT := Lib.hid (inAt_one HI.out HN0.out hL)
                  clear d0 d1
                  by_cases hc1 : c = 1
                  · obtain ⟨hcut1, hn1⟩ := HCUT.out.1 hc1
                    have HC1 := Lib.hid hcut1
                    subst hc1
                    subst hn1
                    clear hcut1
                    go_wp2_with (first | go_meet | fail)
                    exact ⟨⟨off + 1, ⟨_, _, _, by omega, HC1.out, num_i64 (by have := HPP.out; omega), rfl⟩, HNX.out⟩, by simp [intOf]; exact HME.out⟩
                  · go_wp2_with (first | go_meet | fail)
                    exact ⟨⟨off + 1, ⟨_, _, _, by omega, HCUT.out.2 hc1, num_i64 (by have := HPP.out; omega), rfl⟩, HNX.out⟩, by simp [intOf]; exact HME.out⟩
                · have HOUT : Hid (off = R) := Lib.hid (by
                    rw [← HRU.out]
                    exact (run_stop (by rw [← HX.out]; exact hd)).symm)
                  have hd2 : (x : Int) < 48 ∨ ((48 : Int) ≤ (x : Int) ∧ 57 < (x : Int)) := by unfold dg at hd; omega
                  clear hd
                  rcases hd2 with e0 | ⟨e0, e1⟩
                  · have e2 : ¬ (48 : Int) ≤ (x : Int) := by omega
                    go_wp2_with (first | go_meet | fail)
                    exact ⟨off, ⟨off, n, c, hp, HI.out, by rw [HUU.out], rfl⟩, by rw [HOUT.out]; exact HPE.out⟩
                  · have e2 : ¬ (x : Int) ≤ 57 := by omega
                    go_wp2_with (first | go_meet | fail)
                    exact ⟨off, ⟨off, n, c, hp, HI.out, by rw [HUU.out], rfl⟩, by rw [HOUT.out]; exact HPE.out⟩
        · have HNO : Hid (pn T P0 = none) := Lib.hid (by
            rw [HPN1.out]; unfold pnE
            rw [if_neg (by rw [← HX1.out]; exact h48), if_neg (by rw [← HX1.out]; exact hdd)])
          have hd2 : (x1 : Int) < 49 ∨ ((49 : Int) ≤ (x1 : Int) ∧ 57 < (x1 : Int)) := by omega
          clear h48 hdd
          rcases hd2 with e0 | ⟨e0, e1⟩
          · have e2 : ¬ (49 : Int) ≤ (x1 : Int) := by omega
            go_wp2_with (first | go_meet | fail)
            go_ret2
            unfold Says
            rw [HNO.out]
            exact ⟨rfl, rfl⟩
          · have e2 : ¬ (x1 : Int) ≤ 57 := by omega
            go_wp2_with (first | go_meet | fail)
            go_ret2
            unfold Says
            rw [HNO.out]
            exact ⟨rfl, rfl⟩
    case rest => as_aux_lemma =>
      clear cx1 m0 m2 m3 z0 z1
      obtain ⟨p2, ⟨off2, m2, k2, hp2, hi2, rfl, rfl⟩, hpn2, rfl⟩ := hcut
      have HI2 := Lib.hid hi2
      have HPN2 := Lib.hid hpn2
      have j1 := hi2.1
      have j2 := hi2.2.1
      have j3 := hi2.2.2.1
      obtain ⟨fr, hfr⟩ : ∃ fr : Bool, fr = decide (at_ T p2 = 46 ∧ dg (at_ T (p2 + 1))) := ⟨_, rfl⟩
      have HFR := Lib.hid hfr
      have HOF : Hid (0 < m2 → off2 = p2 ∧ k2 = cap - p2) := Lib.hid hi2.2.2.2
      clear hi2 hpn2 hfr
      go_upto_region 20 with (fail)
      go_cut [84] (fun v84 wx => v84 = .bool fr ∧ (fr = true → 2 ≤ m2) ∧ w = wx)
      case first => as_aux_lemma =>
        have hfr := HFR.out
        rcases (by omega : m2 = 0 ∨ m2 = 1 ∨ 2 ≤ m2) with h | h | h
        · subst h
          have hf : fr = false := by
            rw [hfr]; refine decide_eq_false (fun hc => ?_)
            have := dg_lt hc.2
            have := HT.out
            omega
          subst hf
          clear hfr
          go_wp2_with (first | go_meet | fail)
          all_goals exact ⟨rfl, fun h => by cases h⟩
        · subst h
          obtain ⟨rfl, hk⟩ := HOF.out (by omega)
          have cx := HR.out off2 (by omega)
          have hf : fr = false := by
            rw [hfr]; refine decide_eq_false (fun hc => ?_)
            have := dg_lt hc.2
            have := HT.out
            omega
          subst hf
          clear hfr hk
          go_wp2_with (first | go_meet | fail)
          all_goals exact ⟨rfl, fun h => by cases h⟩
        · obtain ⟨rfl, hk⟩ := HOF.out (by omega)
          have cx := HR.out off2 (by omega)
          have cy := HR.out (off2 + 1) (by omega)
          obtain ⟨x, hx⟩ : ∃ x, x = at_ T off2 := ⟨_, rfl⟩
          obtain ⟨y, hy⟩ : ∃ y, y = at_ T (off2 + 1) := ⟨_, rfl⟩
          rw [← hx] at cx hfr
          rw [← hy] at cy hfr
          have m0 : (2 : Int) ≤ (m2 : Int) := by omega
          have m1 : (0 : Int) < (m2 : Int) := by omega
          have m3 : (1 : Int) < (m2 : Int) := by omega
          have H2 : Hid (2 ≤ m2) := Lib.hid h
          clear hx hy hk h
          by_cases h46 : x = 46
          · have e46 : ((x : Int) == 46) = true := by rw [h46]; rfl
            by_cases hd : dg y
            · have hf : fr = true := by rw [hfr]; exact decide_eq_true ⟨h46, hd⟩
              obtain ⟨d0, d1⟩ := hd
              have e0 : (48 : Int) ≤ (y : Int) := by omega
              have e1 : (y : Int) ≤ 57 := by omega
              subst hf
              clear hfr h46 d0 d1
              go_wp2_with (first | go_meet | fail)
              all_goals first | exact H2.out | exact ⟨rfl, fun _ => H2.out⟩
            · have hf : fr = false := by rw [hfr]; exact decide_eq_false (fun hc => hd hc.2)
              have hd2 : (y : Int) < 48 ∨ ((48 : Int) ≤ (y : Int) ∧ 57 < (y : Int)) := by unfold dg at hd; omega
              subst hf
              clear hfr h46 hd
              rcases hd2 with e0 | ⟨e0, e1⟩
              · have e2 : ¬ (48 : Int) ≤ (y : Int) := by omega
                go_wp2_with (first | go_meet | fail)
                all_goals exact ⟨rfl, fun h => by cases h⟩
              · have e2 : ¬ (y : Int) ≤ 57 := by omega
                go_wp2_with (first | go_meet | fail)
                all_goals exact ⟨rfl, fun h => by cases h⟩
          · have e46 : ((x : Int) == 46) = false := by rw [beq_eq_false_iff_ne]; omega
            have hf : fr = false := by rw [hfr]; exact decide_eq_false (fun hc => h46 hc.1)
            subst hf
            clear hfr h46
            go_wp2_with (first | go_meet | fail)
            all_goals exact ⟨rfl, fun h => by cases h⟩
      case rest => as_aux_lemma =>
        obtain ⟨rfl, hm2, rfl⟩ := hcut
        have HM2 := Lib.hid hm2
        clear hm2
        go_upto_if 84 with (fail)
        go_cut [4, 5] (fun v4 v5 wx => ∃ p, At b L cap P0 p v4 v5 ∧ pn T P0 = pnC T p ∧ w = wx)
        case first => as_aux_lemma =>
          cases fr with
          | false =>
            have HPE : Hid (pn T P0 = pnC T p2) := Lib.hid (by
              rw [HPN2.out]; unfold pnB
              rw [if_neg (of_decide_eq_false HFR.out.symm)])
            go_wp2_with (first | go_meet | fail)
            exact ⟨p2, ⟨_, _, _, hp2, HI2.out, rfl, rfl⟩, HPE.out⟩
          | true =>
            have h2 := HM2.out rfl
            obtain ⟨rfl, hk⟩ := HOF.out (by omega)
            obtain ⟨R, hR⟩ : ∃ R, R = run T (off2 + 2) := ⟨_, rfl⟩
            have HPE : Hid (pn T P0 = pnC T R) := Lib.hid (by
              rw [HPN2.out, hR]; unfold pnB
              rw [if_pos (of_decide_eq_true HFR.out.symm)])
            have HRR := Lib.hid hR
            have m0 : (2 : Int) ≤ (m2 : Int) := by omega
            have m1 : (2 : Int) ≤ (k2 : Int) := by omega
            have z0 : (0 : Int) ≤ ((off2 - P0 : Nat) : Int) := by omega
            have z1 : ((off2 - P0 : Nat) : Int) ≤ 140737488355000 := by omega
            have HZ : Hid (((off2 - P0 : Nat) : Int) + 2 = ((off2 + 2 - P0 : Nat) : Int)) := Lib.hid (by omega)
            obtain ⟨u1, hu1⟩ : ∃ u1, u1 = off2 - P0 := ⟨_, rfl⟩
            rw [← hu1] at z0 z1 HZ ⊢
            clear hR hu1
            by_cases hc2 : k2 = 2
            · have HC2 := Lib.hid (inAt_end HI2.out h2 hc2)
              obtain rfl : m2 = 2 := by omega
              subst hc2
              have HST : Hid (∃ p, At b L cap P0 p (.int .i64 ((u1 : Int) + 2)) (.slice (some ⟨b, off2, none⟩) 0 0) ∧ run T p = R) := Lib.hid ⟨off2 + 2, ⟨_, _, _, by omega, HC2.out, num_i64 HZ.out, rfl⟩, HRR.out.symm⟩
              clear h2 hk
              go_wp2_with (first | go_meet | fail)
              clear m0 m1 z0 z1
              go_loop [4, 5] (fun v4 v5 => ∃ p, At b L cap P0 p v4 v5 ∧ run T p = R) (fun v4 _ => L - P0 - (intOf v4).toNat)
              case atStart => exact HST.out
              case round => as_aux_lemma =>
                obtain ⟨p, ⟨off, n, c, hp, hi, rfl, rfl⟩, hrun⟩ := hrel
                have HI := Lib.hid hi
                have HRU := Lib.hid hrun
                have j1 := hi.1
                have j2 := hi.2.1
                have j3 := hi.2.2.1
                have hpP : (((p - P0 : Nat) : Int)) + 1 = ((p + 1 - P0 : Nat) : Int) := by omega
                have HPP := Lib.hid hpP
                have z0 : (0 : Int) ≤ ((p - P0 : Nat) : Int) := by omega
                have z1 : ((p - P0 : Nat) : Int) ≤ 9223372036854775806 := by omega
                obtain ⟨u, hu⟩ : ∃ u, u = p - P0 := ⟨_, rfl⟩
                rw [← hu] at z0 z1 hpP HPP ⊢
                have HUU := Lib.hid hu
                clear hi hrun hpP hu
                rcases Nat.eq_zero_or_pos n with hn0 | hn0
                · have HOUT : Hid (p = R) := Lib.hid (by
                    rw [← HRU.out]
                    refine (run_stop (fun h => ?_)).symm
                    have := dg_lt h
                    have := HT.out
                    omega)
                  subst hn0
                  go_wp2_with (first | go_meet | fail)
                  exact ⟨p, ⟨off, 0, c, hp, HI.out, by rw [HUU.out], rfl⟩, by rw [HOUT.out]; exact HPE.out⟩
                · have hpl2 : p < L := by omega
                  have cx := HR.out p hpl2
                  obtain ⟨hoff, hcc⟩ := HI.out.2.2.2 hn0
                  subst hoff
                  obtain ⟨x, hx⟩ : ∃ x, x = at_ T off := ⟨_, rfl⟩
                  rw [← hx] at cx
                  have HX := Lib.hid hx
                  have m0 : (0 : Int) < (n : Int) := by omega
                  have m1 : (1 : Int) ≤ (n : Int) := by omega
                  have m2 : (1 : Int) ≤ (c : Int) := by omega
                  have HN0 := Lib.hid hn0
                  have HME : Hid (L - P0 - (u + 1) < L - P0 - u) := Lib.hid (by have := HUU.out; omega)
                  clear hx hcc hn0 j1 j2 j3
                  by_cases hd : dg x
                  · have HNX : Hid (run T (off + 1) = R) := Lib.hid (by rw [← run_step (by rw [← HX.out]; exact hd)]; exact HRU.out)
                    obtain ⟨d0, d1⟩ := hd
                    have e0 : (48 : Int) ≤ (x : Int) := by omega
                    have e1 : (x : Int) ≤ 57 := by omega
                    have HCUT := Lib.hid (inAt_one HI.out HN0.out hL)
                    clear d0 d1
                    by_cases hc1 : c = 1
                    · obtain ⟨hcut1, hn1⟩ := HCUT.out.1 hc1
                      have HC1 := Lib.hid hcut1
                      subst hc1
                      subst hn1
                      clear hcut1
                      go_wp2_with (first | go_meet | fail)
                      exact ⟨⟨off + 1, ⟨_, _, _, by omega, HC1.out, num_i64 (by have := HPP.out; omega), rfl⟩, HNX.out⟩, by simp [intOf]; exact HME.out⟩
                    · go_wp2_with (first | go_meet | fail)
                      exact ⟨⟨off + 1, ⟨_, _, _, by omega, HCUT.out.2 hc1, num_i64 (by have := HPP.out; omega), rfl⟩, HNX.out⟩, by simp [intOf]; exact HME.out⟩
                  · have HOUT : Hid (off = R) := Lib.hid (by
                      rw [← HRU.out]
                      exact (run_stop (by rw [← HX.out]; exact hd)).symm)
                    have hd2 : (x : Int) < 48 ∨ ((48 : Int) ≤ (x : Int) ∧ 57 < (x : Int)) := by unfold dg at hd; omega
                    clear hd
                    rcases hd2 with e0 | ⟨e0, e1⟩
                    · have e2 : ¬ (48 : Int) ≤ (x : Int) := by omega
                      go_wp2_with (first | go_meet | fail)
                      exact ⟨off, ⟨off, n, c, hp, HI.out, by rw [HUU.out], rfl⟩, by rw [HOUT.out]; exact HPE.out⟩
                    · have e2 : ¬ (x : Int) ≤ 57 := by omega
                      go_wp2_with (first | go_meet | fail)
                      exact ⟨off, ⟨off, n, c, hp, HI.out, by rw [HUU.out], rfl⟩, by rw [HOUT.out]; exact HPE.out⟩
            · have HC2 := Lib.hid (inAt_cut HI2.out h2 hL)
              have HST : Hid (∃ p, At b L cap P0 p (.int .i64 ((u1 : Int) + 2)) (.slice (some ⟨b, off2 + 2, none⟩) (m2 - 2) (k2 - 2)) ∧ run T p = R) := Lib.hid ⟨off2 + 2, ⟨_, _, _, by omega, HC2.out, num_i64 HZ.out, rfl⟩, HRR.out.symm⟩
              clear h2 hk
              go_wp2_with (first | go_meet | fail)
              clear m0 m1 z0 z1
              go_loop [4, 5] (fun v4 v5 => ∃ p, At b L cap P0 p v4 v5 ∧ run T p = R) (fun v4 _ => L - P0 - (intOf v4).toNat)
              case atStart => exact HST.out
              case round => as_aux_lemma =>
                obtain ⟨p, ⟨off, n, c, hp, hi, rfl, rfl⟩, hrun⟩ := hrel
                have HI := Lib.hid hi
                have HRU := Lib.hid hrun
                have j1 := hi.1
                have j2 := hi.2.1
                have j3 := hi.2.2.1
                have hpP : (((p - P0 : Nat) : Int)) + 1 = ((p + 1 - P0 : Nat) : Int) := by omega
                have HPP := Lib.hid hpP
                have z0 : (0 : Int) ≤ ((p - P0 : Nat) : Int) := by omega
                have z1 : ((p - P0 : Nat) : Int) ≤ 9223372036854775806 := by omega
                obtain ⟨u, hu⟩ : ∃ u, u = p - P0 := ⟨_, rfl⟩
                rw [← hu] at z0 z1 hpP HPP ⊢
                have HUU := Lib.hid hu
                clear hi hrun hpP hu
                rcases Nat.eq_zero_or_pos n with hn0 | hn0
                · have HOUT : Hid (p = R) := Lib.hid (by
                    rw [← HRU.out]
                    refine (run_stop (fun h => ?_)).symm
                    have := dg_lt h
                    have := HT.out
                    omega)
                  subst hn0
                  go_wp2_with (first | go_meet | fail)
                  exact ⟨p, ⟨off, 0, c, hp, HI.out, by rw [HUU.out], rfl⟩, by rw [HOUT.out]; exact HPE.out⟩
                · have hpl2 : p < L := by omega
                  have cx := HR.out p hpl2
                  obtain ⟨hoff, hcc⟩ := HI.out.2.2.2 hn0
                  subst hoff
                  obtain ⟨x, hx⟩ : ∃ x, x = at_ T off := ⟨_, rfl⟩
                  rw [← hx] at cx
                  have HX := Lib.hid hx
                  have m0 : (0 : Int) < (n : Int) := by omega
                  have m1 : (1 : Int) ≤ (n : Int) := by omega
                  have m2 : (1 : Int) ≤ (c : Int) := by omega
                  have HN0 := Lib.hid hn0
                  have HME : Hid (L - P0 - (u + 1) < L - P0 - u) := Lib.hid (by have := HUU.out; omega)
                  clear hx hcc hn0 j1 j2 j3
                  by_cases hd : dg x
                  · have HNX : Hid (run T (off + 1) = R) := Lib.hid (by rw [← run_step (by rw [← HX.out]; exact hd)]; exact HRU.out)
                    obtain ⟨d0, d1⟩ := hd
                    have e0 : (48 : Int) ≤ (x : Int) := by omega
                    have e1 : (x : Int) ≤ 57 := by omega
                    have HCUT := Lib.hid (inAt_one HI.out HN0.out hL)
                    clear d0 d1
                    by_cases hc1 : c = 1
                    · obtain ⟨hcut1, hn1⟩ := HCUT.out.1 hc1
                      have HC1 := Lib.hid hcut1
                      subst hc1
                      subst hn1
                      clear hcut1
                      go_wp2_with (first | go_meet | fail)
                      exact ⟨⟨off + 1, ⟨_, _, _, by omega, HC1.out, num_i64 (by have := HPP.out; omega), rfl⟩, HNX.out⟩, by simp [intOf]; exact HME.out⟩
                    · go_wp2_with (first | go_meet | fail)
                      exact ⟨⟨off + 1, ⟨_, _, _, by omega, HCUT.out.2 hc1, num_i64 (by have := HPP.out; omega), rfl⟩, HNX.out⟩, by simp [intOf]; exact HME.out⟩
                  · have HOUT : Hid (off = R) := Lib.hid (by
                      rw [← HRU.out]
                      exact (run_stop (by rw [← HX.out]; exact hd)).symm)
                    have hd2 : (x : Int) < 48 ∨ ((48 : Int) ≤ (x : Int) ∧ 57 < (x : Int)) := by unfold dg at hd; omega
                    clear hd
                    rcases hd2 with e0 | ⟨e0, e1⟩
                    · have e2 : ¬ (48 : Int) ≤ (x : Int) := by omega
                      go_wp2_with (first | go_meet | fail)
                      exact ⟨off, ⟨off, n, c, hp, HI.out, by rw [HUU.out], rfl⟩, by rw [HOUT.out]; exact HPE.out⟩
                    · have e2 : ¬ (x : Int) ≤ 57 := by omega
                      go_wp2_with (first | go_meet | fail)
                      exact ⟨off, ⟨off, n, c, hp, HI.out, by rw [HUU.out], rfl⟩, by rw [HOUT.out]; exact HPE.out⟩
        case rest => as_aux_lemma =>
          clear hp1 hp2 hpl j1 j2 j3
          obtain ⟨p3, ⟨off3, m3, k3, hp3, hi3, rfl, rfl⟩, hpn3, rfl⟩ := hcut
          have HI3 := Lib.hid hi3
          have HPN3 := Lib.hid hpn3
          have j1 := hi3.1
          have j2 := hi3.2.1
          have j3 := hi3.2.2.1
          obtain ⟨ex, hex⟩ : ∃ ex : Bool, ex = decide ((at_ T p3 = 101 ∨ at_ T p3 = 69) ∧ p3 + 1 < L) := ⟨_, rfl⟩
          have HEX := Lib.hid hex
          have HOF3 : Hid (0 < m3 → off3 = p3 ∧ k3 = cap - p3) := Lib.hid hi3.2.2.2
          clear hi3 hpn3 hex
          go_upto_region 26 with (fail)
          go_cut [122] (fun v122 wx => v122 = .bool ex ∧ w = wx)
          case first => as_aux_lemma =>
            have hex := HEX.out
            rcases (by omega : m3 = 0 ∨ m3 = 1 ∨ 2 ≤ m3) with h | h | h
            · subst h
              have hf : ex = false := by
                rw [hex]; refine decide_eq_false (fun hc => ?_)
                omega
              subst hf
              clear hex
              go_wp2_with (first | go_meet | fail)
              all_goals exact rfl
            · subst h
              obtain ⟨rfl, hk⟩ := HOF3.out (by omega)
              have cx := HR.out off3 (by omega)
              have hf : ex = false := by
                rw [hex]; refine decide_eq_false (fun hc => ?_)
                omega
              subst hf
              clear hex hk
              go_wp2_with (first | go_meet | fail)
              all_goals exact rfl
            · obtain ⟨rfl, hk⟩ := HOF3.out (by omega)
              have cx := HR.out off3 (by omega)
              have hlt : off3 + 1 < L := by omega
              obtain ⟨x, hx⟩ : ∃ x, x = at_ T off3 := ⟨_, rfl⟩
              rw [← hx] at cx hex
              have m0 : (2 : Int) ≤ (m3 : Int) := by omega
              have m1 : (0 : Int) < (m3 : Int) := by omega
              clear hx hk h
              by_cases h1 : x = 101
              · have hf : ex = true := by rw [hex]; exact decide_eq_true ⟨.inl h1, hlt⟩
                have e1 : ((x : Int) == 101) = true := by rw [h1]; rfl
                subst hf
                clear hex h1 hlt
                go_wp2_with (first | go_meet | fail)
                all_goals exact rfl
              · have e1 : ((x : Int) == 101) = false := by rw [beq_eq_false_iff_ne]; omega
                by_cases h2 : x = 69
                · have hf : ex = true := by rw [hex]; exact decide_eq_true ⟨.inr h2, hlt⟩
                  have e2 : ((x : Int) == 69) = true := by rw [h2]; rfl
                  subst hf
                  clear hex h1 h2 hlt
                  go_wp2_with (first | go_meet | fail)
                  all_goals exact rfl
                · have hf : ex = false := by rw [hex]; exact decide_eq_false (fun hc => by rcases hc.1 with h | h <;> omega)
                  have e2 : ((x : Int) == 69) = false := by rw [beq_eq_false_iff_ne]; omega
                  subst hf
                  clear hex h1 h2 hlt
                  go_wp2_with (first | go_meet | fail)
                  all_goals exact rfl
          case rest => as_aux_lemma =>
            obtain ⟨rfl, rfl⟩ := hcut
            go_upto_if 122 with (fail)
            go_cut [4, 5] (fun v4 v5 wx => ∃ p, At b L cap P0 p v4 v5 ∧ pn T P0 = pnD T p ∧ w = wx)
            case first => as_aux_lemma =>
              cases ex with
              | false =>
                have HPE : Hid (pn T P0 = pnD T p3) := Lib.hid (by
                  rw [HPN3.out]; unfold pnC
                  rw [if_neg (by rw [HT.out]; exact of_decide_eq_false HEX.out.symm)])
                go_wp2_with (first | go_meet | fail)
                exact ⟨p3, ⟨_, _, _, hp3, HI3.out, rfl, rfl⟩, HPE.out⟩
              | true =>
                have hxx := of_decide_eq_true HEX.out.symm
                have h2 : 2 ≤ m3 := by omega
                obtain ⟨rfl, hk⟩ := HOF3.out (by omega)
                have cy := HR.out (off3 + 1) (by omega)
                obtain ⟨y, hy⟩ : ∃ y, y = at_ T (off3 + 1) := ⟨_, rfl⟩
                rw [← hy] at cy
                have HY := Lib.hid hy
                have HPC : Hid (pn T P0 = if y = 43 ∨ y = 45 then (if off3 + 2 < L then pnD T (run T (off3 + 2)) else none) else pnD T (run T (off3 + 1))) := Lib.hid (by
                  rw [HPN3.out]; unfold pnC
                  rw [if_pos (by rw [HT.out]; exact hxx), HT.out, ← HY.out])
                have HI4 : Hid (InAt b L cap (off3 + 1) (off3 + 1) (m3 - 1) (k3 - 1)) := Lib.hid ((inAt_one HI3.out (by omega) hL).2 (by omega))
                have m0 : (1 : Int) ≤ (m3 : Int) := by omega
                have m1 : (1 : Int) ≤ (k3 : Int) := by omega
                have m4 : ¬ k3 = 1 := by omega
                have m5 : (0 : Int) < (m3 : Int) - 1 := by omega
                have m6 : (0 : Int) < ((m3 - 1 : Nat) : Int) := by omega
                have m7 : (1 : Int) ≤ ((m3 - 1 : Nat) : Int) := by omega
                have m8 : (1 : Int) ≤ ((k3 - 1 : Nat) : Int) := by omega
                have z0 : (0 : Int) ≤ ((off3 - P0 : Nat) : Int) := by omega
                have z1 : ((off3 - P0 : Nat) : Int) ≤ 140737488355000 := by omega
                have HZ1 : Hid (((off3 - P0 : Nat) : Int) + 1 = ((off3 + 1 - P0 : Nat) : Int)) := Lib.hid (by omega)
                have HZ2 : Hid (((off3 - P0 : Nat) : Int) + 1 + 1 = ((off3 + 2 - P0 : Nat) : Int)) := Lib.hid (by omega)
                obtain ⟨u1, hu1⟩ : ∃ u1, u1 = off3 - P0 := ⟨_, rfl⟩
                rw [← hu1] at z0 z1 HZ1 HZ2 ⊢
                have HJ : Hid (off3 + m3 = L ∧ m3 ≤ k3 ∧ k3 ≤ cap ∧ 2 ≤ m3) := Lib.hid ⟨by omega, by omega, by omega, h2⟩
                clear hxx hk hy hu1 h2 j1 j2 j3
                by_cases hsg : y = 43 ∨ y = 45
                · have hsi : ((y : Int) == 43) = true ∨ (((y : Int) == 43) = false ∧ ((y : Int) == 45) = true) := by
                    simp only [beq_iff_eq, beq_eq_false_iff_ne]; omega
                  have HPC2 : Hid (pn T P0 = if off3 + 2 < L then pnD T (run T (off3 + 2)) else none) := Lib.hid (by rw [HPC.out, if_pos hsg])
                  clear hsg
                  by_cases hm2 : m3 = 2
                  · have HNO : Hid (pn T P0 = none) := Lib.hid (by rw [HPC2.out, if_neg (by have := HJ.out; omega)])
                    subst hm2
                    by_cases hk2 : k3 = 2
                    · subst hk2
                      rcases hsi with e1 | ⟨e1, e2⟩
                      all_goals
                        go_wp2_with (first | go_meet | fail)
                        go_ret2
                        unfold Says
                        rw [HNO.out]
                        exact ⟨rfl, rfl⟩
                    · have hk3 : ¬ k3 - 1 = 1 := by have := HJ.out; omega
                      rcases hsi with e1 | ⟨e1, e2⟩
                      all_goals
                        go_wp2_with (first | go_meet | fail)
                        go_ret2
                        unfold Says
                        rw [HNO.out]
                        exact ⟨rfl, rfl⟩
                  · obtain ⟨R, hR⟩ : ∃ R, R = run T (off3 + 2) := ⟨_, rfl⟩
                    have HPE : Hid (pn T P0 = pnD T R) := Lib.hid (by rw [HPC2.out, if_pos (by have := HJ.out; omega), hR])
                    have HRR := Lib.hid hR
                    have hk3 : ¬ k3 - 1 = 1 := by have := HJ.out; omega
                    have m9 : (((m3 - 1 - 1 : Nat) : Int) == 0) = false := by rw [beq_eq_false_iff_ne]; have := HJ.out; omega
                    have m10 : ((((m3 - 1 : Nat) : Int) - 1) == 0) = false := by rw [beq_eq_false_iff_ne]; have := HJ.out; omega
                    have HI5 : Hid (InAt b L cap (off3 + 2) (off3 + 2) (m3 - 1 - 1) (k3 - 1 - 1)) := Lib.hid ((inAt_one HI4.out (by have := HJ.out; omega) hL).2 hk3)
                    have HST : Hid (∃ p, At b L cap P0 p (.int .i64 ((u1 : Int) + 1 + 1)) (.slice (some ⟨b, off3 + 2, none⟩) (m3 - 1 - 1) (k3 - 1 - 1)) ∧ run T p = R) := Lib.hid ⟨off3 + 2, ⟨_, _, _, by omega, HI5.out, num_i64 HZ2.out, rfl⟩, HRR.out.symm⟩
                    clear hR hm2
                    rcases hsi with e1 | ⟨e1, e2⟩
                    · go_wp2_with (first | go_meet | fail)
                      clear m0 m1 m5 m6 m7 m8 z0 z1 cy
                      go_loop [4, 5] (fun v4 v5 => ∃ p, At b L cap P0 p v4 v5 ∧ run T p = R) (fun v4 _ => L - P0 - (intOf v4).toNat)
                      case atStart => exact HST.out
                      case round => as_aux_lemma =>
                        obtain ⟨p, ⟨off, n, c, hp, hi, rfl, rfl⟩, hrun⟩ := hrel
                        have HI := Lib.hid hi
                        have HRU := Lib.hid hrun
                        have j1 := hi.1
                        have j2 := hi.2.1
                        have j3 := hi.2.2.1
                        have hpP : (((p - P0 : Nat) : Int)) + 1 = ((p + 1 - P0 : Nat) : Int) := by omega
                        have HPP := Lib.hid hpP
                        have z0 : (0 : Int) ≤ ((p - P0 : Nat) : Int) := by omega
                        have z1 : ((p - P0 : Nat) : Int) ≤ 9223372036854775806 := by omega
                        obtain ⟨u, hu⟩ : ∃ u, u = p - P0 := ⟨_, rfl⟩
                        rw [← hu] at z0 z1 hpP HPP ⊢
                        have HUU := Lib.hid hu
                        clear hi hrun hpP hu
                        rcases Nat.eq_zero_or_pos n with hn0 | hn0
                        · have HOUT : Hid (p = R) := Lib.hid (by
                            rw [← HRU.out]
                            refine (run_stop (fun h => ?_)).symm
                            have := dg_lt h
                            have := HT.out
                            omega)
                          subst hn0
                          go_wp2_with (first | go_meet | fail)
                          exact ⟨p, ⟨off, 0, c, hp, HI.out, by rw [HUU.out], rfl⟩, by rw [HOUT.out]; exact HPE.out⟩
                        · have hpl2 : p < L := by omega
                          have cx := HR.out p hpl2
                          obtain ⟨hoff, hcc⟩ := HI.out.2.2.2 hn0
                          subst hoff
                          obtain ⟨x, hx⟩ : ∃ x, x = at_ T off := ⟨_, rfl⟩
                          rw [← hx] at cx
                          have HX := Lib.hid hx
                          have m0 : (0 : Int) < (n : Int) := by omega
                          have m1 : (1 : Int) ≤ (n : Int) := by omega
                          have m2 : (1 : Int) ≤ (c : Int) := by omega
                          have HN0 := Lib.hid hn0
                          have HME : Hid (L - P0 - (u + 1) < L - P0 - u) := Lib.hid (by have := HUU.out; omega)
                          clear hx hcc hn0 j1 j2 j3
                          by_cases hd : dg x
                          · have HNX : Hid (run T (off + 1) = R) := Lib.hid (by rw [← run_step (by rw [← HX.out]; exact hd)]; exact HRU.out)
                            obtain ⟨d0, d1⟩ := hd
                            have e0 : (48 : Int) ≤ (x : Int) := by omega
                            have e1 : (x : Int) ≤ 57 := by omega
                            have HCUT := Lib.hid (inAt_one HI.out HN0.out hL)
                            clear d0 d1
                            by_cases hc1 : c = 1
                            · obtain ⟨hcut1, hn1⟩ := HCUT.out.1 hc1
                              have HC1 := Lib.hid hcut1
                              subst hc1
                              subst hn1
                              clear hcut1
                              go_wp2_with (first | go_meet | fail)
                              exact ⟨⟨off + 1, ⟨_, _, _, by omega, HC1.out, num_i64 (by have := HPP.out; omega), rfl⟩, HNX.out⟩, by simp [intOf]; exact HME.out⟩
                            · go_wp2_with (first | go_meet | fail)
                              exact ⟨⟨off + 1, ⟨_, _, _, by omega, HCUT.out.2 hc1, num_i64 (by have := HPP.out; omega), rfl⟩, HNX.out⟩, by simp [intOf]; exact HME.out⟩
                          · have HOUT : Hid (off = R) := Lib.hid (by
                              rw [← HRU.out]
                              exact (run_stop (by rw [← HX.out]; exact hd)).symm)
                            have hd2 : (x : Int) < 48 ∨ ((48 : Int) ≤ (x : Int) ∧ 57 < (x : Int)) := by unfold dg at hd; omega
                            clear hd
                            rcases hd2 with e0 | ⟨e0, e1⟩
                            · have e2 : ¬ (48 : Int) ≤ (x : Int) := by omega
                              go_wp2_with (first | go_meet | fail)
                              exact ⟨off, ⟨off, n, c, hp, HI.out, by rw [HUU.out], rfl⟩, by rw [HOUT.out]; exact HPE.out⟩
                            · have e2 : ¬ (x : Int) ≤ 57 := by omega
                              go_wp2_with (first | go_meet | fail)
                              exact ⟨off, ⟨off, n, c, hp, HI.out, by rw [HUU.out], rfl⟩, by rw [HOUT.out]; exact HPE.out⟩
                    · go_wp2_with (first | go_meet | fail)
                      clear m0 m1 m5 m6 m7 m8 z0 z1 cy
                      go_loop [4, 5] (fun v4 v5 => ∃ p, At b L cap P0 p v4 v5 ∧ run T p = R) (fun v4 _ => L - P0 - (intOf v4).toNat)
                      case atStart => exact HST.out
                      case round => as_aux_lemma =>
                        obtain ⟨p, ⟨off, n, c, hp, hi, rfl, rfl⟩, hrun⟩ := hrel
                        have HI := Lib.hid hi
                        have HRU := Lib.hid hrun
                        have j1 := hi.1
                        have j2 := hi.2.1
                        have j3 := hi.2.2.1
                        have hpP : (((p - P0 : Nat) : Int)) + 1 = ((p + 1 - P0 : Nat) : Int) := by omega
                        have HPP := Lib.hid hpP
                        have z0 : (0 : Int) ≤ ((p - P0 : Nat) : Int) := by omega
                        have z1 : ((p - P0 : Nat) : Int) ≤ 9223372036854775806 := by omega
                        obtain ⟨u, hu⟩ : ∃ u, u = p - P0 := ⟨_, rfl⟩
                        rw [← hu] at z0 z1 hpP HPP ⊢
                        have HUU := Lib.hid hu
                        clear hi hrun hpP hu
                        rcases Nat.eq_zero_or_pos n with hn0 | hn0
                        · have HOUT : Hid (p = R) := Lib.hid (by
                            rw [← HRU.out]
                            refine (run_stop (fun h => ?_)).symm
                            have := dg_lt h
                            have := HT.out
                            omega)
                          subst hn0
                          go_wp2_with (first | go_meet | fail)
                          exact ⟨p, ⟨off, 0, c, hp, HI.out, by rw [HUU.out], rfl⟩, by rw [HOUT.out]; exact HPE.out⟩
                        · have hpl2 : p < L := by omega
                          have cx := HR.out p hpl2
                          obtain ⟨hoff, hcc⟩ := HI.out.2.2.2 hn0
                          subst hoff
                          obtain ⟨x, hx⟩ : ∃ x, x = at_ T off := ⟨_, rfl⟩
                          rw [← hx] at cx
                          have HX := Lib.hid hx
                          have m0 : (0 : Int) < (n : Int) := by omega
                          have m1 : (1 : Int) ≤ (n : Int) := by omega
                          have m2 : (1 : Int) ≤ (c : Int) := by omega
                          have HN0 := Lib.hid hn0
                          have HME : Hid (L - P0 - (u + 1) < L - P0 - u) := Lib.hid (by have := HUU.out; omega)
                          clear hx hcc hn0 j1 j2 j3
                          by_cases hd : dg x
                          · have HNX : Hid (run T (off + 1) = R) := Lib.hid (by rw [← run_step (by rw [← HX.out]; exact hd)]; exact HRU.out)
                            obtain ⟨d0, d1⟩ := hd
                            have e0 : (48 : Int) ≤ (x : Int) := by omega
                            have e1 : (x : Int) ≤ 57 := by omega
                            have HCUT := Lib.hid (inAt_one HI.out HN0.out hL)
                            clear d0 d1
                            by_cases hc1 : c = 1
                            · obtain ⟨hcut1, hn1⟩ := HCUT.out.1 hc1
                              have HC1 := Lib.hid hcut1
                              subst hc1
                              subst hn1
                              clear hcut1
                              go_wp2_with (first | go_meet | fail)
                              exact ⟨⟨off + 1, ⟨_, _, _, by omega, HC1.out, num_i64 (by have := HPP.out; omega), rfl⟩, HNX.out⟩, by simp [intOf]; exact HME.out⟩
                            · go_wp2_with (first | go_meet | fail)
                              exact ⟨⟨off + 1, ⟨_, _, _, by omega, HCUT.out.2 hc1, num_i64 (by have := HPP.out; omega), rfl⟩, HNX.out⟩, by simp [intOf]; exact HME.out⟩
                          · have HOUT : Hid (off = R) := Lib.hid (by
                              rw [← HRU.out]
                              exact (run_stop (by rw [← HX.out]; exact hd)).symm)
                            have hd2 : (x : Int) < 48 ∨ ((48 : Int) ≤ (x : Int) ∧ 57 < (x : Int)) := by unfold dg at hd; omega
                            clear hd
                            rcases hd2 with e0 | ⟨e0, e1⟩
                            · have e2 : ¬ (48 : Int) ≤ (x : Int) := by omega
                              go_wp2_with (first | go_meet | fail)
                              exact ⟨off, ⟨off, n, c, hp, HI.out, by rw [HUU.out], rfl⟩, by rw [HOUT.out]; exact HPE.out⟩
                            · have e2 : ¬ (x : Int) ≤ 57 := by omega
                              go_wp2_with (first | go_meet | fail)
                              exact ⟨off, ⟨off, n, c, hp, HI.out, by rw [HUU.out], rfl⟩, by rw [HOUT.out]; exact HPE.out⟩
                · obtain ⟨R, hR⟩ : ∃ R, R = run T (off3 + 1) := ⟨_, rfl⟩
                  have HPE : Hid (pn T P0 = pnD T R) := Lib.hid (by rw [HPC.out, if_neg hsg, hR])
                  have HRR := Lib.hid hR
                  have e1 : ((y : Int) == 43) = false := by rw [beq_eq_false_iff_ne]; omega
                  have e2 : ((y : Int) == 45) = false := by rw [beq_eq_false_iff_ne]; omega
                  have HST : Hid (∃ p, At b L cap P0 p (.int .i64 ((u1 : Int) + 1)) (.slice (some ⟨b, off3 + 1, none⟩) (m3 - 1) (k3 - 1)) ∧ run T p = R) := Lib.hid ⟨off3 + 1, ⟨_, _, _, by omega, HI4.out, num_i64 HZ1.out, rfl⟩, HRR.out.symm⟩
                  clear hR hsg
                  go_wp2_with (first | go_meet | fail)
                  clear m0 m1 m5 m6 m7 m8 z0 z1 cy
                  go_loop [4, 5] (fun v4 v5 => ∃ p, At b L cap P0 p v4 v5 ∧ run T p = R) (fun v4 _ => L - P0 - (intOf v4).toNat)
                  case atStart => exact HST.out
                  case round => as_aux_lemma =>
                    obtain ⟨p, ⟨off, n, c, hp, hi, rfl, rfl⟩, hrun⟩ := hrel
                    have HI := Lib.hid hi
                    have HRU := Lib.hid hrun
                    have j1 := hi.1
                    have j2 := hi.2.1
                    have j3 := hi.2.2.1
                    have hpP : (((p - P0 : Nat) : Int)) + 1 = ((p + 1 - P0 : Nat) : Int) := by omega
                    have HPP := Lib.hid hpP
                    have z0 : (0 : Int) ≤ ((p - P0 : Nat) : Int) := by omega
                    have z1 : ((p - P0 : Nat) : Int) ≤ 9223372036854775806 := by omega
                    obtain ⟨u, hu⟩ : ∃ u, u = p - P0 := ⟨_, rfl⟩
                    rw [← hu] at z0 z1 hpP HPP ⊢
                    have HUU := Lib.hid hu
                    clear hi hrun hpP hu
                    rcases Nat.eq_zero_or_pos n with hn0 | hn0
                    · have HOUT : Hid (p = R) := Lib.hid (by
                        rw [← HRU.out]
                        refine (run_stop (fun h => ?_)).symm
                        have := dg_lt h
                        have := HT.out
                        omega)
                      subst hn0
                      go_wp2_with (first | go_meet | fail)
                      exact ⟨p, ⟨off, 0, c, hp, HI.out, by rw [HUU.out], rfl⟩, by rw [HOUT.out]; exact HPE.out⟩
                    · have hpl2 : p < L := by omega
                      have cx := HR.out p hpl2
                      obtain ⟨hoff, hcc⟩ := HI.out.2.2.2 hn0
                      subst hoff
                      obtain ⟨x, hx⟩ : ∃ x, x = at_ T off := ⟨_, rfl⟩
                      rw [← hx] at cx
                      have HX := Lib.hid hx
                      have m0 : (0 : Int) < (n : Int) := by omega
                      have m1 : (1 : Int) ≤ (n : Int) := by omega
                      have m2 : (1 : Int) ≤ (c : Int) := by omega
                      have HN0 := Lib.hid hn0
                      have HME : Hid (L - P0 - (u + 1) < L - P0 - u) := Lib.hid (by have := HUU.out; omega)
                      clear hx hcc hn0 j1 j2 j3
                      by_cases hd : dg x
                      · have HNX : Hid (run T (off + 1) = R) := Lib.hid (by rw [← run_step (by rw [← HX.out]; exact hd)]; exact HRU.out)
                        obtain ⟨d0, d1⟩ := hd
                        have e0 : (48 : Int) ≤ (x : Int) := by omega
                        have e1 : (x : Int) ≤ 57 := by omega
                        have HCUT := Lib.hid (inAt_one HI.out HN0.out hL)
                        clear d0 d1
                        by_cases hc1 : c = 1
                        · obtain ⟨hcut1, hn1⟩ := HCUT.out.1 hc1
                          have HC1 := Lib.hid hcut1
                          subst hc1
                          subst hn1
                          clear hcut1
                          go_wp2_with (first | go_meet | fail)
                          exact ⟨⟨off + 1, ⟨_, _, _, by omega, HC1.out, num_i64 (by have := HPP.out; omega), rfl⟩, HNX.out⟩, by simp [intOf]; exact HME.out⟩
                        · go_wp2_with (first | go_meet | fail)
                          exact ⟨⟨off + 1, ⟨_, _, _, by omega, HCUT.out.2 hc1, num_i64 (by have := HPP.out; omega), rfl⟩, HNX.out⟩, by simp [intOf]; exact HME.out⟩
                      · have HOUT : Hid (off = R) := Lib.hid (by
                          rw [← HRU.out]
                          exact (run_stop (by rw [← HX.out]; exact hd)).symm)
                        have hd2 : (x : Int) < 48 ∨ ((48 : Int) ≤ (x : Int) ∧ 57 < (x : Int)) := by unfold dg at hd; omega
                        clear hd
                        rcases hd2 with e0 | ⟨e0, e1⟩
                        · have e2 : ¬ (48 : Int) ≤ (x : Int) := by omega
                          go_wp2_with (first | go_meet | fail)
                          exact ⟨off, ⟨off, n, c, hp, HI.out, by rw [HUU.out], rfl⟩, by rw [HOUT.out]; exact HPE.out⟩
                        · have e2 : ¬ (x : Int) ≤ 57 := by omega
                          go_wp2_with (first | go_meet | fail)
                          exact ⟨off, ⟨off, n, c, hp, HI.out, by rw [HUU.out], rfl⟩, by rw [HOUT.out]; exact HPE.out⟩
            case rest => as_aux_lemma =>
              clear hp3 j1 j2 j3
              obtain ⟨p4, ⟨off4, m4, k4, hp4, hi4, rfl, rfl⟩, hpn4, rfl⟩ := hcut
              have HPN4 := Lib.hid hpn4
              have h41 := hi4.1
              have z0 : (0 : Int) ≤ ((p4 - P0 : Nat) : Int) := by omega
              obtain ⟨u4, hu4⟩ : ∃ u4, u4 = p4 - P0 := ⟨_, rfl⟩
              rw [← hu4] at z0 ⊢
              have HU4 := Lib.hid hu4
              clear hpn4 hi4 hu4
              by_cases hlt : p4 < L
              · have cx : w.cell? ⟨b, P0 + u4, none⟩ = some (.int .u8 ((at_ T p4 : Nat) : Int)) := by
                  rw [show P0 + u4 = p4 from by have := HU4.out; omega]; exact HR.out p4 hlt
                have k1 : (u4 : Int) < (N : Int) := by have := HU4.out; have := HPN.out; omega
                have k1' : u4 < N := by have := HU4.out; have := HPN.out; omega
                obtain ⟨y, hy⟩ : ∃ y, y = at_ T p4 := ⟨_, rfl⟩
                rw [← hy] at cx
                have HY := Lib.hid hy
                clear hy hlt h41
                obtain ⟨nb, hnb⟩ : ∃ nb : Bool, nb = decide (ndl y) := ⟨_, rfl⟩
                have HD : Hid (∀ w, Calls Tryz.prog 98 #[.int .u8 y] w fun e w' => e = .returned (.bool nb) ∧ w = w') := Lib.hid (fun w => by rw [hnb]; exact not_delim y w)
                have HNB := Lib.hid hnb
                clear hnb
                cases nb with
                | true =>
                  go_wp2_with ((with_reducible refine (HD.out _).mono ?_); rintro e w' ⟨rfl, rfl⟩)
                  go_ret2
                  unfold Says
                  rw [HPN4.out]
                  unfold pnD
                  rw [if_pos (by rw [← HY.out]; exact of_decide_eq_true HNB.out.symm)]
                  exact ⟨rfl, rfl⟩
                | false =>
                  go_wp2_with ((with_reducible refine (HD.out _).mono ?_); rintro e w' ⟨rfl, rfl⟩)
                  go_ret2
                  unfold Says
                  rw [HPN4.out]
                  unfold pnD
                  rw [if_neg (by rw [← HY.out]; exact of_decide_eq_false HNB.out.symm)]
                  exact ⟨by rw [HU4.out]; rfl, rfl⟩
              · have k1 : ¬ (u4 : Int) < (N : Int) := by have := HU4.out; have := HPN.out; omega
                have k1' : ¬ u4 < N := by have := HU4.out; have := HPN.out; omega
                have HND : Hid (¬ ndl (at_ T p4)) := Lib.hid (fun h => by
                  have : at_ T p4 = 0 := by
                    unfold at_
                    rw [List.getD_eq_getElem?_getD, List.getElem?_eq_none (by have := HT.out; omega)]; rfl
                  rw [this] at h
                  unfold ndl at h; omega)
                clear hlt h41
                go_wp2_with fail
                go_ret2
                unfold Says
                rw [HPN4.out]
                unfold pnD
                rw [if_neg HND.out]
                exact ⟨by rw [HU4.out]; rfl, rfl⟩

end Go.Proofs.YtdeehmjdbjlfkaaGreatDoor.jn
