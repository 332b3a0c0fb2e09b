/- json.parseNumberParts at a number. -/
import Derived.Test.YtdeehmjdbjlfkaaGreatDoorGe
namespace Go.Proofs.YtdeehmjdbjlfkaaGreatDoor.jn
open Go.RowKit Go.Proofs.YtdeehmjdbjlfkaaGreatDoor.js
set_option linter.unusedVariables false
set_option linter.unusedSimpArgs false

def iP (T : List UInt8) (P : Nat) : Nat := if at_ T P = 45 then P + 1 else P
def jP (T : List UInt8) (i : Nat) : Nat := if at_ T i = 48 then i + 1 else run T (i + 1)
def fP (T : List UInt8) (j : Nat) : Nat := if at_ T j = 46 ∧ dg (at_ T (j + 1)) then run T (j + 2) else j

def PartsV (b L : Nat) (T : List UInt8) (P0 : Nat) (v : Value) : Prop := ∃ I F X : Value,
  v = .agg #[.bool (decide (at_ T P0 = 45)), I, F, X] ∧
  SlOf b (iP T P0) (if at_ T (iP T P0) = 48 then 0 else jP T (iP T P0) - iP T P0) I ∧
  SlOf b (jP T (iP T P0) + 1) (tlen T (jP T (iP T P0) + 1) (fP T (jP T (iP T P0)) - (jP T (iP T P0) + 1))) F ∧
  SlOf b (fP T (jP T (iP T P0)) + 1) (L - (fP T (jP T (iP T P0)) + 1)) X

def Parts (b L : Nat) (T : List UInt8) (P0 : Nat) (e : Ending) : Prop := ∃ v, e = .returned (.tuple #[v, .bool true]) ∧ PartsV b L T P0 v

/-- The unread rest. -/
def At8 (b L cap : Nat) (p : Nat) (v : Value) : Prop := ∃ off n c, InAt b L cap p off n c ∧ v = .slice (some ⟨b, off, none⟩) n c

set_option maxHeartbeats 400000000 in
set_option maxRecDepth 100000 in
theorem parse_parts (b L cap P0 N C : Nat) (T : List UInt8) (hT : T.length = L) (hL : L ≤ cap) (hcap : cap ≤ 9223372036854775807) (hL47 : L ≤ 140737488355000) (hN : 1 ≤ N) (hPN : P0 + N = L) (hC : C = cap - P0) (hpn : pn T P0 = some L) (w : World) (hr : RowM w b 0 T) (hb : b < w.heap.size) :
    Calls Tryz.prog 80 #[.slice (some ⟨b, P0, none⟩) N C] w fun e w' => Parts b L T P0 e ∧ Below w.heap.size w w' := by
  have hin0 : InAt b L cap P0 P0 N C := ⟨hPN, by omega, by omega, fun _ => ⟨rfl, hC⟩⟩
  have HRW := Lib.hid hr
  have HPNS := Lib.hid hpn
  have HR := Lib.hid (fun p (hp : p < L) => cell_at hT hr hp)
  have HT := Lib.hid hT
  have hbne : ¬ b = w.heap.size := by omega
  have hbne2 : ¬ w.heap.size = b := by omega
  obtain ⟨neg, hneg⟩ : ∃ neg : Bool, neg = decide (at_ T P0 = 45) := ⟨_, rfl⟩
  have HNEG := Lib.hid hneg
  obtain ⟨i, hi⟩ : ∃ i, i = iP T P0 := ⟨_, rfl⟩
  obtain ⟨j, hj⟩ : ∃ j, j = jP T i := ⟨_, rfl⟩
  obtain ⟨f, hf⟩ : ∃ f, f = fP T j := ⟨_, rfl⟩
  have HPOS := Lib.hid (And.intro hi (And.intro hj hf))
  obtain ⟨ni, hni⟩ : ∃ ni, ni = if at_ T i = 48 then 0 else j - i := ⟨_, rfl⟩
  have HNI := Lib.hid hni
  have hE : pnE T i = some L := by rw [hi]; exact hpn
  have hE2 : (at_ T i = 48 ∨ (49 ≤ at_ T i ∧ at_ T i ≤ 57)) ∧ pnC T f = some L := by
    unfold pnE at hE
    rw [hf]; unfold fP
    rw [hj]; unfold jP
    by_cases h48 : at_ T i = 48
    · rw [if_pos h48] at hE ⊢
      exact ⟨.inl h48, hE⟩
    · rw [if_neg h48] at hE ⊢
      by_cases h9 : 49 ≤ at_ T i ∧ at_ T i ≤ 57
      · rw [if_pos h9] at hE
        exact ⟨.inr h9, hE⟩
      · rw [if_neg h9] at hE; cases hE
  have hD : ∀ p, pnD T p = some L → p = L := fun p h => by
    unfold pnD at h
    split at h
    · cases h
    · injection h
  have hiL : i < L := by
    rcases hE2.1 with h | h
    · have := at_lt (T := T) (p := i) (by omega); omega
    · have := at_lt (T := T) (p := i) (by omega); omega
  have HE2 := Lib.hid hE2
  have HDD := Lib.hid hD
  have n0 : (0 : Int) < (N : Int) := by omega
  have n1 : (1 : Int) ≤ (N : Int) := by omega
  have n2 : ((N : Int) == 0) = false := by rw [beq_eq_false_iff_ne]; omega
  have n3 : (1 : Int) ≤ (C : Int) := by omega
  have HIN0 := Lib.hid hin0
  have HPN := Lib.hid hPN
  have hPNl : P0 < L := by omega
  have cA : w.cell? ⟨b, P0, none⟩ = some (.int .u8 ((at_ T P0 : Nat) : Int)) := HR.out P0 hPNl
  obtain ⟨x0, hx0⟩ : ∃ x0, x0 = at_ T P0 := ⟨_, rfl⟩
  rw [← hx0] at cA
  have HX0 := Lib.hid hx0
  clear hx0 hr hT hin0 hC hpn hi hj hf hE hE2 hD hneg hni
  go_enter Tryz.func80, Tryz.ntmps80
  go_upto_if 20 with (fail)
  go_cut [4, 8] (fun v4 v8 wx => v4 = .bool neg ∧ At8 b L cap i v8 ∧ w.alloc (.cells #[.bool false, .slice none 0 0, .slice none 0 0, .slice none 0 0] 133) = wx)
  case first => as_aux_lemma =>
    by_cases h45 : x0 = 45
    · have e45 : ((x0 : Int) == 45) = true := by rw [h45]; rfl
      have hii : i = P0 + 1 := by rw [HPOS.out.1]; unfold iP; rw [if_pos (by rw [← HX0.out]; exact h45)]
      have hng : neg = true := by rw [HNEG.out]; exact decide_eq_true (by rw [← HX0.out]; exact h45)
      subst hng
      have hN1 : ¬ N = 1 := by omega
      have hC1 : ¬ C = 1 := by have := HIN0.out.2.1; omega
      have n4 : (((N : Int) - 1) == 0) = false := by rw [beq_eq_false_iff_ne]; omega
      have n5 : (((N - 1 : Nat) : Int) == 0) = false := by rw [beq_eq_false_iff_ne]; omega
      have HCU := Lib.hid ((inAt_one HIN0.out hN hL).2 hC1)
      have HII := Lib.hid hii
      clear h45 hii
      go_wp2_with (first | go_meet | fail)
      have HG : Hid (At8 b L cap i (.slice (some ⟨b, P0 + 1, none⟩) (N - 1) (C - 1))) := Lib.hid ⟨_, _, _, by rw [HII.out]; exact HCU.out, rfl⟩
      first | exact HG.out | exact ⟨rfl, HG.out⟩
    · have e45 : ((x0 : Int) == 45) = false := by rw [beq_eq_false_iff_ne]; omega
      have hii : i = P0 := by rw [HPOS.out.1]; unfold iP; rw [if_neg (by rw [← HX0.out]; exact h45)]
      have hng : neg = false := by rw [HNEG.out]; exact decide_eq_false (by rw [← HX0.out]; exact h45)
      subst hng
      have HII := Lib.hid hii
      clear h45 hii
      go_wp2_with (first | go_meet | fail)
      have HG : Hid (At8 b L cap i (.slice (some ⟨b, P0, none⟩) N C)) := Lib.hid ⟨_, _, _, by rw [HII.out]; exact HIN0.out, rfl⟩
      first | exact HG.out | exact ⟨rfl, HG.out⟩
  case rest => as_aux_lemma =>
    obtain ⟨rfl, ⟨off1, m1, k1, hi1, rfl⟩, rfl⟩ := hcut
    obtain ⟨ho1, hk1⟩ := hi1.2.2.2 (by have := hi1.1; omega)
    subst ho1
    have HI1 := Lib.hid hi1
    have j1 := hi1.1
    have j2 := hi1.2.1
    have j3 := hi1.2.2.1
    have cx1 := HR.out off1 hiL
    obtain ⟨x1, hx1⟩ : ∃ x1, x1 = at_ T off1 := ⟨_, rfl⟩
    rw [← hx1] at cx1
    have HX1 := Lib.hid hx1
    have m0 : (0 : Int) < (m1 : Int) := by omega
    have m2 : (1 : Int) ≤ (m1 : Int) := by omega
    have m3 : (1 : Int) ≤ (k1 : Int) := by omega
    have HM1 : Hid (1 ≤ m1) := Lib.hid (by omega)
    have HK1 : Hid (off1 + k1 = cap ∧ m1 ≤ k1) := Lib.hid ⟨by omega, j2⟩
    have HCUT1 := Lib.hid (inAt_one hi1 (by omega) hL)
    clear hi1 hx1 hk1 cA n0 n1 n2 n3 j1 j2 j3
    go_upto_block 0 with (fail)
    go_cut [5, 8] (fun v5 v8 wx => SlOf b off1 ni v5 ∧ At8 b L cap j v8 ∧ w.alloc (.cells #[.bool false, .slice none 0 0, .slice none 0 0, .slice none 0 0] 133) = wx)
    case first => as_aux_lemma =>
      by_cases h48 : x1 = 48
      · have e48 : ((x1 : Int) == 48) = true := by rw [h48]; rfl
        have HJ : Hid (j = off1 + 1 ∧ at_ T off1 = 48) := Lib.hid ⟨by rw [HPOS.out.2.1]; unfold jP; rw [if_pos (by rw [← HX1.out]; exact h48)], by rw [← HX1.out]; exact h48⟩
        clear h48
        by_cases hc1 : k1 = 1
        · obtain ⟨hcut1, hn1⟩ := HCUT1.out.1 hc1
          have HC1 := Lib.hid hcut1
          subst hc1
          subst hn1
          clear hcut1
          go_wp2_with (first | go_meet | fail)
          exact ⟨by rw [HNI.out, if_pos HJ.out.2]; exact slOf_nil _ _, _, _, _, by rw [HJ.out.1]; exact HC1.out, rfl⟩
        · go_wp2_with (first | go_meet | fail)
          exact ⟨by rw [HNI.out, if_pos HJ.out.2]; exact slOf_nil _ _, _, _, _, by rw [HJ.out.1]; exact HCUT1.out.2 hc1, rfl⟩
      · have e48 : ((x1 : Int) == 48) = false := by rw [beq_eq_false_iff_ne]; omega
        have hdd : 49 ≤ x1 ∧ x1 ≤ 57 := by
          rcases HE2.out.1 with h | h
          · rw [← HX1.out] at h; exact absurd h h48
          · rw [← HX1.out] at h; exact h
        obtain ⟨R, hR⟩ : ∃ R, R = run T (off1 + 1) := ⟨_, rfl⟩
        have HPE : Hid (j = R ∧ ¬ at_ T off1 = 48) := Lib.hid ⟨by rw [HPOS.out.2.1, hR]; unfold jP; rw [if_neg (by rw [← HX1.out]; exact h48)], by rw [← HX1.out]; exact h48⟩
        have HRR := Lib.hid hR
        obtain ⟨d0, d1⟩ := hdd
        have e0 : (49 : Int) ≤ (x1 : Int) := by omega
        have e1 : (x1 : Int) ≤ 57 := by omega
        have HJB : Hid (off1 + k1 = cap ∧ L ≤ cap ∧ off1 ≤ L) := Lib.hid ⟨HK1.out.1, hL, by omega⟩
        clear h48 d0 d1 hR
        by_cases hc1 : k1 = 1
        · obtain ⟨hcut1, hn1⟩ := HCUT1.out.1 hc1
          have HC1 := Lib.hid hcut1
          subst hc1
          subst hn1
          clear hcut1
          have HST : Hid (∃ p, At b L cap off1 p (.int .i64 1) (.slice (some ⟨b, off1, none⟩) 0 0) ∧ run T p = R) := Lib.hid ⟨off1 + 1, ⟨_, _, _, by omega, HC1.out, num_i64 (by omega), rfl⟩, HRR.out.symm⟩
          go_wp2_with (first | go_meet | fail)
          clear cx1 m0 m2 m3 e0 e1 e48
          go_loop [8, 9] (fun v8 v9 => ∃ p, At b L cap off1 p v9 v8 ∧ run T p = R) (fun _ v9 => L - off1 - (intOf v9).toNat)
          case atStart => exact HST.out
          case round => as_aux_lemma =>
            obtain ⟨p, ⟨off, n, c, hp, hi, rfl, rfl⟩, hrun⟩ := hrel
            have HI := Lib.hid hi
            have HRU := Lib.hid hrun
            have j1 := hi.1
            have j2 := hi.2.1
            have j3 := hi.2.2.1
            have hpP : (((p - off1 : Nat) : Int)) + 1 = ((p + 1 - off1 : Nat) : Int) := by omega
            have HPP := Lib.hid hpP
            have z0 : (0 : Int) ≤ ((p - off1 : Nat) : Int) := by omega
            have z1 : ((p - off1 : Nat) : Int) ≤ 9223372036854775806 := by omega
            obtain ⟨u, hu⟩ : ∃ u, u = p - off1 := ⟨_, rfl⟩
            rw [← hu] at z0 z1 hpP HPP ⊢
            have HUU := Lib.hid hu
            clear hi hrun hpP hu
            rcases Nat.eq_zero_or_pos n with hn0 | hn0
            · have HOUT : Hid (p = R) := Lib.hid (by
                rw [← HRU.out]
                refine (run_stop (fun h => ?_)).symm
                have := dg_lt h
                have := HT.out
                omega)
              subst hn0
              have sl0 : (u : Int) ≤ ((1 : Nat) : Int) := by have := HUU.out; have := HI.out.1; have := HJB.out; omega
              go_wp2_with (first | go_meet | fail)
              have hsl0 := HUU.out
              exact ⟨by rw [HNI.out, if_neg HPE.out.2, HPE.out.1, ← HOUT.out]; exact ⟨_, _, by rw [hsl0], by have := HK1.out; have := HI.out.1; omega, by have := HK1.out; omega, fun _ => rfl⟩, _, _, _, by rw [HPE.out.1, ← HOUT.out]; exact HI.out, rfl⟩
            · have hpl2 : p < L := by omega
              have cx := HR.out p hpl2
              obtain ⟨hoff, hcc⟩ := HI.out.2.2.2 hn0
              subst hoff
              obtain ⟨x, hx⟩ : ∃ x, x = at_ T off := ⟨_, rfl⟩
              rw [← hx] at cx
              have HX := Lib.hid hx
              have m0 : (0 : Int) < (n : Int) := by omega
              have m1 : (1 : Int) ≤ (n : Int) := by omega
              have m2 : (1 : Int) ≤ (c : Int) := by omega
              have HN0 := Lib.hid hn0
              have HME : Hid (L - off1 - (u + 1) < L - off1 - u) := Lib.hid (by have := HUU.out; omega)
              clear hx hcc hn0 j1 j2 j3
              by_cases hd : dg x
              · have HNX : Hid (run T (off + 1) = R) := Lib.hid (by rw [← run_step (by rw [← HX.out]; exact hd)]; exact HRU.out)
                obtain ⟨d0, d1⟩ := hd
                have e0 : (48 : Int) ≤ (x : Int) := by omega
                have e1 : (x : Int) ≤ 57 := by omega
                have HCUT := Lib.hid (inAt_one HI.out HN0.out hL)
                clear d0 d1
                by_cases hc1 : c = 1
                · obtain ⟨hcut1, hn1⟩ := HCUT.out.1 hc1
                  have HC1 := Lib.hid hcut1
                  subst hc1
                  subst hn1
                  clear hcut1
                  go_wp2_with (first | go_meet | fail)
                  exact ⟨⟨off + 1, ⟨_, _, _, by omega, HC1.out, num_i64 (by have := HPP.out; omega), rfl⟩, HNX.out⟩, by simp [intOf]; exact HME.out⟩
                · go_wp2_with (first | go_meet | fail)
                  exact ⟨⟨off + 1, ⟨_, _, _, by omega, HCUT.out.2 hc1, num_i64 (by have := HPP.out; omega), rfl⟩, HNX.out⟩, by simp [intOf]; exact HME.out⟩
              · have HOUT : Hid (off = R) := Lib.hid (by
                  rw [← HRU.out]
                  exact (run_stop (by rw [← HX.out]; exact hd)).symm)
                have hd2 : (x : Int) < 48 ∨ ((48 : Int) ≤ (x : Int) ∧ 57 < (x : Int)) := by unfold dg at hd; omega
                clear hd
                rcases hd2 with e0 | ⟨e0, e1⟩
                · have e2 : ¬ (48 : Int) ≤ (x : Int) := by omega
                  have sl0 : (u : Int) ≤ ((1 : Nat) : Int) := by have := HUU.out; have := HI.out.1; have := HJB.out; omega
                  go_wp2_with (first | go_meet | fail)
                  have hsl0 := HUU.out
                  exact ⟨by rw [HNI.out, if_neg HPE.out.2, HPE.out.1, ← HOUT.out]; exact ⟨_, _, by rw [hsl0], by have := HK1.out; have := HI.out.1; omega, by have := HK1.out; omega, fun _ => rfl⟩, _, _, _, by rw [HPE.out.1, ← HOUT.out]; exact HI.out, rfl⟩
                · have e2 : ¬ (x : Int) ≤ 57 := by omega
                  have sl0 : (u : Int) ≤ ((1 : Nat) : Int) := by have := HUU.out; have := HI.out.1; have := HJB.out; omega
                  go_wp2_with (first | go_meet | fail)
                  have hsl0 := HUU.out
                  exact ⟨by rw [HNI.out, if_neg HPE.out.2, HPE.out.1, ← HOUT.out]; exact ⟨_, _, by rw [hsl0], by have := HK1.out; have := HI.out.1; omega, by have := HK1.out; omega, fun _ => rfl⟩, _, _, _, by rw [HPE.out.1, ← HOUT.out]; exact HI.out, rfl⟩
        · have HST : Hid (∃ p, At b L cap off1 p (.int .i64 1) (.slice (some ⟨b, off1 + 1, none⟩) (m1 - 1) (k1 - 1)) ∧ run T p = R) := Lib.hid ⟨off1 + 1, ⟨_, _, _, by omega, HCUT1.out.2 hc1, num_i64 (by omega), rfl⟩, HRR.out.symm⟩
          go_wp2_with (first | go_meet | fail)
          clear cx1 m0 m2 m3 e0 e1 e48
          go_loop [8, 9] (fun v8 v9 => ∃ p, At b L cap off1 p v9 v8 ∧ run T p = R) (fun _ v9 => L - off1 - (intOf v9).toNat)
          case atStart => exact HST.out
          case round => as_aux_lemma =>
            obtain ⟨p, ⟨off, n, c, hp, hi, rfl, rfl⟩, hrun⟩ := hrel
            have HI := Lib.hid hi
            have HRU := Lib.hid hrun
            have j1 := hi.1
            have j2 := hi.2.1
            have j3 := hi.2.2.1
            have hpP : (((p - off1 : Nat) : Int)) + 1 = ((p + 1 - off1 : Nat) : Int) := by omega
            have HPP := Lib.hid hpP
            have z0 : (0 : Int) ≤ ((p - off1 : Nat) : Int) := by omega
            have z1 : ((p - off1 : Nat) : Int) ≤ 9223372036854775806 := by omega
            obtain ⟨u, hu⟩ : ∃ u, u = p - off1 := ⟨_, rfl⟩
            rw [← hu] at z0 z1 hpP HPP ⊢
            have HUU := Lib.hid hu
            clear hi hrun hpP hu
            rcases Nat.eq_zero_or_pos n with hn0 | hn0
            · have HOUT : Hid (p = R) := Lib.hid (by
                rw [← HRU.out]
                refine (run_stop (fun h => ?_)).symm
                have := dg_lt h
                have := HT.out
                omega)
              subst hn0
              have sl0 : (u : Int) ≤ (k1 : Int) := by have := HUU.out; have := HI.out.1; have := HJB.out; omega
              go_wp2_with (first | go_meet | fail)
              have hsl0 := HUU.out
              exact ⟨by rw [HNI.out, if_neg HPE.out.2, HPE.out.1, ← HOUT.out]; exact ⟨_, _, by rw [hsl0], by have := HK1.out; have := HI.out.1; omega, by have := HK1.out; omega, fun _ => rfl⟩, _, _, _, by rw [HPE.out.1, ← HOUT.out]; exact HI.out, rfl⟩
            · have hpl2 : p < L := by omega
              have cx := HR.out p hpl2
              obtain ⟨hoff, hcc⟩ := HI.out.2.2.2 hn0
              subst hoff
              obtain ⟨x, hx⟩ : ∃ x, x = at_ T off := ⟨_, rfl⟩
              rw [← hx] at cx
              have HX := Lib.hid hx
              have m0 : (0 : Int) < (n : Int) := by omega
              have m1 : (1 : Int) ≤ (n : Int) := by omega
              have m2 : (1 : Int) ≤ (c : Int) := by omega
              have HN0 := Lib.hid hn0
              have HME : Hid (L - off1 - (u + 1) < L - off1 - u) := Lib.hid (by have := HUU.out; omega)
              clear hx hcc hn0 j1 j2 j3
              by_cases hd : dg x
              · have HNX : Hid (run T (off + 1) = R) := Lib.hid (by rw [← run_step (by rw [← HX.out]; exact hd)]; exact HRU.out)
                obtain ⟨d0, d1⟩ := hd
                have e0 : (48 : Int) ≤ (x : Int) := by omega
                have e1 : (x : Int) ≤ 57 := by omega
                have HCUT := Lib.hid (inAt_one HI.out HN0.out hL)
                clear d0 d1
                by_cases hc1 : c = 1
                · obtain ⟨hcut1, hn1⟩ := HCUT.out.1 hc1
                  have HC1 := Lib.hid hcut1
                  subst hc1
                  subst hn1
                  clear hcut1
                  go_wp2_with (first | go_meet | fail)
                  exact ⟨⟨off + 1, ⟨_, _, _, by omega, HC1.out, num_i64 (by have := HPP.out; omega), rfl⟩, HNX.out⟩, by simp [intOf]; exact HME.out⟩
                · go_wp2_with (first | go_meet | fail)
                  exact ⟨⟨off + 1, ⟨_, _, _, by omega, HCUT.out.2 hc1, num_i64 (by have := HPP.out; omega), rfl⟩, HNX.out⟩, by simp [intOf]; exact HME.out⟩
              · have HOUT : Hid (off = R) := Lib.hid (by
                  rw [← HRU.out]
                  exact (run_stop (by rw [← HX.out]; exact hd)).symm)
                have hd2 : (x : Int) < 48 ∨ ((48 : Int) ≤ (x : Int) ∧ 57 < (x : Int)) := by unfold dg at hd; omega
                clear hd
                rcases hd2 with e0 | ⟨e0, e1⟩
                · have e2 : ¬ (48 : Int) ≤ (x : Int) := by omega
                  have sl0 : (u : Int) ≤ (k1 : Int) := by have := HUU.out; have := HI.out.1; have := HJB.out; omega
                  go_wp2_with (first | go_meet | fail)
                  have hsl0 := HUU.out
                  exact ⟨by rw [HNI.out, if_neg HPE.out.2, HPE.out.1, ← HOUT.out]; exact ⟨_, _, by rw [hsl0], by have := HK1.out; have := HI.out.1; omega, by have := HK1.out; omega, fun _ => rfl⟩, _, _, _, by rw [HPE.out.1, ← HOUT.out]; exact HI.out, rfl⟩
                · have e2 : ¬ (x : Int) ≤ 57 := by omega
                  have sl0 : (u : Int) ≤ (k1 : Int) := by have := HUU.out; have := HI.out.1; have := HJB.out; omega
                  go_wp2_with (first | go_meet | fail)
                  have hsl0 := HUU.out
                  exact ⟨by rw [HNI.out, if_neg HPE.out.2, HPE.out.1, ← HOUT.out]; exact ⟨_, _, by rw [hsl0], by have := HK1.out; have := HI.out.1; omega, by have := HK1.out; omega, fun _ => rfl⟩, _, _, _, by rw [HPE.out.1, ← HOUT.out]; exact HI.out, rfl⟩
    case rest => as_aux_lemma =>
      clear cx1 m0 m2 m3
      obtain ⟨hI, ⟨off2, m2, k2, hi2, rfl⟩, rfl⟩ := hcut
      have HII := Lib.hid hI
      obtain ⟨ai, ci, rfl, _, _, _⟩ := hI
      have HI2 := Lib.hid hi2
      have j1 := hi2.1
      have j2 := hi2.2.1
      have j3 := hi2.2.2.1
      obtain ⟨fr, hfr⟩ : ∃ fr : Bool, fr = decide (at_ T j = 46 ∧ dg (at_ T (j + 1))) := ⟨_, rfl⟩
      have HFR := Lib.hid hfr
      have HOF : Hid (0 < m2 → off2 = j ∧ k2 = cap - j) := Lib.hid hi2.2.2.2
      obtain ⟨nf, hnf⟩ : ∃ nf, nf = f - (j + 1) := ⟨_, rfl⟩
      have HNF := Lib.hid hnf
      clear hi2 hfr hnf
      go_upto_region 24 with (fail)
      go_cut [91] (fun v91 wx => v91 = .bool fr ∧ (fr = true → 2 ≤ m2) ∧ w.alloc (.cells #[.bool false, .slice none 0 0, .slice none 0 0, .slice none 0 0] 133) = wx)
      case first => as_aux_lemma =>
        have hfr := HFR.out
        rcases (by omega : m2 = 0 ∨ m2 = 1 ∨ 2 ≤ m2) with h | h | h
        · subst h
          have hf : fr = false := by
            rw [hfr]; refine decide_eq_false (fun hc => ?_)
            have := dg_lt hc.2
            have := HT.out
            omega
          subst hf
          clear hfr
          go_wp2_with (first | go_meet | fail)
          all_goals exact ⟨rfl, fun h => by cases h⟩
        · subst h
          obtain ⟨rfl, hk⟩ := HOF.out (by omega)
          have cx := HR.out off2 (by omega)
          have hf : fr = false := by
            rw [hfr]; refine decide_eq_false (fun hc => ?_)
            have := dg_lt hc.2
            have := HT.out
            omega
          subst hf
          clear hfr hk
          go_wp2_with (first | go_meet | fail)
          all_goals exact ⟨rfl, fun h => by cases h⟩
        · obtain ⟨rfl, hk⟩ := HOF.out (by omega)
          have cx := HR.out off2 (by omega)
          have cy := HR.out (off2 + 1) (by omega)
          obtain ⟨x, hx⟩ : ∃ x, x = at_ T off2 := ⟨_, rfl⟩
          obtain ⟨y, hy⟩ : ∃ y, y = at_ T (off2 + 1) := ⟨_, rfl⟩
          rw [← hx] at cx hfr
          rw [← hy] at cy hfr
          have m0 : (2 : Int) ≤ (m2 : Int) := by omega
          have m1 : (0 : Int) < (m2 : Int) := by omega
          have m3 : (1 : Int) < (m2 : Int) := by omega
          have H2 : Hid (2 ≤ m2) := Lib.hid h
          clear hx hy hk h
          by_cases h46 : x = 46
          · have e46 : ((x : Int) == 46) = true := by rw [h46]; rfl
            by_cases hd : dg y
            · have hf : fr = true := by rw [hfr]; exact decide_eq_true ⟨h46, hd⟩
              obtain ⟨d0, d1⟩ := hd
              have e0 : (48 : Int) ≤ (y : Int) := by omega
              have e1 : (y : Int) ≤ 57 := by omega
              subst hf
              clear hfr h46 d0 d1
              go_wp2_with (first | go_meet | fail)
              all_goals first | exact H2.out | exact ⟨rfl, fun _ => H2.out⟩
            · have hf : fr = false := by rw [hfr]; exact decide_eq_false (fun hc => hd hc.2)
              have hd2 : (y : Int) < 48 ∨ ((48 : Int) ≤ (y : Int) ∧ 57 < (y : Int)) := by unfold dg at hd; omega
              subst hf
              clear hfr h46 hd
              rcases hd2 with e0 | ⟨e0, e1⟩
              · have e2 : ¬ (48 : Int) ≤ (y : Int) := by omega
                go_wp2_with (first | go_meet | fail)
                all_goals exact ⟨rfl, fun h => by cases h⟩
              · have e2 : ¬ (y : Int) ≤ 57 := by omega
                go_wp2_with (first | go_meet | fail)
                all_goals exact ⟨rfl, fun h => by cases h⟩
          · have e46 : ((x : Int) == 46) = false := by rw [beq_eq_false_iff_ne]; omega
            have hf : fr = false := by rw [hfr]; exact decide_eq_false (fun hc => h46 hc.1)
            subst hf
            clear hfr h46
            go_wp2_with (first | go_meet | fail)
            all_goals exact ⟨rfl, fun h => by cases h⟩
      case rest => as_aux_lemma =>
        obtain ⟨rfl, hm2, rfl⟩ := hcut
        have HM2 := Lib.hid hm2
        clear hm2
        go_upto_if 91 with (fail)
        go_cut [6, 8] (fun v6 v8 wx => SlOf b (j + 1) nf v6 ∧ At8 b L cap f v8 ∧ w.alloc (.cells #[.bool false, .slice none 0 0, .slice none 0 0, .slice none 0 0] 133) = wx)
        case first => as_aux_lemma =>
          cases fr with
          | false =>
            have HF0 : Hid (f = j) := Lib.hid (by rw [HPOS.out.2.2]; unfold fP; rw [if_neg (of_decide_eq_false HFR.out.symm)])
            go_wp2_with (first | go_meet | fail)
            exact ⟨by rw [HNF.out, HF0.out, show j - (j + 1) = 0 from by omega]; exact slOf_nil _ _, _, _, _, by rw [HF0.out]; exact HI2.out, rfl⟩
          | true =>
            have h2 := HM2.out rfl
            obtain ⟨rfl, hk⟩ := HOF.out (by omega)
            obtain ⟨R, hR⟩ : ∃ R, R = run T (off2 + 2) := ⟨_, rfl⟩
            have HPE : Hid (f = R) := Lib.hid (by rw [HPOS.out.2.2, hR]; unfold fP; rw [if_pos (of_decide_eq_true HFR.out.symm)])
            have HRR := Lib.hid hR
            have m0 : (2 : Int) ≤ (m2 : Int) := by omega
            have m1 : (2 : Int) ≤ (k2 : Int) := by omega
            have m3 : (1 : Int) ≤ (m2 : Int) := by omega
            have m4 : (1 : Int) ≤ (k2 : Int) := by omega
            have m5 : ¬ k2 = 1 := by omega
            have HJB : Hid (off2 + 1 + (k2 - 1) = cap ∧ L ≤ cap ∧ off2 + 1 ≤ L) := Lib.hid ⟨by omega, hL, by omega⟩
            clear hR
            by_cases hc2 : k2 = 2
            · have HC2 := Lib.hid (inAt_end HI2.out h2 hc2)
              obtain rfl : m2 = 2 := by omega
              subst hc2
              have HST : Hid (∃ p, At b L cap (off2 + 1) p (.int .i64 1) (.slice (some ⟨b, off2, none⟩) 0 0) ∧ run T p = R) := Lib.hid ⟨off2 + 2, ⟨_, _, _, by omega, HC2.out, num_i64 (by omega), rfl⟩, HRR.out.symm⟩
              clear h2 hk
              go_wp2_with (first | go_meet | fail)
              clear m0 m1 m3 m4 m5
              go_loop [8, 10] (fun v8 v10 => ∃ p, At b L cap (off2 + 1) p v10 v8 ∧ run T p = R) (fun _ v10 => L - (off2 + 1) - (intOf v10).toNat)
              case atStart => exact HST.out
              case round => as_aux_lemma =>
                obtain ⟨p, ⟨off, n, c, hp, hi, rfl, rfl⟩, hrun⟩ := hrel
                have HI := Lib.hid hi
                have HRU := Lib.hid hrun
                have j1 := hi.1
                have j2 := hi.2.1
                have j3 := hi.2.2.1
                have hpP : (((p - (off2 + 1) : Nat) : Int)) + 1 = ((p + 1 - (off2 + 1) : Nat) : Int) := by omega
                have HPP := Lib.hid hpP
                have z0 : (0 : Int) ≤ ((p - (off2 + 1) : Nat) : Int) := by omega
                have z1 : ((p - (off2 + 1) : Nat) : Int) ≤ 9223372036854775806 := by omega
                obtain ⟨u, hu⟩ : ∃ u, u = p - (off2 + 1) := ⟨_, rfl⟩
                rw [← hu] at z0 z1 hpP HPP ⊢
                have HUU := Lib.hid hu
                clear hi hrun hpP hu
                rcases Nat.eq_zero_or_pos n with hn0 | hn0
                · have HOUT : Hid (p = R) := Lib.hid (by
                    rw [← HRU.out]
                    refine (run_stop (fun h => ?_)).symm
                    have := dg_lt h
                    have := HT.out
                    omega)
                  subst hn0
                  have sl0 : (u : Int) ≤ (1 : Int) := by have := HUU.out; have := HI.out.1; have := HJB.out; omega
                  go_wp2_with (first | go_meet | fail)
                  have hsl0 := HUU.out
                  exact ⟨by rw [HNF.out, HPE.out, ← HOUT.out]; exact ⟨_, _, by rw [hsl0], by have := HJB.out; have := HI.out.1; omega, by have := HJB.out; omega, fun _ => rfl⟩, _, _, _, by rw [HPE.out, ← HOUT.out]; exact HI.out, rfl⟩
                · have hpl2 : p < L := by omega
                  have cx := HR.out p hpl2
                  obtain ⟨hoff, hcc⟩ := HI.out.2.2.2 hn0
                  subst hoff
                  obtain ⟨x, hx⟩ : ∃ x, x = at_ T off := ⟨_, rfl⟩
                  rw [← hx] at cx
                  have HX := Lib.hid hx
                  have m0 : (0 : Int) < (n : Int) := by omega
                  have m1 : (1 : Int) ≤ (n : Int) := by omega
                  have m2 : (1 : Int) ≤ (c : Int) := by omega
                  have HN0 := Lib.hid hn0
                  have HME : Hid (L - (off2 + 1) - (u + 1) < L - (off2 + 1) - u) := Lib.hid (by have := HUU.out; omega)
                  clear hx hcc hn0 j1 j2 j3
                  by_cases hd : dg x
                  · have HNX : Hid (run T (off + 1) = R) := Lib.hid (by rw [← run_step (by rw [← HX.out]; exact hd)]; exact HRU.out)
                    obtain ⟨d0, d1⟩ := hd
                    have e0 : (48 : Int) ≤ (x : Int) := by omega
                    have e1 : (x : Int) ≤ 57 := by omega
                    have HCUT := Lib.hid (inAt_one HI.out HN0.out hL)
                    clear d0 d1
                    by_cases hc1 : c = 1
                    · obtain ⟨hcut1, hn1⟩ := HCUT.out.1 hc1
                      have HC1 := Lib.hid hcut1
                      subst hc1
                      subst hn1
                      clear hcut1
                      go_wp2_with (first | go_meet | fail)
                      exact ⟨⟨off + 1, ⟨_, _, _, by omega, HC1.out, num_i64 (by have := HPP.out; omega), rfl⟩, HNX.out⟩, by simp [intOf]; exact HME.out⟩
                    · go_wp2_with (first | go_meet | fail)
                      exact ⟨⟨off + 1, ⟨_, _, _, by omega, HCUT.out.2 hc1, num_i64 (by have := HPP.out; omega), rfl⟩, HNX.out⟩, by simp [intOf]; exact HME.out⟩
                  · have HOUT : Hid (off = R) := Lib.hid (by
                      rw [← HRU.out]
                      exact (run_stop (by rw [← HX.out]; exact hd)).symm)
                    have hd2 : (x : Int) < 48 ∨ ((48 : Int) ≤ (x : Int) ∧ 57 < (x : Int)) := by unfold dg at hd; omega
                    clear hd
                    rcases hd2 with e0 | ⟨e0, e1⟩
                    · have e2 : ¬ (48 : Int) ≤ (x : Int) := by omega
                      have sl0 : (u : Int) ≤ (1 : Int) := by have := HUU.out; have := HI.out.1; have := HJB.out; omega
                      go_wp2_with (first | go_meet | fail)
                      have hsl0 := HUU.out
                      exact ⟨by rw [HNF.out, HPE.out, ← HOUT.out]; exact ⟨_, _, by rw [hsl0], by have := HJB.out; have := HI.out.1; omega, by have := HJB.out; omega, fun _ => rfl⟩, _, _, _, by rw [HPE.out, ← HOUT.out]; exact HI.out, rfl⟩
                    · have e2 : ¬ (x : Int) ≤ 57 := by omega
                      have sl0 : (u : Int) ≤ (1 : Int) := by have := HUU.out; have := HI.out.1; have := HJB.out; omega
                      go_wp2_with (first | go_meet | fail)
                      have hsl0 := HUU.out
                      exact ⟨by rw [HNF.out, HPE.out, ← HOUT.out]; exact ⟨_, _, by rw [hsl0], by have := HJB.out; have := HI.out.1; omega, by have := HJB.out; omega, fun _ => rfl⟩, _, _, _, by rw [HPE.out, ← HOUT.out]; exact HI.out, rfl⟩
            · have HC2 := Lib.hid (inAt_cut HI2.out h2 hL)
              have HST : Hid (∃ p, At b L cap (off2 + 1) p (.int .i64 1) (.slice (some ⟨b, off2 + 2, none⟩) (m2 - 2) (k2 - 2)) ∧ run T p = R) := Lib.hid ⟨off2 + 2, ⟨_, _, _, by omega, HC2.out, num_i64 (by omega), rfl⟩, HRR.out.symm⟩
              clear h2 hk
              go_wp2_with (first | go_meet | fail)
              clear m0 m1 m3 m4 m5
              go_loop [8, 10] (fun v8 v10 => ∃ p, At b L cap (off2 + 1) p v10 v8 ∧ run T p = R) (fun _ v10 => L - (off2 + 1) - (intOf v10).toNat)
              case atStart => exact HST.out
              case round => as_aux_lemma =>
                obtain ⟨p, ⟨off, n, c, hp, hi, rfl, rfl⟩, hrun⟩ := hrel
                have HI := Lib.hid hi
                have HRU := Lib.hid hrun
                have j1 := hi.1
                have j2 := hi.2.1
                have j3 := hi.2.2.1
                have hpP : (((p - (off2 + 1) : Nat) : Int)) + 1 = ((p + 1 - (off2 + 1) : Nat) : Int) := by omega
                have HPP := Lib.hid hpP
                have z0 : (0 : Int) ≤ ((p - (off2 + 1) : Nat) : Int) := by omega
                have z1 : ((p - (off2 + 1) : Nat) : Int) ≤ 9223372036854775806 := by omega
                obtain ⟨u, hu⟩ : ∃ u, u = p - (off2 + 1) := ⟨_, rfl⟩
                rw [← hu] at z0 z1 hpP HPP ⊢
                have HUU := Lib.hid hu
                clear hi hrun hpP hu
                rcases Nat.eq_zero_or_pos n with hn0 | hn0
                · have HOUT : Hid (p = R) := Lib.hid (by
                    rw [← HRU.out]
                    refine (run_stop (fun h => ?_)).symm
                    have := dg_lt h
                    have := HT.out
                    omega)
                  subst hn0
                  have sl0 : (u : Int) ≤ ((k2 - 1 : Nat) : Int) := by have := HUU.out; have := HI.out.1; have := HJB.out; omega
                  go_wp2_with (first | go_meet | fail)
                  have hsl0 := HUU.out
                  exact ⟨by rw [HNF.out, HPE.out, ← HOUT.out]; exact ⟨_, _, by rw [hsl0], by have := HJB.out; have := HI.out.1; omega, by have := HJB.out; omega, fun _ => rfl⟩, _, _, _, by rw [HPE.out, ← HOUT.out]; exact HI.out, rfl⟩
                · have hpl2 : p < L := by omega
                  have cx := HR.out p hpl2
                  obtain ⟨hoff, hcc⟩ := HI.out.2.2.2 hn0
                  subst hoff
                  obtain ⟨x, hx⟩ : ∃ x, x = at_ T off := ⟨_, rfl⟩
                  rw [← hx] at cx
                  have HX := Lib.hid hx
                  have m0 : (0 : Int) < (n : Int) := by omega
                  have m1 : (1 : Int) ≤ (n : Int) := by omega
                  have m2 : (1 : Int) ≤ (c : Int) := by omega
                  have HN0 := Lib.hid hn0
                  have HME : Hid (L - (off2 + 1) - (u + 1) < L - (off2 + 1) - u) := Lib.hid (by have := HUU.out; omega)
                  clear hx hcc hn0 j1 j2 j3
                  by_cases hd : dg x
                  · have HNX : Hid (run T (off + 1) = R) := Lib.hid (by rw [← run_step (by rw [← HX.out]; exact hd)]; exact HRU.out)
                    obtain ⟨d0, d1⟩ := hd
                    have e0 : (48 : Int) ≤ (x : Int) := by omega
                    have e1 : (x : Int) ≤ 57 := by omega
                    have HCUT := Lib.hid (inAt_one HI.out HN0.out hL)
                    clear d0 d1
                    by_cases hc1 : c = 1
                    · obtain ⟨hcut1, hn1⟩ := HCUT.out.1 hc1
                      have HC1 := Lib.hid hcut1
                      subst hc1
                      subst hn1
                      clear hcut1
                      go_wp2_with (first | go_meet | fail)
                      exact ⟨⟨off + 1, ⟨_, _, _, by omega, HC1.out, num_i64 (by have := HPP.out; omega), rfl⟩, HNX.out⟩, by simp [intOf]; exact HME.out⟩
                    · go_wp2_with (first | go_meet | fail)
                      exact ⟨⟨off + 1, ⟨_, _, _, by omega, HCUT.out.2 hc1, num_i64 (by have := HPP.out; omega), rfl⟩, HNX.out⟩, by simp [intOf]; exact HME.out⟩
                  · have HOUT : Hid (off = R) := Lib.hid (by
                      rw [← HRU.out]
                      exact (run_stop (by rw [← HX.out]; exact hd)).symm)
                    have hd2 : (x : Int) < 48 ∨ ((48 : Int) ≤ (x : Int) ∧ 57 < (x : Int)) := by unfold dg at hd; omega
                    clear hd
                    rcases hd2 with e0 | ⟨e0, e1⟩
                    · have e2 : ¬ (48 : Int) ≤ (x : Int) := by omega
                      have sl0 : (u : Int) ≤ ((k2 - 1 : Nat) : Int) := by have := HUU.out; have := HI.out.1; have := HJB.out; omega
                      go_wp2_with (first | go_meet | fail)
                      have hsl0 := HUU.out
                      exact ⟨by rw [HNF.out, HPE.out, ← HOUT.out]; exact ⟨_, _, by rw [hsl0], by have := HJB.out; have := HI.out.1; omega, by have := HJB.out; omega, fun _ => rfl⟩, _, _, _, by rw [HPE.out, ← HOUT.out]; exact HI.out, rfl⟩
                    · have e2 : ¬ (x : Int) ≤ 57 := by omega
                      have sl0 : (u : Int) ≤ ((k2 - 1 : Nat) : Int) := by have := HUU.out; have := HI.out.1; have := HJB.out; omega
                      go_wp2_with (first | go_meet | fail)
                      have hsl0 := HUU.out
                      exact ⟨by rw [HNF.out, HPE.out, ← HOUT.out]; exact ⟨_, _, by rw [hsl0], by have := HJB.out; have := HI.out.1; omega, by have := HJB.out; omega, fun _ => rfl⟩, _, _, _, by rw [HPE.out, ← HOUT.out]; exact HI.out, rfl⟩
        case rest => as_aux_lemma =>
          clear j1 j2 j3
          obtain ⟨hF, ⟨off3, m3, k3, hi3, rfl⟩, rfl⟩ := hcut
          have HFF := Lib.hid hF
          obtain ⟨af, cf, rfl, _, _, _⟩ := hF
          have HI3 := Lib.hid hi3
          have j1 := hi3.1
          have j2 := hi3.2.1
          have j3 := hi3.2.2.1
          obtain ⟨ex, hex⟩ : ∃ ex : Bool, ex = decide ((at_ T f = 101 ∨ at_ T f = 69) ∧ f + 1 < L) := ⟨_, rfl⟩
          have HEX := Lib.hid hex
          have HOF3 : Hid (0 < m3 → off3 = f ∧ k3 = cap - f) := Lib.hid hi3.2.2.2
          obtain ⟨nx, hnx⟩ : ∃ nx, nx = L - (f + 1) := ⟨_, rfl⟩
          have HNX := Lib.hid hnx
          clear hi3 hex hnx
          go_upto_region 32 with (fail)
          go_cut [132] (fun v132 wx => v132 = .bool ex ∧ w.alloc (.cells #[.bool false, .slice none 0 0, .slice none 0 0, .slice none 0 0] 133) = wx)
          case first => as_aux_lemma =>
            have hex := HEX.out
            rcases (by omega : m3 = 0 ∨ m3 = 1 ∨ 2 ≤ m3) with h | h | h
            · subst h
              have hf : ex = false := by
                rw [hex]; refine decide_eq_false (fun hc => ?_)
                omega
              subst hf
              clear hex
              go_wp2_with (first | go_meet | fail)
              all_goals exact rfl
            · subst h
              obtain ⟨rfl, hk⟩ := HOF3.out (by omega)
              have cx := HR.out off3 (by omega)
              have hf : ex = false := by
                rw [hex]; refine decide_eq_false (fun hc => ?_)
                omega
              subst hf
              clear hex hk
              go_wp2_with (first | go_meet | fail)
              all_goals exact rfl
            · obtain ⟨rfl, hk⟩ := HOF3.out (by omega)
              have cx := HR.out off3 (by omega)
              have hlt : off3 + 1 < L := by omega
              obtain ⟨x, hx⟩ : ∃ x, x = at_ T off3 := ⟨_, rfl⟩
              rw [← hx] at cx hex
              have m0 : (2 : Int) ≤ (m3 : Int) := by omega
              have m1 : (0 : Int) < (m3 : Int) := by omega
              clear hx hk h
              by_cases h1 : x = 101
              · have hf : ex = true := by rw [hex]; exact decide_eq_true ⟨.inl h1, hlt⟩
                have e1 : ((x : Int) == 101) = true := by rw [h1]; rfl
                subst hf
                clear hex h1 hlt
                go_wp2_with (first | go_meet | fail)
                all_goals exact rfl
              · have e1 : ((x : Int) == 101) = false := by rw [beq_eq_false_iff_ne]; omega
                by_cases h2 : x = 69
                · have hf : ex = true := by rw [hex]; exact decide_eq_true ⟨.inr h2, hlt⟩
                  have e2 : ((x : Int) == 69) = true := by rw [h2]; rfl
                  subst hf
                  clear hex h1 h2 hlt
                  go_wp2_with (first | go_meet | fail)
                  all_goals exact rfl
                · have hf : ex = false := by rw [hex]; exact decide_eq_false (fun hc => by rcases hc.1 with h | h <;> omega)
                  have e2 : ((x : Int) == 69) = false := by rw [beq_eq_false_iff_ne]; omega
                  subst hf
                  clear hex h1 h2 hlt
                  go_wp2_with (first | go_meet | fail)
                  all_goals exact rfl
          case rest => as_aux_lemma =>
            obtain ⟨rfl, rfl⟩ := hcut
            go_upto_if 132 with (fail)
            go_cut [7] (fun v7 wx => SlOf b (f + 1) nx v7 ∧ w.alloc (.cells #[.bool false, .slice none 0 0, .slice none 0 0, .slice none 0 0] 133) = wx)
            case first => as_aux_lemma =>
              cases ex with
              | false =>
                have HF0 : Hid (nx = 0) := Lib.hid (by
                  have h1 := HE2.out.2
                  unfold pnC at h1
                  rw [if_neg (by rw [HT.out]; exact of_decide_eq_false HEX.out.symm)] at h1
                  have := HDD.out f h1
                  rw [HNX.out]; omega)
                go_wp2_with (first | go_meet | fail)
                rw [HF0.out]; exact slOf_nil _ _
              | true =>
                have hxx := of_decide_eq_true HEX.out.symm
                have h2 : 2 ≤ m3 := by omega
                obtain ⟨rfl, hk⟩ := HOF3.out (by omega)
                have cy := HR.out (off3 + 1) (by omega)
                obtain ⟨y, hy⟩ : ∃ y, y = at_ T (off3 + 1) := ⟨_, rfl⟩
                rw [← hy] at cy
                have HY := Lib.hid hy
                have HPC : Hid ((if y = 43 ∨ y = 45 then (if off3 + 2 < L then pnD T (run T (off3 + 2)) else none) else pnD T (run T (off3 + 1))) = some L) := Lib.hid (by
                  have h1 := HE2.out.2
                  unfold pnC at h1
                  rw [if_pos (by rw [HT.out]; exact hxx), HT.out, ← HY.out] at h1
                  exact h1)
                have HI4 : Hid (InAt b L cap (off3 + 1) (off3 + 1) (m3 - 1) (k3 - 1)) := Lib.hid ((inAt_one HI3.out (by omega) hL).2 (by omega))
                have m0 : (1 : Int) ≤ (m3 : Int) := by omega
                have m1 : (1 : Int) ≤ (k3 : Int) := by omega
                have m4 : ¬ k3 = 1 := by omega
                have m6 : (0 : Int) < ((m3 - 1 : Nat) : Int) := by omega
                have m7 : (1 : Int) ≤ ((m3 - 1 : Nat) : Int) := by omega
                have m8 : (1 : Int) ≤ ((k3 - 1 : Nat) : Int) := by omega
                have HJB : Hid (off3 + 1 + (k3 - 1) = cap ∧ L ≤ cap ∧ off3 + 1 ≤ L) := Lib.hid ⟨by omega, hL, by omega⟩
                have HJ : Hid (off3 + m3 = L ∧ m3 ≤ k3 ∧ k3 ≤ cap ∧ 2 ≤ m3) := Lib.hid ⟨by omega, by omega, by omega, h2⟩
                clear hxx hk hy h2 j1 j2 j3
                by_cases hsg : y = 43 ∨ y = 45
                · have hsi : ((y : Int) == 43) = true ∨ (((y : Int) == 43) = false ∧ ((y : Int) == 45) = true) := by
                    simp only [beq_iff_eq, beq_eq_false_iff_ne]; omega
                  obtain ⟨R, hR⟩ : ∃ R, R = run T (off3 + 2) := ⟨_, rfl⟩
                  have hRL : off3 + 2 < L ∧ R = L := by
                    have h1 := HPC.out
                    rw [if_pos hsg] at h1
                    by_cases hl : off3 + 2 < L
                    · rw [if_pos hl] at h1
                      exact ⟨hl, by rw [hR]; exact HDD.out _ h1⟩
                    · rw [if_neg hl] at h1; cases h1
                  have HPE := Lib.hid hRL
                  have HRR := Lib.hid hR
                  have hk3 : ¬ k3 - 1 = 1 := by have := HJ.out; omega
                  have m9 : (((m3 - 1 - 1 : Nat) : Int) == 0) = false := by rw [beq_eq_false_iff_ne]; have := HJ.out; omega
                  have m10 : ((((m3 - 1 : Nat) : Int) - 1) == 0) = false := by rw [beq_eq_false_iff_ne]; have := HJ.out; omega
                  have HI5 : Hid (InAt b L cap (off3 + 2) (off3 + 2) (m3 - 1 - 1) (k3 - 1 - 1)) := Lib.hid ((inAt_one HI4.out (by have := HJ.out; omega) hL).2 hk3)
                  have HST : Hid (∃ p, At b L cap (off3 + 1) p (.int .i64 1) (.slice (some ⟨b, off3 + 2, none⟩) (m3 - 1 - 1) (k3 - 1 - 1)) ∧ run T p = R) := Lib.hid ⟨off3 + 2, ⟨_, _, _, by omega, HI5.out, num_i64 (by omega), rfl⟩, HRR.out.symm⟩
                  clear hR hRL hsg
                  rcases hsi with e1 | ⟨e1, e2⟩
                  · go_wp2_with (first | go_meet | fail)
                    clear m0 m1 m6 m7 m8 cy
                    go_loop [8, 11] (fun v8 v11 => ∃ p, At b L cap (off3 + 1) p v11 v8 ∧ run T p = R) (fun _ v11 => L - (off3 + 1) - (intOf v11).toNat)
                    case atStart => exact HST.out
                    case round => as_aux_lemma =>
                      obtain ⟨p, ⟨off, n, c, hp, hi, rfl, rfl⟩, hrun⟩ := hrel
                      have HI := Lib.hid hi
                      have HRU := Lib.hid hrun
                      have j1 := hi.1
                      have j2 := hi.2.1
                      have j3 := hi.2.2.1
                      have hpP : (((p - (off3 + 1) : Nat) : Int)) + 1 = ((p + 1 - (off3 + 1) : Nat) : Int) := by omega
                      have HPP := Lib.hid hpP
                      have z0 : (0 : Int) ≤ ((p - (off3 + 1) : Nat) : Int) := by omega
                      have z1 : ((p - (off3 + 1) : Nat) : Int) ≤ 9223372036854775806 := by omega
                      obtain ⟨u, hu⟩ : ∃ u, u = p - (off3 + 1) := ⟨_, rfl⟩
                      rw [← hu] at z0 z1 hpP HPP ⊢
                      have HUU := Lib.hid hu
                      clear hi hrun hpP hu
                      rcases Nat.eq_zero_or_pos n with hn0 | hn0
                      · have HOUT : Hid (p = R) := Lib.hid (by
                          rw [← HRU.out]
                          refine (run_stop (fun h => ?_)).symm
                          have := dg_lt h
                          have := HT.out
                          omega)
                        subst hn0
                        have sl0 : (u : Int) ≤ ((k3 - 1 : Nat) : Int) := by have := HUU.out; have := HI.out.1; have := HJB.out; omega
                        go_wp2_with (first | go_meet | fail)
                        have hsl0 := HUU.out
                        have hpl := HOUT.out
                        exact by rw [HNX.out]; exact ⟨_, _, by rw [hsl0, hpl, HPE.out.2], by have := HJB.out; omega, by have := HJB.out; omega, fun _ => rfl⟩
                      · have hpl2 : p < L := by omega
                        have cx := HR.out p hpl2
                        obtain ⟨hoff, hcc⟩ := HI.out.2.2.2 hn0
                        subst hoff
                        obtain ⟨x, hx⟩ : ∃ x, x = at_ T off := ⟨_, rfl⟩
                        rw [← hx] at cx
                        have HX := Lib.hid hx
                        have m0 : (0 : Int) < (n : Int) := by omega
                        have m1 : (1 : Int) ≤ (n : Int) := by omega
                        have m2 : (1 : Int) ≤ (c : Int) := by omega
                        have HN0 := Lib.hid hn0
                        have HME : Hid (L - (off3 + 1) - (u + 1) < L - (off3 + 1) - u) := Lib.hid (by have := HUU.out; omega)
                        clear hx hcc hn0 j1 j2 j3
                        by_cases hd : dg x
                        · have HNX : Hid (run T (off + 1) = R) := Lib.hid (by rw [← run_step (by rw [← HX.out]; exact hd)]; exact HRU.out)
                          obtain ⟨d0, d1⟩ := hd
                          have e0 : (48 : Int) ≤ (x : Int) := by omega
                          have e1 : (x : Int) ≤ 57 := by omega
                          have HCUT := Lib.hid (inAt_one HI.out HN0.out hL)
                          clear d0 d1
                          by_cases hc1 : c = 1
                          · obtain ⟨hcut1, hn1⟩ := HCUT.out.1 hc1
                            have HC1 := Lib.hid hcut1
                            subst hc1
                            subst hn1
                            clear hcut1
                            go_wp2_with (first | go_meet | fail)
                            exact ⟨⟨off + 1, ⟨_, _, _, by omega, HC1.out, num_i64 (by have := HPP.out; omega), rfl⟩, HNX.out⟩, by simp [intOf]; exact HME.out⟩
                          · go_wp2_with (first | go_meet | fail)
                            exact ⟨⟨off + 1, ⟨_, _, _, by omega, HCUT.out.2 hc1, num_i64 (by have := HPP.out; omega), rfl⟩, HNX.out⟩, by simp [intOf]; exact HME.out⟩
                        · have HOUT : Hid (off = R) := Lib.hid (by
                            rw [← HRU.out]
                            exact (run_stop (by rw [← HX.out]; exact hd)).symm)
                          have hd2 : (x : Int) < 48 ∨ ((48 : Int) ≤ (x : Int) ∧ 57 < (x : Int)) := by unfold dg at hd; omega
                          clear hd
                          rcases hd2 with e0 | ⟨e0, e1⟩
                          · have e2 : ¬ (48 : Int) ≤ (x : Int) := by omega
                            have sl0 : (u : Int) ≤ ((k3 - 1 : Nat) : Int) := by have := HUU.out; have := HI.out.1; have := HJB.out; omega
                            go_wp2_with (first | go_meet | fail)
                            have hsl0 := HUU.out
                            have hpl := HOUT.out
                            exact by rw [HNX.out]; exact ⟨_, _, by rw [hsl0, hpl, HPE.out.2], by have := HJB.out; omega, by have := HJB.out; omega, fun _ => rfl⟩
                          · have e2 : ¬ (x : Int) ≤ 57 := by omega
                            have sl0 : (u : Int) ≤ ((k3 - 1 : Nat) : Int) := by have := HUU.out; have := HI.out.1; have := HJB.out; omega
                            go_wp2_with (first | go_meet | fail)
                            have hsl0 := HUU.out
                            have hpl := HOUT.out
                            exact by rw [HNX.out]; exact ⟨_, _, by rw [hsl0, hpl, HPE.out.2], by have := HJB.out; omega, by have := HJB.out; omega, fun _ => rfl⟩
                  · go_wp2_with (first | go_meet | fail)
                    clear m0 m1 m6 m7 m8 cy
                    go_loop [8, 11] (fun v8 v11 => ∃ p, At b L cap (off3 + 1) p v11 v8 ∧ run T p = R) (fun _ v11 => L - (off3 + 1) - (intOf v11).toNat)
                    case atStart => exact HST.out
                    case round => as_aux_lemma =>
                      obtain ⟨p, ⟨off, n, c, hp, hi, rfl, rfl⟩, hrun⟩ := hrel
                      have HI := Lib.hid hi
                      have HRU := Lib.hid hrun
                      have j1 := hi.1
                      have j2 := hi.2.1
                      have j3 := hi.2.2.1
                      have hpP : (((p - (off3 + 1) : Nat) : Int)) + 1 = ((p + 1 - (off3 + 1) : Nat) : Int) := by omega
                      have HPP := Lib.hid hpP
                      have z0 : (0 : Int) ≤ ((p - (off3 + 1) : Nat) : Int) := by omega
                      have z1 : ((p - (off3 + 1) : Nat) : Int) ≤ 9223372036854775806 := by omega
                      obtain ⟨u, hu⟩ : ∃ u, u = p - (off3 + 1) := ⟨_, rfl⟩
                      rw [← hu] at z0 z1 hpP HPP ⊢
                      have HUU := Lib.hid hu
                      clear hi hrun hpP hu
                      rcases Nat.eq_zero_or_pos n with hn0 | hn0
                      · have HOUT : Hid (p = R) := Lib.hid (by
                          rw [← HRU.out]
                          refine (run_stop (fun h => ?_)).symm
                          have := dg_lt h
                          have := HT.out
                          omega)
                        subst hn0
                        have sl0 : (u : Int) ≤ ((k3 - 1 : Nat) : Int) := by have := HUU.out; have := HI.out.1; have := HJB.out; omega
                        go_wp2_with (first | go_meet | fail)
                        have hsl0 := HUU.out
                        have hpl := HOUT.out
                        exact by rw [HNX.out]; exact ⟨_, _, by rw [hsl0, hpl, HPE.out.2], by have := HJB.out; omega, by have := HJB.out; omega, fun _ => rfl⟩
                      · have hpl2 : p < L := by omega
                        have cx := HR.out p hpl2
                        obtain ⟨hoff, hcc⟩ := HI.out.2.2.2 hn0
                        subst hoff
                        obtain ⟨x, hx⟩ : ∃ x, x = at_ T off := ⟨_, rfl⟩
                        rw [← hx] at cx
                        have HX := Lib.hid hx
                        have m0 : (0 : Int) < (n : Int) := by omega
                        have m1 : (1 : Int) ≤ (n : Int) := by omega
                        have m2 : (1 : Int) ≤ (c : Int) := by omega
                        have HN0 := Lib.hid hn0
                        have HME : Hid (L - (off3 + 1) - (u + 1) < L - (off3 + 1) - u) := Lib.hid (by have := HUU.out; omega)
                        clear hx hcc hn0 j1 j2 j3
                        by_cases hd : dg x
                        · have HNX : Hid (run T (off + 1) = R) := Lib.hid (by rw [← run_step (by rw [← HX.out]; exact hd)]; exact HRU.out)
                          obtain ⟨d0, d1⟩ := hd
                          have e0 : (48 : Int) ≤ (x : Int) := by omega
                          have e1 : (x : Int) ≤ 57 := by omega
                          have HCUT := Lib.hid (inAt_one HI.out HN0.out hL)
                          clear d0 d1
                          by_cases hc1 : c = 1
                          · obtain ⟨hcut1, hn1⟩ := HCUT.out.1 hc1
                            have HC1 := Lib.hid hcut1
                            subst hc1
                            subst hn1
                            clear hcut1
                            go_wp2_with (first | go_meet | fail)
                            exact ⟨⟨off + 1, ⟨_, _, _, by omega, HC1.out, num_i64 (by have := HPP.out; omega), rfl⟩, HNX.out⟩, by simp [intOf]; exact HME.out⟩
                          · go_wp2_with (first | go_meet | fail)
                            exact ⟨⟨off + 1, ⟨_, _, _, by omega, HCUT.out.2 hc1, num_i64 (by have := HPP.out; omega), rfl⟩, HNX.out⟩, by simp [intOf]; exact HME.out⟩
                        · have HOUT : Hid (off = R) := Lib.hid (by
                            rw [← HRU.out]
                            exact (run_stop (by rw [← HX.out]; exact hd)).symm)
                          have hd2 : (x : Int) < 48 ∨ ((48 : Int) ≤ (x : Int) ∧ 57 < (x : Int)) := by unfold dg at hd; omega
                          clear hd
                          rcases hd2 with e0 | ⟨e0, e1⟩
                          · have e2 : ¬ (48 : Int) ≤ (x : Int) := by omega
                            have sl0 : (u : Int) ≤ ((k3 - 1 : Nat) : Int) := by have := HUU.out; have := HI.out.1; have := HJB.out; omega
                            go_wp2_with (first | go_meet | fail)
                            have hsl0 := HUU.out
                            have hpl := HOUT.out
                            exact by rw [HNX.out]; exact ⟨_, _, by rw [hsl0, hpl, HPE.out.2], by have := HJB.out; omega, by have := HJB.out; omega, fun _ => rfl⟩
                          · have e2 : ¬ (x : Int) ≤ 57 := by omega
                            have sl0 : (u : Int) ≤ ((k3 - 1 : Nat) : Int) := by have := HUU.out; have := HI.out.1; have := HJB.out; omega
                            go_wp2_with (first | go_meet | fail)
                            have hsl0 := HUU.out
                            have hpl := HOUT.out
                            exact by rw [HNX.out]; exact ⟨_, _, by rw [hsl0, hpl, HPE.out.2], by have := HJB.out; omega, by have := HJB.out; omega, fun _ => rfl⟩
                · obtain ⟨R, hR⟩ : ∃ R, R = run T (off3 + 1) := ⟨_, rfl⟩
                  have hRL : R = L := by
                    have h1 := HPC.out
                    rw [if_neg hsg] at h1
                    rw [hR]; exact HDD.out _ h1
                  have HPE : Hid (True ∧ R = L) := Lib.hid ⟨trivial, hRL⟩
                  have HRR := Lib.hid hR
                  have e1 : ((y : Int) == 43) = false := by rw [beq_eq_false_iff_ne]; omega
                  have e2 : ((y : Int) == 45) = false := by rw [beq_eq_false_iff_ne]; omega
                  have HST : Hid (∃ p, At b L cap (off3 + 1) p (.int .i64 0) (.slice (some ⟨b, off3 + 1, none⟩) (m3 - 1) (k3 - 1)) ∧ run T p = R) := Lib.hid ⟨off3 + 1, ⟨_, _, _, by omega, HI4.out, num_i64 (by omega), rfl⟩, HRR.out.symm⟩
                  clear hR hRL hsg
                  go_wp2_with (first | go_meet | fail)
                  clear m0 m1 m6 m7 m8 cy
                  go_loop [8, 11] (fun v8 v11 => ∃ p, At b L cap (off3 + 1) p v11 v8 ∧ run T p = R) (fun _ v11 => L - (off3 + 1) - (intOf v11).toNat)
                  case atStart => exact HST.out
                  case round => as_aux_lemma =>
                    obtain ⟨p, ⟨off, n, c, hp, hi, rfl, rfl⟩, hrun⟩ := hrel
                    have HI := Lib.hid hi
                    have HRU := Lib.hid hrun
                    have j1 := hi.1
                    have j2 := hi.2.1
                    have j3 := hi.2.2.1
                    have hpP : (((p - (off3 + 1) : Nat) : Int)) + 1 = ((p + 1 - (off3 + 1) : Nat) : Int) := by omega
                    have HPP := Lib.hid hpP
                    have z0 : (0 : Int) ≤ ((p - (off3 + 1) : Nat) : Int) := by omega
                    have z1 : ((p - (off3 + 1) : Nat) : Int) ≤ 9223372036854775806 := by omega
                    obtain ⟨u, hu⟩ : ∃ u, u = p - (off3 + 1) := ⟨_, rfl⟩
                    rw [← hu] at z0 z1 hpP HPP ⊢
                    have HUU := Lib.hid hu
                    clear hi hrun hpP hu
                    rcases Nat.eq_zero_or_pos n with hn0 | hn0
                    · have HOUT : Hid (p = R) := Lib.hid (by
                        rw [← HRU.out]
                        refine (run_stop (fun h => ?_)).symm
                        have := dg_lt h
                        have := HT.out
                        omega)
                      subst hn0
                      have sl0 : (u : Int) ≤ ((k3 - 1 : Nat) : Int) := by have := HUU.out; have := HI.out.1; have := HJB.out; omega
                      go_wp2_with (first | go_meet | fail)
                      have hsl0 := HUU.out
                      have hpl := HOUT.out
                      exact by rw [HNX.out]; exact ⟨_, _, by rw [hsl0, hpl, HPE.out.2], by have := HJB.out; omega, by have := HJB.out; omega, fun _ => rfl⟩
                    · have hpl2 : p < L := by omega
                      have cx := HR.out p hpl2
                      obtain ⟨hoff, hcc⟩ := HI.out.2.2.2 hn0
                      subst hoff
                      obtain ⟨x, hx⟩ : ∃ x, x = at_ T off := ⟨_, rfl⟩
                      rw [← hx] at cx
                      have HX := Lib.hid hx
                      have m0 : (0 : Int) < (n : Int) := by omega
                      have m1 : (1 : Int) ≤ (n : Int) := by omega
                      have m2 : (1 : Int) ≤ (c : Int) := by omega
                      have HN0 := Lib.hid hn0
                      have HME : Hid (L - (off3 + 1) - (u + 1) < L - (off3 + 1) - u) := Lib.hid (by have := HUU.out; omega)
                      clear hx hcc hn0 j1 j2 j3
                      by_cases hd : dg x
                      · have HNX : Hid (run T (off + 1) = R) := Lib.hid (by rw [← run_step (by rw [← HX.out]; exact hd)]; exact HRU.out)
                        obtain ⟨d0, d1⟩ := hd
                        have e0 : (48 : Int) ≤ (x : Int) := by omega
                        have e1 : (x : Int) ≤ 57 := by omega
                        have HCUT := Lib.hid (inAt_one HI.out HN0.out hL)
                        clear d0 d1
                        by_cases hc1 : c = 1
                        · obtain ⟨hcut1, hn1⟩ := HCUT.out.1 hc1
                          have HC1 := Lib.hid hcut1
                          subst hc1
                          subst hn1
                          clear hcut1
                          go_wp2_with (first | go_meet | fail)
                          exact ⟨⟨off + 1, ⟨_, _, _, by omega, HC1.out, num_i64 (by have := HPP.out; omega), rfl⟩, HNX.out⟩, by simp [intOf]; exact HME.out⟩
                        · go_wp2_with (first | go_meet | fail)
                          exact ⟨⟨off + 1, ⟨_, _, _, by omega, HCUT.out.2 hc1, num_i64 (by have := HPP.out; omega), rfl⟩, HNX.out⟩, by simp [intOf]; exact HME.out⟩
                      · have HOUT : Hid (off = R) := Lib.hid (by
                          rw [← HRU.out]
                          exact (run_stop (by rw [← HX.out]; exact hd)).symm)
                        have hd2 : (x : Int) < 48 ∨ ((48 : Int) ≤ (x : Int) ∧ 57 < (x : Int)) := by unfold dg at hd; omega
                        clear hd
                        rcases hd2 with e0 | ⟨e0, e1⟩
                        · have e2 : ¬ (48 : Int) ≤ (x : Int) := by omega
                          have sl0 : (u : Int) ≤ ((k3 - 1 : Nat) : Int) := by have := HUU.out; have := HI.out.1; have := HJB.out; omega
                          go_wp2_with (first | go_meet | fail)
                          have hsl0 := HUU.out
                          have hpl := HOUT.out
                          exact by rw [HNX.out]; exact ⟨_, _, by rw [hsl0, hpl, HPE.out.2], by have := HJB.out; omega, by have := HJB.out; omega, fun _ => rfl⟩
                        · have e2 : ¬ (x : Int) ≤ 57 := by omega
                          have sl0 : (u : Int) ≤ ((k3 - 1 : Nat) : Int) := by have := HUU.out; have := HI.out.1; have := HJB.out; omega
                          go_wp2_with (first | go_meet | fail)
                          have hsl0 := HUU.out
                          have hpl := HOUT.out
                          exact by rw [HNX.out]; exact ⟨_, _, by rw [hsl0, hpl, HPE.out.2], by have := HJB.out; omega, by have := HJB.out; omega, fun _ => rfl⟩
            case rest => as_aux_lemma =>
              obtain ⟨hX, rfl⟩ := hcut
              have HXX := Lib.hid hX
              obtain ⟨ax, cx, rfl, _, _, _⟩ := hX
              have HTR : Hid (∀ W, Below w.heap.size w W → Calls Tryz.prog 103 #[.slice af nf cf, .string ⟨#[48]⟩] W fun e w' => (∃ v', e = .returned v' ∧ SlOf b (j + 1) (tlen T (j + 1) nf) v') ∧ W = w') := Lib.hid (fun W hW => trim_right b (j + 1) nf L (.slice af nf cf) T HT.out (by have := HPOS.out.2.2; have := HNF.out; have := HI3.out.1; omega) hL47 HFF.out W (HRW.out.below hW hb))
              clear j1 j2 j3
              go_wp2_with fail
              refine (HTR.out _ (by go_grown)).mono ?_
              rintro e w1 ⟨⟨v', rfl, hv'⟩, rfl⟩
              have HVV := Lib.hid hv'
              obtain ⟨at', ct', rfl, _, _, _⟩ := hv'
              go_wp2_with fail
              refine bodyPost_ret (v := .tuple #[.agg #[.bool neg, .slice ai ni ci, .slice at' (tlen T (j + 1) nf) ct', .slice ax nx cx], .bool true]) (by simp [results, Tryz.results80, go_sem]) rfl ⟨⟨_, rfl, ?_⟩, by go_grown⟩
              have p := HPOS.out
              refine ⟨_, _, _, by rw [HNEG.out], ?_, ?_, ?_⟩
              · rw [← p.1, ← p.2.1, ← HNI.out]; exact HII.out
              · rw [← p.1, ← p.2.1, ← p.2.2, ← HNF.out]; exact HVV.out
              · rw [← p.1, ← p.2.1, ← p.2.2, ← HNX.out]; exact HXX.out

end Go.Proofs.YtdeehmjdbjlfkaaGreatDoor.jn
