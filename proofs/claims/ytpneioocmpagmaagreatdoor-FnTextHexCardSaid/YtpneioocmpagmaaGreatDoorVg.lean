/- internal/strconv: decimal.floatBits at a whole number, the walk. -/
import Derived.Test.YtpneioocmpagmaaGreatDoorVd
import Derived.ScopeJumps
namespace Go.Proofs.YtpneioocmpagmaaGreatDoor.dc
open Go.RowKit
open Go.Proofs.YtpneioocmpagmaaGreatDoor.tx (Keeps blk_cell blk_frozen blk_set)
set_option linter.unusedVariables false
set_option linter.unusedSimpArgs false

theorem shift_53 (F : Nat) (D : List Nat) (w : World) (h : DAt w F D D.length 0) (hd : D.getD 0 0 ≠ 0) (h5 : 5 ≤ D.getD 0 0) (hl : D.length ≤ 400) (hc : Cheat w 53 16 (txt S53)) :
    Calls Tryz.prog 186 #[.pointer (some ⟨F, 0, none⟩), .int .i64 53] w fun e w' => ∃ (D' : List Nat) (p : Nat), e = .returned (.tuple #[]) ∧ p ≤ 20 ∧ DAt w' F D' D'.length (p : Int) ∧ Keeps F w w' := by
  obtain ⟨cs, hcs, hrow⟩ := id h
  refine (shift_left F D 0 (by omega) 53 (by decide) (by decide) hd 16 (by decide) (txt S53) S53 (digT_txt S53 (by decide)) (by decide) (by decide) 16 (by rw [ge_S53 h5]; rfl) (by omega) (.inr ⟨by decide, car_53 hrow.nine h5⟩) w h hc).mono ?_
  rintro e w' ⟨D', he, hd', _, _, _, hk⟩
  exact ⟨D', 16, he, by decide, by simpa using hd', hk⟩

theorem shift_24 (F : Nat) (D : List Nat) (w : World) (h : DAt w F D D.length 0) (hd : D.getD 0 0 ≠ 0) (h5 : 5 ≤ D.getD 0 0) (hl : D.length ≤ 400) (hc : Cheat w 24 8 (txt S24)) :
    Calls Tryz.prog 186 #[.pointer (some ⟨F, 0, none⟩), .int .i64 24] w fun e w' => ∃ (D' : List Nat) (p : Nat), e = .returned (.tuple #[]) ∧ p ≤ 20 ∧ DAt w' F D' D'.length (p : Int) ∧ Keeps F w w' := by
  obtain ⟨cs, hcs, hrow⟩ := id h
  obtain ⟨g1, g2, g3, g4⟩ := car_24 hrow.nine h5 _ rfl
  refine (shift_left F D 0 (by omega) 24 (by decide) (by decide) hd 8 (by decide) (txt S24) S24 (digT_txt S24 (by decide)) (by decide) (by decide) _ rfl (by omega) (.inr ⟨g1, g3, g4⟩) w h hc).mono ?_
  rintro e w' ⟨D', he, hd', _, _, _, hk⟩
  exact ⟨D', _, he, Nat.le_trans g2 (by decide), by simpa using hd', hk⟩

/-- As Q; by a goto: what stands behind its label. -/
def inl (P : Program) (c : Code) (Q : Exit → Act → World → Prop) : Exit → Act → World → Prop
  | .goto l, a, w => ∃ rest, findLabel c l = some rest ∧ rest.wp P (Exit.noGoto Q) a w
  | e, a, w => Q e a w

theorem inl_ret {P : Program} {c : Code} {Q : Exit → Act → World → Prop} {a : Act} {w : World} : inl P c Q .ret a w = Q .ret a w := rfl

theorem inl_goto {P : Program} {c : Code} {Q : Exit → Act → World → Prop} {a : Act} {w : World} {l : Nat} {rest : Code} (hf : findLabel c l = some rest) (h : rest.wp P (Exit.noGoto Q) a w) : inl P c Q (.goto l) a w := ⟨rest, hf, h⟩

theorem wp_scope_inl {P : Program} {c : Code} {Q : Exit → Act → World → Prop} {a : Act} {w : World} (first : c.wp P (inl P c Q) a w) : (Code.scope c).wp P Q a w := by
  intro b k cs
  obtain ⟨e, a₁, w₁, hq, harr⟩ := first b (.inScope c :: k) cs
  cases e with
  | normal => exact ⟨.normal, a₁, w₁, hq, .head step_scope (Steps.trans harr (.one step_inScope))⟩
  | exit id => exact ⟨.exit id, a₁, w₁, hq, fun k' hk => .head step_scope (harr k' (by simp [exitTo, hk]))⟩
  | goto l =>
    obtain ⟨rest, hf, hw⟩ := hq
    have hg : gotoIn l (.inScope c :: k) = some (.code rest :: .inScope c :: k) := by simp [gotoIn, hf]
    obtain ⟨e₂, a₂, w₂, hq₂, harr₂⟩ := hw b (.inScope c :: k) cs
    have key : ∃ e a' w', Q e a' w' ∧ Arrives P (lone (b.at a₁ (.code rest :: .inScope c :: k)) cs w₁) b k cs e a' w' := by
      cases e₂ with
      | normal => exact ⟨.normal, a₂, w₂, hq₂, Steps.trans harr₂ (.one step_inScope)⟩
      | exit id => exact ⟨.exit id, a₂, w₂, hq₂, fun k' hk => harr₂ k' (by simp [exitTo, hk])⟩
      | goto l' => exact hq₂.elim
      | ret => exact ⟨_, a₂, w₂, hq₂, harr₂⟩
      | panic ch => exact ⟨_, a₂, w₂, hq₂, harr₂⟩
      | outgrown => exact ⟨_, a₂, w₂, hq₂, harr₂⟩
    obtain ⟨e₃, a₃, w₃, hq₃, harr₃⟩ := key
    exact ⟨e₃, a₃, w₃, hq₃, .of_steps (.head step_scope (harr _ hg)) harr₃⟩
  | ret => exact ⟨_, a₁, w₁, hq, .of_steps (.one step_scope) harr⟩
  | panic ch => exact ⟨_, a₁, w₁, hq, .of_steps (.one step_scope) harr⟩
  | outgrown => exact ⟨_, a₁, w₁, hq, .of_steps (.one step_scope) harr⟩

theorem name_world {P : World → Prop} {W0 : World} (h : P W0) : ∃ W, W = W0 ∧ P W := ⟨W0, rfl, h⟩

def FSays (w : World) (F : Nat) (e : Ending) (w' : World) : Prop := (∃ b : Int, e = .returned (.tuple #[.int .u64 b, .bool false])) ∧ Keeps F w w'

/-- Behind the first loop: below 1. -/
def FC1 (w : World) (F : Nat) (v6 : Value) (wr : World) : Prop := ∃ (D : List Nat) (ex : Int), v6 = .int .i64 ex ∧ FR w F D 0 ex wr

/-- What stands between rounds of the second loop: the number is below 1. -/
structure FL (w : World) (F : Nat) (D : List Nat) (ex : Int) (wr : World) : Prop where
  at_ : DAt wr F D D.length 0
  head : D.getD 0 0 ≠ 0
  len : D.length ≤ 400
  lo : -20 ≤ ex
  hi : ex ≤ 106
  keep : Keeps F w wr

def FL1 (w : World) (F g : Nat) (v6 : Value) (wr : World) : Prop :=
  ∃ (D : List Nat) (ex : Int), v6 = .int .i64 ex ∧ FL w F D ex wr ∧ 9 - D.getD 0 0 = g ∧ (g : Int) - 9 ≤ ex

def FC2 (w : World) (F : Nat) (v6 : Value) (wr : World) : Prop := ∃ (D : List Nat) (ex : Int), v6 = .int .i64 ex ∧ FL w F D ex wr ∧ 5 ≤ D.getD 0 0

set_option maxHeartbeats 16000000 in
set_option maxRecDepth 100000 in
theorem float_bits (F G : Nat) (D : List Nat) (m : Nat) (hm : 1 ≤ m) (hm2 : m ≤ 25) (hlen : D.length ≤ 60) (hd : D.getD 0 0 ≠ 0) (mb eb : Nat) (bias : Int) (w : World) (h : DAt w F D D.length (m : Int))
    (hE : ∀ w', Keeps F w w' → PEnv w' ∧ Info w' G mb eb bias) :
    Calls Tryz.prog 208 #[.pointer (some ⟨F, 0, none⟩), .pointer (some ⟨G, 0, none⟩)] w fun e w' => FSays w F e w' := by
  obtain ⟨cs, hcs, hrow⟩ := id h
  have hn := nd_pos hd
  have k800 := blk_cell hcs hrow.nd
  have k801 := blk_cell hcs hrow.dp
  have hfl : flag m D ≤ 1 := by unfold flag; split <;> omega
  have HF0 : Hid (FR w F D m 0 w) := Lib.hid ⟨h, hd, by omega, Int.le_refl _, by split <;> omega, Keeps.refl F w⟩
  have HE := Lib.hid hE
  have t0 : ((D.length : Int) == 0) = false := by rw [beq_eq_false_iff_ne]; omega
  have t1 : ¬ (310 : Int) < (m : Int) := by omega
  have t2 : ¬ (m : Int) < -330 := by omega
  clear h hcs hrow hE hd hfl
  go_enter Tryz.func208, Tryz.ntmps208
  go_wp2_with fail
  apply wp_scope_inl
  go_upto_block 0 with (fail)
  go_cut [6] (fun v6 wx => FC1 w F v6 wx)
  case first => as_aux_lemma =>
    go_wp2_with fail
    go_loopg [6] (2 * m + (if 8 ≤ D.getD 0 0 then 1 else 0)) (fun g v6 wr => FR1 w F g v6 wr)
    case atStart => exact ⟨D, m, 0, rfl, HF0.out, rfl⟩
    case round =>
      obtain ⟨D2, m2, ex, rfl, hfr, hg⟩ := hrel
      have HFR := Lib.hid hfr
      obtain ⟨cs2, hcs2, hrow2⟩ := hfr.at_
      have q801 := blk_cell hcs2 hrow2.dp
      by_cases hz : m2 = 0
      · subst hz
        have t3 : ¬ (0 : Int) < ((0 : Nat) : Int) := by omega
        clear hfr hcs2 hrow2 hg
        go_wp2_with (first | go_meet | fail)
        exact ⟨D2, ex, rfl, HFR.out⟩
      · have t3 : (0 : Int) < (m2 : Int) := by omega
        obtain ⟨pa, pc, kp, hpw⟩ := (HE.out wr hfr.keep).1.pow
        have hb := kk_bounds m2
        have hdpb : m2 ≤ 100 := by have := hfr.len; omega
        obtain ⟨k, hk⟩ : ∃ k, k = kk m2 := ⟨_, rfl⟩
        have HSR := Lib.hid (fun (z : Int) (hz : z = -(k : Int)) (W : World) (hW : DAt W F D2 D2.length (m2 : Int)) => shift_right F D2 (m2 : Int) (by omega) k (by omega) (by omega) hfr.head W hW z hz)
        have hgk : 0 < gk := by omega
        have HMU : Hid (2 * m2 + (if 8 ≤ D2.getD 0 0 then 1 else 0) = gk ∧ k = kk m2) := Lib.hid ⟨hg, hk⟩
        have hexb : ex ≤ 1000 := by have := hfr.hi; omega
        have hex0 : 0 ≤ ex := hfr.lo
        have w1 : IntKind.i64.wrap (ex + (k : Int)) = ex + (k : Int) := by rw [IntKind.wrap_i64]; omega
        have w2 : IntKind.i64.wrap (-(k : Int)) = -(k : Int) := by rw [IntKind.wrap_i64]; omega
        have hk0 : (0 : Int) ≤ (k : Int) := by omega
        have hcase : ((9 : Int) ≤ (m2 : Int) ∧ k = 27) ∨ (¬ (9 : Int) ≤ (m2 : Int) ∧ m2 < 9 ∧ (m2 : Int) < 9 ∧ k = pw m2) := by
          by_cases h9 : 9 ≤ m2
          · left; exact ⟨by omega, by rw [hk]; unfold kk; rw [if_pos h9]⟩
          · right; exact ⟨by omega, by omega, by omega, by rw [hk]; unfold kk; rw [if_neg h9]⟩
        have HPW := Lib.hid hpw
        clear hfr hcs2 hrow2 hg hk hb hpw
        rcases hcase with ⟨h9, hk27⟩ | ⟨h9, h9n, h9i, hkp⟩
        · subst hk27
          go_wp2_with fail
          go_quiet (fail)
          obtain ⟨W, hW⟩ : ∃ W, W = wr.drewN nq := ⟨_, rfl⟩
          rw [← hW]
          have hWd : DAt W F D2 D2.length (m2 : Int) := by rw [hW]; exact HFR.out.at_
          have hWk : Keeps F wr W := by rw [hW]; exact keeps_drewN (Keeps.refl F wr) nq
          have hWf : FR w F D2 m2 ex W := ⟨hWd, HFR.out.head, HFR.out.len, HFR.out.lo, HFR.out.hi, HFR.out.keep.trans hWk⟩
          have HW := Lib.hid (And.intro hWd (And.intro hWk hWf))
          clear hW hWd hWk hWf
          go_wp2_with fail
          refine (HSR.out _ (by first | rfl | decide | omega) W HW.out.1).mono ?_
          intro e w' hs
          rw [show (27 : Nat) = kk m2 from HMU.out.2] at hs
          obtain ⟨D', m', rfl, hfr', hmu⟩ := fr_step HW.out.2.2 (by omega) hs
          rw [← show (27 : Nat) = kk m2 from HMU.out.2] at hfr'
          have HN := Lib.hid (And.intro hfr' hmu)
          clear hs hfr' hmu
          go_wp2_with fail
          go_roundg (2 * m' + (if 8 ≤ D'.getD 0 0 then 1 else 0))
          case measure => have := HN.out.2; have := HMU.out.1; omega
          case rel => exact ⟨D', m', _, rfl, by first | exact HN.out.1 | simpa using HN.out.1, rfl⟩
        · have kc := HPW.out m2 h9n
          rw [← hkp] at kc
          have HKP := Lib.hid hkp
          clear hkp
          go_wp2_with fail
          go_quiet (fail)
          obtain ⟨W1, hW1⟩ : ∃ W1, W1 = wr.drewN nq := ⟨_, rfl⟩
          rw [← hW1]
          have q801' : W1.cell? ⟨F, 801, none⟩ = some (.int .i64 (m2 : Int)) := by rw [hW1]; exact q801
          have kp' : W1.cell? ⟨15, 0, none⟩ = some (.slice (some pa) 9 pc) := by rw [hW1]; exact kp
          have kc' : W1.cell? (pa.add m2) = some (.int .i64 (k : Int)) := by rw [hW1]; exact kc
          have HW1 := Lib.hid hW1
          clear hW1 q801 kp kc
          go_wp2_with fail
          go_quiet (fail)
          obtain ⟨W, hW⟩ : ∃ W, W = W1.drewN nq := ⟨_, rfl⟩
          rw [← hW]
          have hWd : DAt W F D2 D2.length (m2 : Int) := by rw [hW, HW1.out]; exact HFR.out.at_
          have hWk : Keeps F wr W := by rw [hW, HW1.out]; exact keeps_drewN (keeps_drewN (Keeps.refl F wr) _) _
          have hWf : FR w F D2 m2 ex W := ⟨hWd, HFR.out.head, HFR.out.len, HFR.out.lo, HFR.out.hi, HFR.out.keep.trans hWk⟩
          have HW := Lib.hid (And.intro hWd (And.intro hWk hWf))
          clear hW hWd hWk hWf
          clear q801' kp' kc'
          go_wp2_with fail
          refine (HSR.out _ (by first | rfl | decide | omega) W HW.out.1).mono ?_
          intro e w' hs
          rw [HMU.out.2] at hs
          obtain ⟨D', m', rfl, hfr', hmu⟩ := fr_step HW.out.2.2 (by omega) hs
          rw [← HMU.out.2] at hfr'
          have HN := Lib.hid (And.intro hfr' hmu)
          clear hs hfr' hmu
          go_wp2_with fail
          go_roundg (2 * m' + (if 8 ≤ D'.getD 0 0 then 1 else 0))
          case measure => have := HN.out.2; have := HMU.out.1; omega
          case rel => exact ⟨D', m', _, rfl, by first | exact HN.out.1 | simpa using HN.out.1, rfl⟩
  case rest => as_aux_lemma =>
    obtain ⟨D1, ex1, rfl, hfr1⟩ := hcut
    have HFR1 := Lib.hid hfr1
    have hh := hfr1.hi
    have hl := hfr1.lo
    have hlen1 := hfr1.len
    clear hfr1 k800 k801
    go_upto_block 2 with (fail)
    go_cut [6] (fun v6 wx => FC2 w F v6 wx)
    case first => as_aux_lemma =>
      go_wp2_with fail
      go_loopg [6] (9 - D1.getD 0 0) (fun g v6 wr => FL1 w F g v6 wr)
      case atStart => exact ⟨D1, ex1, rfl, ⟨HFR1.out.at_, HFR1.out.head, by omega, by omega, by omega, HFR1.out.keep⟩, rfl, by omega⟩
      case round =>
        obtain ⟨D2, ex, rfl, hfl, hg, hge⟩ := hrel
        have HFL := Lib.hid hfl
        obtain ⟨cs2, hcs2, hrow2⟩ := hfl.at_
        have q801 := blk_cell hcs2 hrow2.dp
        have kd := blk_cell hcs2 (hrow2.dig 0 (nd_pos hfl.head))
        have h9 := getD_nine hrow2.nine 0
        have hnine := hrow2.nine
        obtain ⟨x, hx⟩ : ∃ x, x = D2.getD 0 0 := ⟨_, rfl⟩
        rw [← hx] at kd h9 hg
        obtain ⟨c, hc⟩ : ∃ c : Int, c = ((48 + x : Nat) : Int) := ⟨_, rfl⟩
        rw [← hc] at kd
        by_cases h5 : 5 ≤ x
        · have t4 : ¬ c < 53 := by omega
          have H5 : Hid (5 ≤ D2.getD 0 0) := Lib.hid (by rw [← hx]; exact h5)
          clear hfl hcs2 hrow2 hg hge hx hc
          go_wp2_with (first | go_meet | fail)
          exact ⟨D2, ex, rfl, HFL.out, H5.out⟩
        · have t4 : c < 53 := by omega
          obtain ⟨pa, pc, kp, hpw⟩ := (HE.out wr hfl.keep).1.pow
          have kc : wr.cell? (pa.add 0) = some (.int .i64 1) := hpw 0 (by decide)
          have HCH := Lib.hid (fun W (hW : Keeps F w W) => (HE.out W hW).1.c1)
          have hlo := hfl.lo
          have hhi := hfl.hi
          have HSL := Lib.hid (fun (W : World) (hW : DAt W F D2 D2.length 0) (hK : Keeps F w W) => shift_left F D2 0 (by omega) 1 (by decide) (by decide) hfl.head 1 (by decide) (txt S1) S1 (digT_txt S1 (by decide)) (by decide) (by decide) 0 (by rw [lt_S1 hfl.head (by rw [← hx]; omega)]; rfl) (by have := hfl.len; omega) (.inl ⟨rfl, car_one hnine hfl.head (by rw [← hx]; omega)⟩) W hW (HCH.out W hK))
          have HG := Lib.hid (And.intro hg (And.intro hge (And.intro hx h5)))
          clear hfl hcs2 hrow2 hg hge hx hc hpw h5 hnine
          go_wp2_with fail
          go_quiet (fail)
          obtain ⟨W1, hW1⟩ : ∃ W1, W1 = wr.drewN nq := ⟨_, rfl⟩
          rw [← hW1]
          have q801' : W1.cell? ⟨F, 801, none⟩ = some (.int .i64 0) := by rw [hW1]; exact q801
          have kp' : W1.cell? ⟨15, 0, none⟩ = some (.slice (some pa) 9 pc) := by rw [hW1]; exact kp
          have kc' : W1.cell? (pa.add 0) = some (.int .i64 1) := by rw [hW1]; exact kc
          have kc2 : W1.cell? pa = some (.int .i64 1) := by
            have := kc'
            rw [show pa.add 0 = pa from by unfold Addr.add; split <;> simp_all] at this
            exact this
          have HW1 := Lib.hid hW1
          clear hW1 q801 kp kc kd
          go_wp2_with fail
          go_quiet (fail)
          obtain ⟨W, hW⟩ : ∃ W, W = W1.drewN nq := ⟨_, rfl⟩
          rw [← hW]
          have hWd : DAt W F D2 D2.length 0 := by rw [hW, HW1.out]; exact HFL.out.at_
          have hWk : Keeps F w W := by rw [hW, HW1.out]; exact keeps_drewN (keeps_drewN HFL.out.keep _) _
          have HW := Lib.hid (And.intro hWd hWk)
          have HFM := Lib.hid (And.intro hlo hhi)
          clear hW hWd hWk q801' kp' kc' kc2
          go_wp2_with fail
          refine (HSL.out W HW.out.1 HW.out.2).mono ?_
          rintro e w' ⟨D', rfl, hd', h1', hmul, hlen', hk'⟩
          have hm' := hmul rfl
          have e21 : (2 : Nat) ^ 1 = 2 := rfl
          rw [e21, ← HG.out.2.2.1] at hm'
          have h9' : D'.getD 0 0 ≤ 9 := by obtain ⟨_, _, hr⟩ := id hd'; exact getD_nine hr.nine 0
          have hd0 : DAt w' F D' D'.length 0 := by simpa using hd'
          have hx1 : 1 ≤ x := by have := HFL.out.head; have := HG.out.2.2.1; omega
          have hexl : -5 ≤ ex := by have h1 := HG.out.1; have h2 := HG.out.2.1; have h3 := HG.out.2.2.2; omega
          have w1 : IntKind.i64.wrap (ex - 1) = ex - 1 := by rw [IntKind.wrap_i64]; omega
          have HN : Hid (FL w F D' (ex - 1) w' ∧ 9 - D'.getD 0 0 < gk ∧ ((9 - D'.getD 0 0 : Nat) : Int) - 9 ≤ ex - 1) := Lib.hid (by
            have h1 := HG.out.1
            have h2 := HG.out.2.1
            have h3 := HG.out.2.2.2
            exact ⟨⟨hd0, by omega, by have := HFL.out.len; omega, by omega, by omega, HW.out.2.trans hk'⟩, by omega, by omega⟩)
          clear hd' h1' hmul hlen' hk' hm' h9' hd0
          go_wp2_with fail
          go_roundg (9 - D'.getD 0 0)
          case measure => exact HN.out.2.1
          case rel => exact ⟨D', _, rfl, HN.out.1, rfl, HN.out.2.2⟩
    case rest => as_aux_lemma =>
      obtain ⟨D2, ex, rfl, hfl, h5⟩ := hcut
      obtain ⟨Wr, hWr, hflr⟩ := name_world (P := FL w F D2 ex) hfl
      subst hWr
      clear hflr
      obtain ⟨⟨gp, gpc, kpw, _⟩, c1, c24, c53⟩ := (HE.out _ hfl.keep).1
      have hinfo := (HE.out _ hfl.keep).2
      obtain ⟨i0, i1, i2, hmb⟩ := id hinfo
      have HFL := Lib.hid (And.intro hfl h5)
      have hlo := hfl.lo
      have hhi := hfl.hi
      clear hh hl hlen1 kpw c1 hfl h5
      have HIN := Lib.hid (fun W (hW : Keeps F w W) => (HE.out W hW).2)
      have w1 : IntKind.i64.wrap (ex - 1) = ex - 1 := by rw [IntKind.wrap_i64]; omega
      have b1 : ¬ ex - 1 < bias + 1 := by omega
      have w2 : IntKind.i64.wrap (bias + 1) = bias + 1 := by rw [IntKind.wrap_i64]; omega
      rcases hmb with ⟨rfl, rfl, rfl⟩ | ⟨rfl, rfl, rfl⟩
      · go_wp2_with fail
        go_quiet (fail)
        obtain ⟨W, hW⟩ : ∃ W, W = Wr.drewN nq := ⟨_, rfl⟩
        rw [← hW]
        have hWd : DAt W F D2 D2.length 0 := by rw [hW]; exact HFL.out.1.at_
        have hWk : Keeps F w W := by rw [hW]; exact keeps_drewN HFL.out.1.keep _
        obtain ⟨j0, j1, j2, _⟩ := HIN.out W hWk
        have HSL := Lib.hid (shift_53 F D2 W hWd HFL.out.1.head HFL.out.2 HFL.out.1.len (HE.out W hWk).1.c53)
        have HWk := Lib.hid hWk
        clear hW hWd hWk i0 i1 i2 c24 c53
        go_wp2_with fail
        refine HSL.out.mono ?_
        rintro e w5 ⟨D5, p5, rfl, hp5, hd5, hk5⟩
        have HRO := Lib.hid (rounded F D5 p5 hp5 w5 hd5)
        have HK5 := Lib.hid (HWk.out.trans hk5)
        obtain ⟨j0', j1', j2', _⟩ := HIN.out w5 HK5.out
        obtain ⟨cs5, hcs5, hrow5⟩ := id hd5
        have h802 : ∃ b, w5.cell? ⟨F, 802, none⟩ = some (.bool b) := by obtain ⟨b, hb⟩ := hrow5.neg; exact ⟨b, blk_cell hcs5 hb⟩
        obtain ⟨ng, h802⟩ := h802
        clear hd5 hk5 hcs5 hrow5 j0 j1 j2
        go_wp2_with fail
        refine HRO.out.mono ?_
        rintro e w6 ⟨⟨mant, rfl, hm0, hm1⟩, n6, rfl⟩
        obtain ⟨W6, hW6⟩ : ∃ W6, W6 = w5.drewN n6 := ⟨_, rfl⟩
        rw [← hW6]
        have hk6 : Keeps F w W6 := by rw [hW6]; exact keeps_drewN HK5.out _
        have g802 : W6.cell? ⟨F, 802, none⟩ = some (.bool ng) := by rw [hW6]; exact h802
        obtain ⟨i0, i1, i2, _⟩ := HIN.out W6 hk6
        have HK6 := Lib.hid hk6
        clear hW6 hk6 h802 j0' j1' j2' hm0 hm1
        go_wp2_with fail
        have HKW6 := HK6
        rotate_left
        · have HKW6 := HK6
          go_step3
          refine inl_goto rfl ?_
          go_wp2_with fail
          go_quiet (fail)
          obtain ⟨W7, hW7⟩ : ∃ W7, W7 = W6.drewN nq := ⟨_, rfl⟩
          rw [← hW7]
          have hk7 : Keeps F w W7 := by rw [hW7]; exact keeps_drewN HKW6.out _
          have g7 : W7.cell? ⟨F, 802, none⟩ = some (.bool ng) := by rw [hW7]; exact g802
          obtain ⟨p0, p1, p2, _⟩ := HIN.out W7 hk7
          have HK7 := Lib.hid hk7
          clear hW7 hk7 g802 i0 i1 i2
          cases ng
          · go_wp2_with fail
            try rw [Exit.noGoto_ret]
            go_ret2
            exact ⟨⟨_, rfl⟩, HK7.out⟩
          · go_wp2_with fail
            go_quiet (fail)
            go_wp2_with fail
            try rw [Exit.noGoto_ret]
            go_ret2
            exact ⟨⟨_, rfl⟩, keeps_drewN HK7.out _⟩
        · have HKW6 := HK6
          go_step3
          refine inl_goto rfl ?_
          go_wp2_with fail
          go_quiet (fail)
          obtain ⟨W7, hW7⟩ : ∃ W7, W7 = W6.drewN nq := ⟨_, rfl⟩
          rw [← hW7]
          have hk7 : Keeps F w W7 := by rw [hW7]; exact keeps_drewN HKW6.out _
          have g7 : W7.cell? ⟨F, 802, none⟩ = some (.bool ng) := by rw [hW7]; exact g802
          obtain ⟨p0, p1, p2, _⟩ := HIN.out W7 hk7
          have HK7 := Lib.hid hk7
          clear hW7 hk7 g802 i0 i1 i2
          cases ng
          · go_wp2_with fail
            try rw [Exit.noGoto_ret]
            go_ret2
            exact ⟨⟨_, rfl⟩, HK7.out⟩
          · go_wp2_with fail
            go_quiet (fail)
            go_wp2_with fail
            try rw [Exit.noGoto_ret]
            go_ret2
            exact ⟨⟨_, rfl⟩, keeps_drewN HK7.out _⟩
        · go_quiet (fail)
          obtain ⟨V6, hV6⟩ : ∃ V6, V6 = W6.drewN nq := ⟨_, rfl⟩
          rw [← hV6]
          have hkv : Keeps F w V6 := by rw [hV6]; exact keeps_drewN HK6.out _
          have gv : V6.cell? ⟨F, 802, none⟩ = some (.bool ng) := by rw [hV6]; exact g802
          have HKV6 := Lib.hid hkv
          clear g802 i0 i1 i2
          obtain ⟨i0, i1, i2, _⟩ := HIN.out V6 hkv
          clear hV6 hkv
          go_wp2_with fail
          · have HKW6 := HKV6
            go_step3
            refine inl_goto rfl ?_
            go_wp2_with fail
            go_quiet (fail)
            obtain ⟨W7, hW7⟩ : ∃ W7, W7 = V6.drewN nq := ⟨_, rfl⟩
            rw [← hW7]
            have hk7 : Keeps F w W7 := by rw [hW7]; exact keeps_drewN HKV6.out _
            have g7 : W7.cell? ⟨F, 802, none⟩ = some (.bool ng) := by rw [hW7]; exact gv
            obtain ⟨p0, p1, p2, _⟩ := HIN.out W7 hk7
            have HK7 := Lib.hid hk7
            clear hW7 hk7 gv i0 i1 i2
            cases ng
            · go_wp2_with fail
              try rw [Exit.noGoto_ret]
              go_ret2
              exact ⟨⟨_, rfl⟩, HK7.out⟩
            · go_wp2_with fail
              go_quiet (fail)
              go_wp2_with fail
              try rw [Exit.noGoto_ret]
              go_ret2
              exact ⟨⟨_, rfl⟩, keeps_drewN HK7.out _⟩
          · have HKW6 := HKV6
            go_step3
            refine inl_goto rfl ?_
            go_wp2_with fail
            go_quiet (fail)
            obtain ⟨W7, hW7⟩ : ∃ W7, W7 = V6.drewN nq := ⟨_, rfl⟩
            rw [← hW7]
            have hk7 : Keeps F w W7 := by rw [hW7]; exact keeps_drewN HKV6.out _
            have g7 : W7.cell? ⟨F, 802, none⟩ = some (.bool ng) := by rw [hW7]; exact gv
            obtain ⟨p0, p1, p2, _⟩ := HIN.out W7 hk7
            have HK7 := Lib.hid hk7
            clear hW7 hk7 gv i0 i1 i2
            cases ng
            · go_wp2_with fail
              try rw [Exit.noGoto_ret]
              go_ret2
              exact ⟨⟨_, rfl⟩, HK7.out⟩
            · go_wp2_with fail
              go_quiet (fail)
              go_wp2_with fail
              try rw [Exit.noGoto_ret]
              go_ret2
              exact ⟨⟨_, rfl⟩, keeps_drewN HK7.out _⟩
      · go_wp2_with fail
        go_quiet (fail)
        obtain ⟨W, hW⟩ : ∃ W, W = Wr.drewN nq := ⟨_, rfl⟩
        rw [← hW]
        have hWd : DAt W F D2 D2.length 0 := by rw [hW]; exact HFL.out.1.at_
        have hWk : Keeps F w W := by rw [hW]; exact keeps_drewN HFL.out.1.keep _
        obtain ⟨j0, j1, j2, _⟩ := HIN.out W hWk
        have HSL := Lib.hid (shift_24 F D2 W hWd HFL.out.1.head HFL.out.2 HFL.out.1.len (HE.out W hWk).1.c24)
        have HWk := Lib.hid hWk
        clear hW hWd hWk i0 i1 i2 c24 c53
        go_wp2_with fail
        refine HSL.out.mono ?_
        rintro e w5 ⟨D5, p5, rfl, hp5, hd5, hk5⟩
        have HRO := Lib.hid (rounded F D5 p5 hp5 w5 hd5)
        have HK5 := Lib.hid (HWk.out.trans hk5)
        obtain ⟨j0', j1', j2', _⟩ := HIN.out w5 HK5.out
        obtain ⟨cs5, hcs5, hrow5⟩ := id hd5
        have h802 : ∃ b, w5.cell? ⟨F, 802, none⟩ = some (.bool b) := by obtain ⟨b, hb⟩ := hrow5.neg; exact ⟨b, blk_cell hcs5 hb⟩
        obtain ⟨ng, h802⟩ := h802
        clear hd5 hk5 hcs5 hrow5 j0 j1 j2
        go_wp2_with fail
        refine HRO.out.mono ?_
        rintro e w6 ⟨⟨mant, rfl, hm0, hm1⟩, n6, rfl⟩
        obtain ⟨W6, hW6⟩ : ∃ W6, W6 = w5.drewN n6 := ⟨_, rfl⟩
        rw [← hW6]
        have hk6 : Keeps F w W6 := by rw [hW6]; exact keeps_drewN HK5.out _
        have g802 : W6.cell? ⟨F, 802, none⟩ = some (.bool ng) := by rw [hW6]; exact h802
        obtain ⟨i0, i1, i2, _⟩ := HIN.out W6 hk6
        have HK6 := Lib.hid hk6
        clear hW6 hk6 h802 j0' j1' j2' hm0 hm1
        go_wp2_with fail
        have HKW6 := HK6
        rotate_left
        · have HKW6 := HK6
          go_step3
          refine inl_goto rfl ?_
          go_wp2_with fail
          go_quiet (fail)
          obtain ⟨W7, hW7⟩ : ∃ W7, W7 = W6.drewN nq := ⟨_, rfl⟩
          rw [← hW7]
          have hk7 : Keeps F w W7 := by rw [hW7]; exact keeps_drewN HKW6.out _
          have g7 : W7.cell? ⟨F, 802, none⟩ = some (.bool ng) := by rw [hW7]; exact g802
          obtain ⟨p0, p1, p2, _⟩ := HIN.out W7 hk7
          have HK7 := Lib.hid hk7
          clear hW7 hk7 g802 i0 i1 i2
          cases ng
          · go_wp2_with fail
            try rw [Exit.noGoto_ret]
            go_ret2
            exact ⟨⟨_, rfl⟩, HK7.out⟩
          · go_wp2_with fail
            go_quiet (fail)
            go_wp2_with fail
            try rw [Exit.noGoto_ret]
            go_ret2
            exact ⟨⟨_, rfl⟩, keeps_drewN HK7.out _⟩
        · have HKW6 := HK6
          go_step3
          refine inl_goto rfl ?_
          go_wp2_with fail
          go_quiet (fail)
          obtain ⟨W7, hW7⟩ : ∃ W7, W7 = W6.drewN nq := ⟨_, rfl⟩
          rw [← hW7]
          have hk7 : Keeps F w W7 := by rw [hW7]; exact keeps_drewN HKW6.out _
          have g7 : W7.cell? ⟨F, 802, none⟩ = some (.bool ng) := by rw [hW7]; exact g802
          obtain ⟨p0, p1, p2, _⟩ := HIN.out W7 hk7
          have HK7 := Lib.hid hk7
          clear hW7 hk7 g802 i0 i1 i2
          cases ng
          · go_wp2_with fail
            try rw [Exit.noGoto_ret]
            go_ret2
            exact ⟨⟨_, rfl⟩, HK7.out⟩
          · go_wp2_with fail
            go_quiet (fail)
            go_wp2_with fail
            try rw [Exit.noGoto_ret]
            go_ret2
            exact ⟨⟨_, rfl⟩, keeps_drewN HK7.out _⟩
        · go_quiet (fail)
          obtain ⟨V6, hV6⟩ : ∃ V6, V6 = W6.drewN nq := ⟨_, rfl⟩
          rw [← hV6]
          have hkv : Keeps F w V6 := by rw [hV6]; exact keeps_drewN HK6.out _
          have gv : V6.cell? ⟨F, 802, none⟩ = some (.bool ng) := by rw [hV6]; exact g802
          have HKV6 := Lib.hid hkv
          clear g802 i0 i1 i2
          obtain ⟨i0, i1, i2, _⟩ := HIN.out V6 hkv
          clear hV6 hkv
          go_wp2_with fail
          · have HKW6 := HKV6
            go_step3
            refine inl_goto rfl ?_
            go_wp2_with fail
            go_quiet (fail)
            obtain ⟨W7, hW7⟩ : ∃ W7, W7 = V6.drewN nq := ⟨_, rfl⟩
            rw [← hW7]
            have hk7 : Keeps F w W7 := by rw [hW7]; exact keeps_drewN HKV6.out _
            have g7 : W7.cell? ⟨F, 802, none⟩ = some (.bool ng) := by rw [hW7]; exact gv
            obtain ⟨p0, p1, p2, _⟩ := HIN.out W7 hk7
            have HK7 := Lib.hid hk7
            clear hW7 hk7 gv i0 i1 i2
            cases ng
            · go_wp2_with fail
              try rw [Exit.noGoto_ret]
              go_ret2
              exact ⟨⟨_, rfl⟩, HK7.out⟩
            · go_wp2_with fail
              go_quiet (fail)
              go_wp2_with fail
              try rw [Exit.noGoto_ret]
              go_ret2
              exact ⟨⟨_, rfl⟩, keeps_drewN HK7.out _⟩
          · have HKW6 := HKV6
            go_step3
            refine inl_goto rfl ?_
            go_wp2_with fail
            go_quiet (fail)
            obtain ⟨W7, hW7⟩ : ∃ W7, W7 = V6.drewN nq := ⟨_, rfl⟩
            rw [← hW7]
            have hk7 : Keeps F w W7 := by rw [hW7]; exact keeps_drewN HKV6.out _
            have g7 : W7.cell? ⟨F, 802, none⟩ = some (.bool ng) := by rw [hW7]; exact gv
            obtain ⟨p0, p1, p2, _⟩ := HIN.out W7 hk7
            have HK7 := Lib.hid hk7
            clear hW7 hk7 gv i0 i1 i2
            cases ng
            · go_wp2_with fail
              try rw [Exit.noGoto_ret]
              go_ret2
              exact ⟨⟨_, rfl⟩, HK7.out⟩
            · go_wp2_with fail
              go_quiet (fail)
              go_wp2_with fail
              try rw [Exit.noGoto_ret]
              go_ret2
              exact ⟨⟨_, rfl⟩, keeps_drewN HK7.out _⟩

end Go.Proofs.YtpneioocmpagmaaGreatDoor.dc

