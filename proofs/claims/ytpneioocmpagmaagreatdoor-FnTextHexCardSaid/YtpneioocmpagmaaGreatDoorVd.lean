/- internal/strconv.leftShift: a decimal number with binary digits more. -/
import Derived.Test.YtpneioocmpagmaaGreatDoorVa
namespace Go.Proofs.YtpneioocmpagmaaGreatDoor.dc
open Go.RowKit
open Go.Proofs.YtpneioocmpagmaaGreatDoor.tx (Keeps blk_cell blk_frozen blk_set)
set_option linter.unusedVariables false
set_option linter.unusedSimpArgs false

/-- The number's block while it is shifted: the new digits E stand from o on, the old ones ahead of i. -/
structure LS (cs : Array Value) (D E : List Nat) (i o nd : Nat) (dp : Int) : Prop where
  size : cs.size = 804
  any : ∀ j, j < 800 → ∃ z : Nat, z < 256 ∧ cs[j]? = some (.int .u8 (z : Int))
  old : ∀ j, j < i → cs[j]? = some (.int .u8 ((48 + D.getD j 0 : Nat) : Int))
  new : ∀ j, j < E.length → cs[o + j]? = some (.int .u8 ((48 + E.getD j 0 : Nat) : Int))
  nd : cs[800]? = some (.int .i64 (nd : Int))
  dp : cs[801]? = some (.int .i64 dp)
  neg : ∃ b, cs[802]? = some (.bool b)
  tr : ∃ b, cs[803]? = some (.bool b)
  le : o + E.length ≤ 799
  nine : ∀ d ∈ E, d ≤ 9

theorem LS.of {cs : Array Value} {D : List Nat} {nd : Nat} {dp : Int} (h : Row cs D nd dp) (o : Nat) (ho : o ≤ 799) : LS cs D [] D.length o nd dp :=
  ⟨h.size, h.any, fun j hj => h.dig j hj, fun j hj => by simp at hj, h.nd, h.dp, h.neg, h.tr, by simpa using ho, fun d hd => by simp at hd⟩

theorem LS.write {cs : Array Value} {D E : List Nat} {i o nd : Nat} {dp : Int} (h : LS cs D E i (o + 1) nd dp) (i' : Nat) (hi : i' ≤ i) (hio : i' ≤ o) (x : Nat) (hx : x ≤ 9) (v : Int) (hv : v = ((48 + x : Nat) : Int)) :
    LS (cs.setIfInBounds o (.int .u8 v)) D (x :: E) i' o nd dp := by
  subst hv
  have hs := h.size
  have hl := h.le
  refine ⟨by simpa using hs, fun j hj => ?_, fun j hj => ?_, fun j hj => ?_, ?_, ?_, ?_, ?_, by simp; omega, fun d hd => ?_⟩
  · by_cases e : j = o
    · subst e; exact ⟨48 + x, by omega, by rw [Array.getElem?_setIfInBounds_self_of_lt (by omega)]⟩
    · rw [Array.getElem?_setIfInBounds_ne (by omega)]; exact h.any j hj
  · rw [Array.getElem?_setIfInBounds_ne (by omega)]; exact h.old j (by omega)
  · cases j with
    | zero => rw [Nat.add_zero, Array.getElem?_setIfInBounds_self_of_lt (by omega)]; simp
    | succ j =>
      rw [Array.getElem?_setIfInBounds_ne (by omega)]
      have := h.new j (by simpa using hj)
      rw [show o + 1 + j = o + (j + 1) from by omega] at this
      simpa using this
  · rw [Array.getElem?_setIfInBounds_ne (by omega)]; exact h.nd
  · rw [Array.getElem?_setIfInBounds_ne (by omega)]; exact h.dp
  · rw [Array.getElem?_setIfInBounds_ne (by omega)]; exact h.neg
  · rw [Array.getElem?_setIfInBounds_ne (by omega)]; exact h.tr
  · rcases List.mem_cons.1 hd with rfl | h1
    · exact hx
    · exact h.nine d h1

theorem LS.done {cs : Array Value} {D E : List Nat} {nd : Nat} {dp dp' : Int} (h : LS cs D E 0 0 nd dp) : Row ((cs.setIfInBounds 800 (.int .i64 (E.length : Int))).setIfInBounds 801 (.int .i64 dp')) E E.length dp' := by
  have hs := h.size
  have hl := h.le
  have h1 : Row (cs.setIfInBounds 800 (.int .i64 (E.length : Int))) E E.length dp := by
    refine ⟨by simpa using hs, fun j hj => ?_, fun j hj => ?_, ?_, ?_, ?_, ?_, by omega, h.nine⟩
    · rw [Array.getElem?_setIfInBounds_ne (by omega)]; exact h.any j hj
    · rw [Array.getElem?_setIfInBounds_ne (by omega)]
      have := h.new j hj
      rw [Nat.zero_add] at this; exact this
    · rw [Array.getElem?_setIfInBounds_self_of_lt (by omega)]
    · rw [Array.getElem?_setIfInBounds_ne (by omega)]; exact h.dp
    · rw [Array.getElem?_setIfInBounds_ne (by omega)]; exact h.neg
    · rw [Array.getElem?_setIfInBounds_ne (by omega)]; exact h.tr
  exact h1.point dp'

/-- What is carried out of the digits from i on. -/
def car (D : List Nat) (M i : Nat) : Nat := val (D.drop i) * M / 10 ^ (D.length - i)

theorem car_end (D : List Nat) (M : Nat) : car D M D.length = 0 := by
  unfold car
  rw [List.drop_length]; simp [val]

theorem car_step (D : List Nat) (M i : Nat) (hi : i < D.length) : car D M i = (car D M (i + 1) + D.getD i 0 * M) / 10 := by
  unfold car
  rw [List.drop_eq_getElem_cons hi]
  have e1 : D.getD i 0 = D[i] := by rw [List.getD_eq_getElem?_getD, List.getElem?_eq_getElem hi]; rfl
  rw [e1]
  have hl : (D.drop (i + 1)).length = D.length - (i + 1) := by simp
  simp only [val, hl]
  obtain ⟨p, hp⟩ : ∃ p, p = D.length - (i + 1) := ⟨_, rfl⟩
  rw [← hp, show D.length - i = p + 1 from by omega, Nat.pow_succ]
  have hP : 0 < 10 ^ p := Nat.pow_pos (by decide)
  rw [← Nat.div_div_eq_div_mul, Nat.add_mul]
  congr 1
  rw [show D[i] * 10 ^ p * M = D[i] * M * 10 ^ p from by rw [Nat.mul_assoc, Nat.mul_comm (10 ^ p), ← Nat.mul_assoc]]
  rw [Nat.add_comm, Nat.add_mul_div_right _ _ hP]

theorem car_lt (D : List Nat) (M i : Nat) (h : ∀ d ∈ D, d ≤ 9) (hM : 1 ≤ M) : car D M i < M := by
  unfold car
  have h1 := val_lt (D.drop i) (fun d hd => h d (List.mem_of_mem_drop hd))
  rw [List.length_drop] at h1
  rw [Nat.div_lt_iff_lt_mul (Nat.pow_pos (by decide)), Nat.mul_comm M]
  exact Nat.mul_lt_mul_of_pos_right h1 (by omega)

/-- What stands between rounds. -/
structure L1 (w : World) (F : Nat) (D : List Nat) (dp : Int) (E : List Nat) (i o nd : Nat) (wr : World) : Prop where
  blk : ∃ cs, wr.heap[F]? = some (.cells cs 246 (0, 0)) ∧ LS cs D E i o nd dp
  keep : Keeps F w wr

theorem L1.step {w : World} {F : Nat} {D : List Nat} {dp : Int} {E : List Nat} {i o nd : Nat} {wr : World} (h : L1 w F D dp E i (o + 1) nd wr) (i' : Nat) (hi : i' ≤ i) (hio : i' ≤ o) (x : Nat) (hx : x ≤ 9) (v : Int) (hv : v = ((48 + x : Nat) : Int)) :
    L1 w F D dp (x :: E) i' o nd (wr.setCell ⟨F, o, none⟩ (.int .u8 v)) := by
  obtain ⟨cs, hcs, hls⟩ := h.blk
  exact ⟨⟨_, DAt.set hcs o _, hls.write i' hi hio x hx v hv⟩, h.keep.setCell o _⟩

/-- The table's row for k: how many digits more, and from which text on. -/
def Cheat (w : World) (k delta : Nat) (s : ByteArray) : Prop :=
  ∃ (a : Addr) (c : Nat), w.cell? ⟨18, 0, none⟩ = some (.slice (some a) 61 c) ∧ w.cell? (a.add (k * 2)) = some (.int .i64 (delta : Int)) ∧ w.cell? ⟨(a.add (k * 2)).block, (a.add (k * 2)).off + 1, none⟩ = some (.string s)

/-- What stands between rounds of the first loop. -/
def LR1 (w : World) (F : Nat) (D : List Nat) (dp : Int) (M delta : Nat) (v5 v6 v7 : Value) (wr : World) : Prop :=
  ∃ (i : Nat) (E : List Nat), i ≤ D.length ∧ v5 = .int .i64 ((i : Int) - 1) ∧ v6 = .int .i64 ((i + delta : Nat) : Int) ∧ v7 = .int .u64 ((car D M i : Nat) : Int) ∧ L1 w F D dp E i (i + delta) D.length wr ∧ E.length = D.length - i ∧
    (i < D.length → E.getD 0 0 = (car D M (i + 1) + D.getD i 0 * M) % 10)

/-- What stands between rounds of the second loop. -/
def LR2 (w : World) (F : Nat) (D : List Nat) (dp : Int) (M delta : Nat) (v6 v7 : Value) (wr : World) : Prop :=
  ∃ (o n : Nat) (E : List Nat), v6 = .int .i64 (o : Int) ∧ v7 = .int .u64 (n : Int) ∧ o ≤ delta ∧ L1 w F D dp E 0 o D.length wr ∧ E.length = D.length + (delta - o) ∧
    ((o = 0 ∧ n = 0) ∨ (1 ≤ o ∧ 10 ^ (o - 1) ≤ n ∧ n < 10 ^ o)) ∧ (o = 0 → 1 ≤ E.getD 0 0) ∧ (delta = 0 → D.getD 0 0 * M ≤ E.getD 0 0)

def LSays (w : World) (F : Nat) (D : List Nat) (dp : Int) (M delta : Nat) (e : Ending) (w' : World) : Prop :=
  ∃ D' : List Nat, e = .returned (.tuple #[]) ∧ DAt w' F D' D'.length (dp + (delta : Int)) ∧ 1 ≤ D'.getD 0 0 ∧ (delta = 0 → D.getD 0 0 * M ≤ D'.getD 0 0) ∧ D'.length ≤ D.length + delta ∧ Keeps F w w'

set_option maxHeartbeats 8000000 in
set_option maxRecDepth 100000 in
theorem left_shift (F : Nat) (D : List Nat) (dp : Int) (hdp : -1000000 ≤ dp ∧ dp ≤ 1000000) (k : Nat) (hk : 1 ≤ k) (hk2 : k ≤ 60) (hd : D.getD 0 0 ≠ 0) (d0 : Nat) (hd0 : 1 ≤ d0 ∧ d0 ≤ 100) (s : ByteArray) (S : List Nat) (hS : DigT s S) (hSl : S.length ≤ 100) (hS9 : ∀ d ∈ S, d ≤ 9)
    (delta : Nat) (hdel : delta = d0 - (if lexLt D S then 1 else 0)) (hlen : D.length + d0 ≤ 790)
    (hcar : (delta = 0 ∧ car D (2 ^ k) 0 = 0) ∨ (1 ≤ delta ∧ 10 ^ (delta - 1) ≤ car D (2 ^ k) 0 ∧ car D (2 ^ k) 0 < 10 ^ delta))
    (w : World) (h : DAt w F D D.length dp) (hch : Cheat w k d0 s) :
    Calls Tryz.prog 224 #[.pointer (some ⟨F, 0, none⟩), .int .u64 k] w fun e w' => LSays w F D dp (2 ^ k) delta e w' := by
  obtain ⟨M, hM⟩ : ∃ M, M = 2 ^ k := ⟨_, rfl⟩
  have hM2 : M ≤ 1152921504606846976 := by
    rw [hM]; exact Nat.le_trans (Nat.pow_le_pow_right (by decide) hk2) (by decide)
  have hM1 : 2 ≤ M := by rw [hM]; exact Nat.le_trans (by decide) (Nat.pow_le_pow_right (by decide) hk)
  have hMi : (2 : Int) ^ k = (M : Int) := by rw [hM]; simp
  rw [← hM] at hcar ⊢
  obtain ⟨cs, hcs, hrow⟩ := id h
  obtain ⟨ta, tc, hg, ht1, ht2⟩ := hch
  have hlen1 : 1 ≤ D.length := by
    refine Nat.one_le_iff_ne_zero.2 fun e => hd ?_
    rw [List.eq_nil_of_length_eq_zero e]; rfl
  have hl8 := hrow.le
  have k800 := blk_cell hcs hrow.nd
  have HP := Lib.hid (fun n => prefix_less F 800 D S s hl8 hl8 hSl hS (w.drewN n) (fun j hj => blk_cell hcs (hrow.dig j hj)) hrow.nine hS9)
  have HCS := Lib.hid (And.intro hcs hrow)
  have HMM := Lib.hid (And.intro hM (And.intro hM2 hM1))
  have HDD := Lib.hid hd
  have HDP := Lib.hid hdp
  have HCAR := Lib.hid hcar
  have hki : (k : Int) < 61 := by omega
  clear h hcs hrow hd hM hM2 hM1 hdp hcar hS hS9
  go_enter Tryz.func224, Tryz.ntmps224
  go_wp2_with fail
  have hdi : (0 : Int) ≤ (D.length : Int) := by omega
  have hdi8 : (D.length : Int) ≤ 800 := by omega
  obtain ⟨R, hR⟩ : ∃ R, R = lexLt D S := ⟨_, rfl⟩
  rw [← hR] at HP hdel
  go_quiet ((go_at_call 240; exact Calls.quiet_of (HP.out _)))
  obtain ⟨W, hW⟩ : ∃ W, W = w.drewN nq := ⟨_, rfl⟩
  rw [← hW]
  have hWc : W.heap[F]? = some (.cells cs 246 (0, 0)) := by rw [hW]; exact HCS.out.1
  have hWk : Keeps F w W := by rw [hW]; exact keeps_drewN (Keeps.refl F w) nq
  have q800 := blk_cell hWc HCS.out.2.nd
  have HW := Lib.hid (And.intro hWc hWk)
  clear hW k800 hg ht1 ht2 hdi hdi8
  have w2 : IntKind.i64.wrap ((D.length : Int) - 1) = (D.length : Int) - 1 := by rw [IntKind.wrap_i64]; omega
  have hdd : ((d0 : Int) - 1 = (delta : Int) ∧ R = true) ∨ (d0 = delta ∧ R = false) := by
    cases R
    · right; simp at hdel; exact ⟨hdel.symm, rfl⟩
    · left; simp at hdel; exact ⟨by omega, rfl⟩
  go_upto_if 30 with (fail)
  go_cut [4] (fun v4 wx => v4 = .int .i64 (delta : Int) ∧ W = wx)
  case first => as_aux_lemma =>
    rcases hdd with ⟨hdd, rfl⟩ | ⟨rfl, rfl⟩
    · have w3 : IntKind.i64.wrap ((d0 : Int) - 1) = (delta : Int) := by rw [IntKind.wrap_i64]; omega
      go_wp2_with (first | go_meet | fail)
    · go_wp2_with (first | go_meet | fail)
  case rest => as_aux_lemma =>
    obtain ⟨rfl, rfl⟩ := hcut
    have HLE := Lib.hid (And.intro hlen (And.intro hlen1 hl8))
    have hde : delta ≤ d0 := by omega
    have HDE := Lib.hid hde
    have w0 : IntKind.i64.wrap ((D.length : Int) + (delta : Int)) = ((D.length + delta : Nat) : Int) := by rw [IntKind.wrap_i64]; omega
    obtain ⟨st, hst⟩ : ∃ st : Nat, st = D.length + delta := ⟨_, rfl⟩
    have e0 : (D.length : Int) + (delta : Int) = (st : Int) := by omega
    rw [← hst] at w0
    have w00 : IntKind.i64.wrap (st : Int) = (st : Int) := by rw [IntKind.wrap_i64]; omega
    have HST := Lib.hid hst
    clear hdd hde hdel hst
    go_wp2_with fail
    clear e0 w0 w00
    go_loopw [5, 6, 7] (fun v5 v6 v7 wr => LR1 w F D dp M delta v5 v6 v7 wr) (fun v5 _ _ _ => (intOf v5 + 1).toNat)
    case atStart =>
      refine ⟨D.length, [], Nat.le_refl _, rfl, by rw [HST.out], by rw [car_end]; rfl, ⟨⟨cs, HW.out.1, LS.of HCS.out.2 _ (by have := HLE.out; have := HDE.out; omega)⟩, HW.out.2⟩, by simp, fun h => absurd h (Nat.lt_irrefl _)⟩
    case round =>
      obtain ⟨i, E, hi, rfl, rfl, rfl, hl1, hel, hef⟩ := hrel
      have HL := Lib.hid hl1
      obtain ⟨cs2, hcs2, hls2⟩ := hl1.blk
      have hle2 := HLE.out
      have hde2 := HDE.out
      have hM2 := HMM.out.2.1
      have h9 := HCS.out.2.nine
      cases i with
      | zero =>
        have t0 : ¬ (0 : Int) ≤ ((0 : Nat) : Int) - 1 := by omega
        have hE0 : 0 < D.length → E.getD 0 0 = (car D M 1 + D.getD 0 0 * M) % 10 := hef
        have hc0 := car_step D M 0 (by omega)
        have hstart : LR2 w F D dp M delta (.int .i64 ((0 + delta : Nat) : Int)) (.int .u64 ((car D M 0 : Nat) : Int)) wr := by
          rw [Nat.zero_add] at hl1 hc0 ⊢
          have hz : delta = 0 → D.getD 0 0 * M ≤ E.getD 0 0 := by
            intro hd0
            rw [hE0 (by omega)]
            rcases HCAR.out with ⟨_, h⟩ | ⟨h, _⟩
            · rw [h] at hc0
              omega
            · omega
          refine ⟨delta, car D M 0, E, rfl, rfl, Nat.le_refl _, hl1, by rw [hel]; omega, HCAR.out.elim (fun h => .inl h) (fun h => .inr h), fun h => ?_, hz⟩
          have h1 := hz h
          have h2 : 1 ≤ D.getD 0 0 * M := Nat.mul_pos (Nat.pos_of_ne_zero HDD.out) (by have := HMM.out.2.2; omega)
          omega
        have HS := Lib.hid hstart
        clear hl1 hcs2 hls2 hle2 hde2 hM2 h9 hE0 hc0 hstart hi hel hef
        go_wp2_with fail
        go_loopw [6, 7] (fun v6 v7 wx => LR2 w F D dp M delta v6 v7 wx) (fun _ v7 _ => (intOf v7).toNat)
        case atStart => first | exact HS.out | (have := HS.out; rw [Nat.zero_add] at this; exact this)
        case round =>
          obtain ⟨o, n, E2, rfl, rfl, hod, hl2, hel2, hon, ho0, hd00⟩ := hrel
          have HL2 := Lib.hid hl2
          obtain ⟨cs3, hcs3, hls3⟩ := hl2.blk
          have hle3 := HLE.out
          have hde3 := HDE.out
          by_cases hn0 : n = 0
          · subst hn0
            obtain rfl : o = 0 := by
              rcases hon with ⟨h, _⟩ | ⟨h1, h2, _⟩
              · exact h
              · have := Nat.one_le_pow (o - 1) 10 (by decide); omega
            have t1 : ¬ (0 : Int) < ((0 : Nat) : Int) := by omega
            have q800' := blk_cell hcs3 hls3.nd
            have q801' := blk_cell hcs3 hls3.dp
            have f800 := blk_frozen hcs3 800
            have f801 := blk_frozen hcs3 801
            have hll : E2.length = D.length + delta := by omega
            obtain ⟨nn, hnn⟩ : ∃ x : Nat, x = D.length + delta := ⟨_, rfl⟩
            have w1 : IntKind.i64.wrap ((D.length : Int) + (delta : Int)) = (nn : Int) := by rw [IntKind.wrap_i64]; omega
            have e1 : (D.length : Int) + (delta : Int) = (nn : Int) := by omega
            have t2 : ¬ (800 : Int) ≤ (nn : Int) := by omega
            obtain ⟨dd, hdd⟩ : ∃ x : Int, x = dp + (delta : Int) := ⟨_, rfl⟩
            have w3 : IntKind.i64.wrap (dp + (delta : Int)) = dd := by rw [IntKind.wrap_i64]; have := HDP.out; omega
            have hrow2 : Row ((cs3.setIfInBounds 800 (.int .i64 (nn : Int))).setIfInBounds 801 (.int .i64 dd)) E2 E2.length dd := by
              have := hls3.done (dp' := dd)
              rw [show (E2.length : Int) = (nn : Int) from by omega] at this
              exact this
            have HD4 : Hid (DAt ((wr.setCell ⟨F, 800, none⟩ (.int .i64 (nn : Int))).setCell ⟨F, 801, none⟩ (.int .i64 dd)) F E2 E2.length dd) := Lib.hid ⟨_, DAt.set (DAt.set hcs3 800 _) 801 _, hrow2⟩
            have hh0 : 1 ≤ E2.getD 0 0 := ho0 rfl
            have HT := Lib.hid (trim_any F E2 dd _ HD4.out)
            have HE2 := Lib.hid (And.intro hh0 (And.intro hd00 (And.intro hll hdd)))
            clear hl2 hcs3 hls3 hle3 hde3 hod hel2 hon ho0 hd00 hll hnn hdd hrow2 hh0
            go_wp2_with fail
            refine HT.out.mono ?_
            rintro e w' ⟨rfl, hd', hk'⟩
            have hh := strip_head (D := E2) (by have := HE2.out.1; omega)
            rw [if_neg (by intro h; rw [h] at hh; simp at hh)] at hd'
            have HDK := Lib.hid (And.intro hd' (And.intro hk' hh))
            clear hd' hk' hh
            go_wp2_with fail
            go_returns
            exact ⟨_, rfl, by rw [← HE2.out.2.2.2]; exact HDK.out.1, by rw [HDK.out.2.2.1]; exact HE2.out.1, fun h => by rw [HDK.out.2.2.1]; exact HE2.out.2.1 h, by have := HDK.out.2.2.2.2; have := HE2.out.2.2.1; omega, ((HL2.out.keep.setCell 800 _).setCell 801 _).trans HDK.out.2.1⟩
          · have t1 : (0 : Int) < (n : Int) := by omega
            obtain ⟨o', rfl⟩ : ∃ o', o = o' + 1 := ⟨o - 1, by rcases hon with ⟨_, h⟩ | ⟨h, _⟩ <;> omega⟩
            have hon2 : 10 ^ o' ≤ n ∧ n < 10 ^ (o' + 1) := by
              rcases hon with ⟨h, _⟩ | ⟨_, h⟩
              · omega
              · exact h
            have hnb : n < 10000000000000000000 := by
              have h1 := car_lt D M 0 HCS.out.2.nine (by have := HMM.out.2.2; omega)
              have h2 : delta ≤ 19 := by
                rcases HCAR.out with ⟨h, _⟩ | ⟨_, h, _⟩
                · omega
                · refine Nat.le_of_not_lt fun hlt => ?_
                  have h3 : (10 : Nat) ^ 19 ≤ 10 ^ (delta - 1) := Nat.pow_le_pow_right (by decide) (by omega)
                  have h4 : (10 : Nat) ^ 19 = 10000000000000000000 := by decide
                  have := HMM.out.2.1
                  omega
              have h5 : (10 : Nat) ^ (o' + 1) ≤ 10 ^ 19 := Nat.pow_le_pow_right (by decide) (by omega)
              have h4 : (10 : Nat) ^ 19 = 10000000000000000000 := by decide
              omega
            obtain ⟨z, hz, hzc⟩ := hls3.any o' (by omega)
            have kw := blk_cell hcs3 hzc
            have fw := blk_frozen hcs3 o'
            obtain ⟨q, hq⟩ : ∃ q, q = n / 10 := ⟨_, rfl⟩
            obtain ⟨rem, hrem⟩ : ∃ x : Nat, x = n % 10 := ⟨_, rfl⟩
            obtain ⟨v, hv⟩ : ∃ x : Int, x = (rem : Int) + 48 := ⟨_, rfl⟩
            obtain ⟨q10, hq10⟩ : ∃ x : Int, x = 10 * (q : Int) := ⟨_, rfl⟩
            have e2 : (n : Int) / 10 = (q : Int) := by omega
            have w11 : IntKind.u64.wrap (q : Int) = (q : Int) := by rw [IntKind.wrap_u64]; omega
            have w5 : IntKind.u64.wrap (10 * (q : Int)) = q10 := by rw [IntKind.wrap_u64]; omega
            have w6 : IntKind.u64.wrap ((n : Int) - q10) = (rem : Int) := by rw [IntKind.wrap_u64]; omega
            have w7 : IntKind.u64.wrap ((rem : Int) + 48) = v := by rw [IntKind.wrap_u64]; omega
            have w8 : IntKind.u8.wrap v = v := by rw [IntKind.wrap_u8]; omega
            have w12 : v % 256 = v := by omega
            obtain ⟨iw, hiw⟩ : ∃ x : Int, x = ((o' + 1 : Nat) : Int) := ⟨_, rfl⟩
            rw [← hiw]
            have w9 : IntKind.i64.wrap (iw - 1) = (o' : Int) := by rw [IntKind.wrap_i64]; omega
            have e9 : iw - 1 = (o' : Int) := by omega
            have t3 : (o' : Int) < 800 := by omega
            have hrem9 : rem ≤ 9 := by omega
            have hqn : q < n := by omega
            have HN : Hid (L1 w F D dp (rem :: E2) 0 o' D.length (wr.setCell ⟨F, o', none⟩ (.int .u8 v))) := Lib.hid (HL2.out.step 0 (Nat.le_refl _) (by omega) rem hrem9 v (by rw [hv]; omega))
            have HE : Hid ((rem :: E2).length = D.length + (delta - o') ∧ ((o' = 0 ∧ q = 0) ∨ (1 ≤ o' ∧ 10 ^ (o' - 1) ≤ q ∧ q < 10 ^ o')) ∧ (o' = 0 → 1 ≤ (rem :: E2).getD 0 0) ∧ (delta = 0 → D.getD 0 0 * M ≤ (rem :: E2).getD 0 0) ∧ o' ≤ delta) := Lib.hid (by
              refine ⟨by simp; omega, ?_, fun h => ?_, fun h => by omega, by omega⟩
              · cases o' with
                | zero => left; simp at hon2; omega
                | succ o2 =>
                  right
                  have h1 : (10 : Nat) ^ (o2 + 1) = 10 ^ o2 * 10 := Nat.pow_succ ..
                  have h2 : (10 : Nat) ^ (o2 + 1 + 1) = 10 ^ (o2 + 1) * 10 := Nat.pow_succ ..
                  rw [h2] at hon2
                  refine ⟨by omega, ?_, by omega⟩
                  show 10 ^ o2 ≤ q
                  rw [h1] at hon2
                  omega
              · subst h
                show 1 ≤ rem
                simp at hon2
                omega)
            clear hl2 hcs3 hls3 hle3 hde3 hod hel2 hon ho0 hd00 hon2 hnb hz hzc hq hrem hv hq10 hiw hrem9 hn0
            go_wp2_with fail
            refine ⟨⟨o', q, rem :: E2, rfl, rfl, HE.out.2.2.2.2, HN.out, HE.out.1, HE.out.2.1, HE.out.2.2.1, HE.out.2.2.2.1⟩, by first | (simp [intOf]; done) | (simp [intOf]; omega)⟩
      | succ i =>
        have hiD : i < D.length := by omega
        have kd := blk_cell hcs2 (hls2.old i (by omega))
        obtain ⟨z, hz, hzc⟩ := hls2.any (i + delta) (by omega)
        have kw := blk_cell hcs2 hzc
        have fw := blk_frozen hcs2 (i + delta)
        have hd9 := getD_nine h9 i
        have hcl := car_lt D M (i + 1) h9 (by have := HMM.out.2.2; omega)
        have hcs := car_step D M i hiD
        obtain ⟨d, hd⟩ : ∃ d, d = D.getD i 0 := ⟨_, rfl⟩
        rw [← hd] at kd hd9 hcs
        obtain ⟨n, hn⟩ : ∃ n, n = car D M (i + 1) := ⟨_, rfl⟩
        rw [← hn] at hcl hcs ⊢
        obtain ⟨q, hq⟩ : ∃ q, q = car D M i := ⟨_, rfl⟩
        rw [← hq] at hcs
        obtain ⟨dM, hdM⟩ : ∃ x : Nat, x = d * M := ⟨_, rfl⟩
        have hdMb : dM ≤ 9 * M := by rw [hdM]; exact Nat.mul_le_mul_right _ hd9
        rw [← hdM] at hcs
        obtain ⟨c, hc⟩ : ∃ c : Int, c = ((48 + d : Nat) : Int) := ⟨_, rfl⟩
        rw [← hc] at kd
        obtain ⟨n', hn'⟩ : ∃ x : Nat, x = n + dM := ⟨_, rfl⟩
        rw [← hn'] at hcs
        obtain ⟨rem, hrem⟩ : ∃ x : Nat, x = n' % 10 := ⟨_, rfl⟩
        obtain ⟨v, hv⟩ : ∃ x : Int, x = (rem : Int) + 48 := ⟨_, rfl⟩
        obtain ⟨q10, hq10⟩ : ∃ x : Int, x = 10 * (q : Int) := ⟨_, rfl⟩
        have w1 : IntKind.u64.wrap c = c := by rw [IntKind.wrap_u64]; omega
        have w2 : IntKind.u64.wrap (c - 48) = (d : Int) := by rw [IntKind.wrap_u64]; omega
        have e1 : (d : Int) * (M : Int) = (dM : Int) := by rw [hdM]; simp
        have w3 : IntKind.u64.wrap (dM : Int) = (dM : Int) := by rw [IntKind.wrap_u64]; omega
        have w4 : IntKind.u64.wrap ((n : Int) + (dM : Int)) = (n' : Int) := by rw [IntKind.wrap_u64]; omega
        have e2 : (n' : Int) / 10 = (q : Int) := by omega
        have w11 : IntKind.u64.wrap (q : Int) = (q : Int) := by rw [IntKind.wrap_u64]; omega
        have w5 : IntKind.u64.wrap (10 * (q : Int)) = q10 := by rw [IntKind.wrap_u64]; omega
        have w6 : IntKind.u64.wrap ((n' : Int) - q10) = (rem : Int) := by rw [IntKind.wrap_u64]; omega
        have w7 : IntKind.u64.wrap ((rem : Int) + 48) = v := by rw [IntKind.wrap_u64]; omega
        have w8 : IntKind.u8.wrap v = v := by rw [IntKind.wrap_u8]; omega
        have w12 : v % 256 = v := by omega
        obtain ⟨iw, hiw⟩ : ∃ x : Int, x = ((i + 1 + delta : Nat) : Int) := ⟨_, rfl⟩
        rw [← hiw]
        have w9 : IntKind.i64.wrap (iw - 1) = ((i + delta : Nat) : Int) := by rw [IntKind.wrap_i64]; omega
        have e9 : iw - 1 = ((i + delta : Nat) : Int) := by omega
        obtain ⟨ir, hir⟩ : ∃ x : Int, x = ((i + 1 : Nat) : Int) - 1 := ⟨_, rfl⟩
        rw [← hir]
        have e10 : ir = (i : Int) := by omega
        subst e10
        have w10 : IntKind.i64.wrap ((i : Int) - 1) = (i : Int) - 1 := by rw [IntKind.wrap_i64]; omega
        have t0 : (0 : Int) ≤ (i : Int) := by omega
        have t1 : ((i + delta : Nat) : Int) < 800 := by omega
        have t2 : (i : Int) < 800 := by omega
        obtain ⟨iw2, hiw2⟩ : ∃ x : Nat, x = i + delta := ⟨_, rfl⟩
        rw [← hiw2] at w9 e9 t1 kw fw
        have hrem9 : rem ≤ 9 := by omega
        have HN : Hid (L1 w F D dp (rem :: E) i iw2 D.length (wr.setCell ⟨F, iw2, none⟩ (.int .u8 v))) := Lib.hid (by
          have := HL.out
          rw [show i + 1 + delta = iw2 + 1 from by omega] at this
          exact this.step i (by omega) (by omega) rem hrem9 v (by rw [hv]; omega))
        have HE : Hid ((rem :: E).length = D.length - i ∧ rem = (car D M (i + 1) + D.getD i 0 * M) % 10 ∧ iw2 = i + delta ∧ q = car D M i) := Lib.hid ⟨by simp; omega, by rw [hrem, hn', hn, hdM, hd], hiw2, hq⟩
        clear hl1 hcs2 hls2 hle2 hde2 hM2 h9 hz hzc hd9 hcl hcs hd hn hq hdM hdMb hc hn' hrem hv hq10 hiw hir hiw2 hrem9 hi hel hef
        go_wp2_with fail
        refine ⟨⟨i, rem :: E, by omega, rfl, by rw [HE.out.2.2.1], by rw [HE.out.2.2.2], by rw [← HE.out.2.2.1]; exact HN.out, HE.out.1, fun _ => by have := HE.out.2.1; simpa using this⟩, by first | (simp [intOf]; done) | (simp [intOf]; omega)⟩

end Go.Proofs.YtpneioocmpagmaaGreatDoor.dc

/- internal/strconv: decimal.Shift, shouldRoundUp, RoundedInteger. -/
namespace Go.Proofs.YtpneioocmpagmaaGreatDoor.dc
open Go.RowKit
open Go.Proofs.YtpneioocmpagmaaGreatDoor.tx (Keeps blk_cell blk_frozen blk_set)
set_option linter.unusedVariables false
set_option linter.unusedSimpArgs false

theorem nd_pos {D : List Nat} (h : D.getD 0 0 ≠ 0) : 1 ≤ D.length := by
  refine Nat.one_le_iff_ne_zero.2 fun e => h ?_
  rw [List.eq_nil_of_length_eq_zero e]; rfl

set_option maxHeartbeats 8000000 in
set_option maxRecDepth 100000 in
theorem shift_right (F : Nat) (D : List Nat) (dp : Int) (hdp : -1000000 ≤ dp ∧ dp ≤ 1000000) (k : Nat) (hk : 1 ≤ k) (hk2 : k ≤ 60) (hd : D.getD 0 0 ≠ 0) (w : World) (h : DAt w F D D.length dp) (z : Int) (hz : z = -(k : Int)) :
    Calls Tryz.prog 186 #[.pointer (some ⟨F, 0, none⟩), .int .i64 z] w fun e w' => RSays w F D dp (2 ^ k) k e w' := by
  have HR := Lib.hid (right_shift F D dp hdp k hk hk2 hd w h)
  obtain ⟨cs, hcs, hrow⟩ := h
  have k800 := blk_cell hcs hrow.nd
  have hn := nd_pos hd
  have t0 : ((D.length : Int) == 0) = false := by rw [beq_eq_false_iff_ne]; omega
  have t1 : ¬ (0 : Int) < z := by omega
  have t2 : z < 0 := by omega
  have t3 : ¬ z < -60 := by omega
  have w1 : IntKind.i64.wrap (-z) = (k : Int) := by rw [IntKind.wrap_i64]; omega
  have w2 : IntKind.u64.wrap (k : Int) = (k : Int) := by rw [IntKind.wrap_u64]; omega
  have e1 : -z = (k : Int) := by omega
  clear hcs hrow hn hz
  go_enter Tryz.func186, Tryz.ntmps186
  go_wp2_with fail
  refine wp_loop_rounds 1 ?_
  rw [rounds_succ]
  go_wp2_with fail
  refine HR.out.mono ?_
  rintro e w' ⟨D', r, rfl, hh⟩
  have HH := Lib.hid hh
  clear hh
  go_wp2_with fail
  go_returns
  exact ⟨D', r, rfl, HH.out⟩

set_option maxHeartbeats 8000000 in
set_option maxRecDepth 100000 in
theorem shift_left (F : Nat) (D : List Nat) (dp : Int) (hdp : -1000000 ≤ dp ∧ dp ≤ 1000000) (k : Nat) (hk : 1 ≤ k) (hk2 : k ≤ 60) (hd : D.getD 0 0 ≠ 0) (d0 : Nat) (hd0 : 1 ≤ d0 ∧ d0 ≤ 100) (s : ByteArray) (S : List Nat) (hS : DigT s S) (hSl : S.length ≤ 100) (hS9 : ∀ d ∈ S, d ≤ 9)
    (delta : Nat) (hdel : delta = d0 - (if lexLt D S then 1 else 0)) (hlen : D.length + d0 ≤ 790)
    (hcar : (delta = 0 ∧ car D (2 ^ k) 0 = 0) ∨ (1 ≤ delta ∧ 10 ^ (delta - 1) ≤ car D (2 ^ k) 0 ∧ car D (2 ^ k) 0 < 10 ^ delta))
    (w : World) (h : DAt w F D D.length dp) (hch : Cheat w k d0 s) :
    Calls Tryz.prog 186 #[.pointer (some ⟨F, 0, none⟩), .int .i64 k] w fun e w' => LSays w F D dp (2 ^ k) delta e w' := by
  have HR := Lib.hid (left_shift F D dp hdp k hk hk2 hd d0 hd0 s S hS hSl hS9 delta hdel hlen hcar w h hch)
  obtain ⟨cs, hcs, hrow⟩ := h
  have k800 := blk_cell hcs hrow.nd
  have hn := nd_pos hd
  have t0 : ((D.length : Int) == 0) = false := by rw [beq_eq_false_iff_ne]; omega
  have t1 : (0 : Int) < (k : Int) := by omega
  have t3 : ¬ (60 : Int) < (k : Int) := by omega
  have w2 : IntKind.u64.wrap (k : Int) = (k : Int) := by rw [IntKind.wrap_u64]; omega
  clear hcs hrow hn hS hS9 hdel hcar hch
  go_enter Tryz.func186, Tryz.ntmps186
  go_wp2_with fail
  refine wp_loop_rounds 1 ?_
  rw [rounds_succ]
  go_wp2_with fail
  refine HR.out.mono ?_
  rintro e w' ⟨D', rfl, hh⟩
  have HH := Lib.hid hh
  clear hh
  go_wp2_with fail
  go_returns
  exact ⟨D', rfl, HH.out⟩

def SomeB (w : World) (e : Ending) (w' : World) : Prop := (∃ b, e = .returned (.bool b)) ∧ ∃ n, w' = w.drewN n

set_option maxHeartbeats 8000000 in
set_option maxRecDepth 100000 in
theorem should_round (F : Nat) (D : List Nat) (dp : Int) (nd : Nat) (w : World) (h : DAt w F D D.length dp) :
    Calls Tryz.prog 226 #[.pointer (some ⟨F, 0, none⟩), .int .i64 nd] w fun e w' => SomeB w e w' := by
  obtain ⟨cs, hcs, hrow⟩ := h
  have k800 := blk_cell hcs hrow.nd
  have hl8 := hrow.le
  obtain ⟨bt, hbt⟩ := hrow.tr
  have k803 := blk_cell hcs hbt
  have HR := Lib.hid (And.intro hcs hrow)
  have t0 : ¬ (nd : Int) < 0 := by omega
  by_cases hn : D.length ≤ nd
  · have t1 : (D.length : Int) ≤ (nd : Int) := by omega
    clear hcs hrow
    go_enter Tryz.func226, Tryz.ntmps226
    go_wp2_with fail
    go_ret
    exact ⟨⟨_, rfl⟩, 0, rfl⟩
  · have t1 : ¬ (D.length : Int) ≤ (nd : Int) := by omega
    have kd := blk_cell hcs (hrow.dig nd (by omega))
    obtain ⟨x, hx⟩ : ∃ x : Int, x = ((48 + D.getD nd 0 : Nat) : Int) := ⟨_, rfl⟩
    rw [← hx] at kd
    have hn8 : (nd : Int) < 800 := by omega
    have w1 : IntKind.i64.wrap ((nd : Int) + 1) = (nd : Int) + 1 := by rw [IntKind.wrap_i64]; omega
    clear hcs hrow hx hbt
    by_cases hz : nd = 0
    · have t2 : ¬ (0 : Int) < (nd : Int) := by omega
      clear hz
      go_enter Tryz.func226, Tryz.ntmps226
      go_wp2_with fail
      all_goals
        go_ret
        exact ⟨⟨_, rfl⟩, 0, rfl⟩
    · have kd1 : ∃ y : Int, w.cell? ⟨F, nd - 1, none⟩ = some (.int .u8 y) := ⟨_, blk_cell HR.out.1 (HR.out.2.dig (nd - 1) (by omega))⟩
      obtain ⟨y, kd1⟩ := kd1
      have t2 : (0 : Int) < (nd : Int) := by omega
      have w2 : IntKind.i64.wrap ((nd : Int) - 1) = ((nd - 1 : Nat) : Int) := by rw [IntKind.wrap_i64]; omega
      have e2 : (nd : Int) - 1 = ((nd - 1 : Nat) : Int) := by omega
      have t3 : ((nd - 1 : Nat) : Int) < 800 := by omega
      go_enter Tryz.func226, Tryz.ntmps226
      go_wp2_with fail
      all_goals
        go_ret
        exact ⟨⟨_, rfl⟩, 0, rfl⟩

def Ri (D : List Nat) (p : Nat) (v3 v4 : Value) : Prop := ∃ (i : Nat) (n : Int), v3 = .int .i64 (i : Int) ∧ v4 = .int .u64 n ∧ i ≤ 20 ∧ i ≤ p ∧ 0 ≤ n ∧ n < 18446744073709551616

/-- Some number. -/
def SomeN (w : World) (e : Ending) (w' : World) : Prop := (∃ n : Int, e = .returned (.int .u64 n) ∧ 0 ≤ n ∧ n < 18446744073709551616) ∧ ∃ n, w' = w.drewN n

set_option maxHeartbeats 8000000 in
set_option maxRecDepth 100000 in
theorem rounded (F : Nat) (D : List Nat) (p : Nat) (hp : p ≤ 20) (w : World) (h : DAt w F D D.length (p : Int)) :
    Calls Tryz.prog 236 #[.pointer (some ⟨F, 0, none⟩)] w fun e w' => SomeN w e w' := by
  have HS := Lib.hid (should_round F D (p : Int) p w h)
  obtain ⟨cs, hcs, hrow⟩ := h
  have k800 := blk_cell hcs hrow.nd
  have k801 := blk_cell hcs hrow.dp
  have hl8 := hrow.le
  have HR := Lib.hid (And.intro hcs hrow)
  have t0 : ¬ (20 : Int) < (p : Int) := by omega
  clear hcs hrow
  go_enter Tryz.func236, Tryz.ntmps236
  have hr64 : ∀ x : Int, 0 ≤ IntKind.u64.wrap x ∧ IntKind.u64.wrap x < 18446744073709551616 := fun x => by rw [IntKind.wrap_u64]; omega
  have HW64 := Lib.hid hr64
  clear hr64
  go_wp2_with fail
  go_loop [3, 4] (fun v3 v4 => Ri D p v3 v4) (fun v3 _ => D.length - (intOf v3).toNat)
  case atStart => exact ⟨0, 0, rfl, rfl, by omega, by omega, by omega, by decide⟩
  case round =>
    obtain ⟨i, n, rfl, rfl, hi, hip, hn0, hn1⟩ := hrel
    by_cases hc : i < p ∧ i < D.length
    · obtain ⟨hcp, hcD⟩ := hc
      have kd := blk_cell HR.out.1 (HR.out.2.dig i hcD)
      have h9 := getD_nine HR.out.2.nine i
      obtain ⟨d, hd⟩ : ∃ d, d = D.getD i 0 := ⟨_, rfl⟩
      rw [← hd] at kd h9
      obtain ⟨c, hc⟩ : ∃ c : Int, c = ((48 + d : Nat) : Int) := ⟨_, rfl⟩
      rw [← hc] at kd
      obtain ⟨n10, hn10⟩ : ∃ x : Int, x = IntKind.u64.wrap (n * 10) := ⟨_, rfl⟩
      obtain ⟨n', hn'⟩ : ∃ x : Int, x = IntKind.u64.wrap (n10 + (d : Int)) := ⟨_, rfl⟩
      have t1 : (i : Int) < (p : Int) := by omega
      have t2 : (i : Int) < (D.length : Int) := by omega
      have t3 : (i : Int) < 800 := by omega
      have w1 : IntKind.u64.wrap (n * 10) = n10 := hn10.symm
      have w2 : IntKind.u8.wrap (c - 48) = (d : Int) := by rw [IntKind.wrap_u8]; omega
      have w3 : IntKind.u64.wrap (d : Int) = (d : Int) := by rw [IntKind.wrap_u64]; omega
      have w4 : IntKind.u64.wrap (n10 + (d : Int)) = n' := hn'.symm
      have w5 : IntKind.i64.wrap ((i : Int) + 1) = (i : Int) + 1 := by rw [IntKind.wrap_i64]; omega
      have HN : Hid (0 ≤ n' ∧ n' < 18446744073709551616) := Lib.hid (by rw [hn']; exact HW64.out _)
      clear hn10 hn' hc hd hn0 hn1
      go_wp2_with fail
      exact ⟨⟨i + 1, n', by go_num, rfl, by omega, by omega, HN.out.1, HN.out.2⟩, by first | (simp [intOf]; done) | (simp [intOf]; omega)⟩
    · have hcc : ¬ (i : Int) < (p : Int) ∨ ((i : Int) < (p : Int) ∧ ¬ (i : Int) < (D.length : Int)) := by omega
      have HN : Hid (0 ≤ n ∧ n < 18446744073709551616) := Lib.hid ⟨hn0, hn1⟩
      clear hn0 hn1
      rcases hcc with t1 | ⟨t1, t2⟩
      all_goals
        go_wp2_with fail
        go_loop [3, 4] (fun v3 v4 => Ri D p v3 v4) (fun v3 _ => p - (intOf v3).toNat)
        case atStart => exact ⟨i, n, rfl, rfl, by omega, by omega, HN.out.1, HN.out.2⟩
        case round =>
          obtain ⟨i2, n2, rfl, rfl, hi2, hip2, hn02, hn12⟩ := hrel
          have HN2 := Lib.hid (And.intro hn02 hn12)
          clear hn02 hn12
          by_cases hc2 : i2 < p
          · have t5 : (i2 : Int) < (p : Int) := by omega
            obtain ⟨n', hn'⟩ : ∃ x : Int, x = IntKind.u64.wrap (n2 * 10) := ⟨_, rfl⟩
            have w1 : IntKind.u64.wrap (n2 * 10) = n' := hn'.symm
            have w5 : IntKind.i64.wrap ((i2 : Int) + 1) = (i2 : Int) + 1 := by rw [IntKind.wrap_i64]; omega
            have HN : Hid (0 ≤ n' ∧ n' < 18446744073709551616) := Lib.hid (by rw [hn']; exact HW64.out _)
            clear hn'
            go_wp2_with fail
            exact ⟨⟨i2 + 1, n', by go_num, rfl, by omega, by omega, HN.out.1, HN.out.2⟩, by first | (simp [intOf]; done) | (simp [intOf]; omega)⟩
          · have t5 : ¬ (i2 : Int) < (p : Int) := by omega
            go_wp2_with fail
            refine HS.out.mono ?_
            rintro e w' ⟨⟨bq, rfl⟩, nq, rfl⟩
            cases bq
            · go_wp2_with fail
              go_ret
              exact ⟨⟨n2, rfl, HN2.out.1, HN2.out.2⟩, _, rfl⟩
            · obtain ⟨n', hn'⟩ : ∃ x : Int, x = IntKind.u64.wrap (n2 + 1) := ⟨_, rfl⟩
              have w1 : IntKind.u64.wrap (n2 + 1) = n' := hn'.symm
              have HN : Hid (0 ≤ n' ∧ n' < 18446744073709551616) := Lib.hid (by rw [hn']; exact HW64.out _)
              clear hn'
              go_wp2_with fail
              go_ret
              exact ⟨⟨n', rfl, HN.out.1, HN.out.2⟩, _, rfl⟩

end Go.Proofs.YtpneioocmpagmaaGreatDoor.dc

/- internal/strconv: decimal.floatBits at a whole number: some bits. -/
namespace Go.Proofs.YtpneioocmpagmaaGreatDoor.dc
open Go.RowKit
open Go.Proofs.YtpneioocmpagmaaGreatDoor.tx (Keeps blk_cell blk_frozen blk_set)
set_option linter.unusedVariables false
set_option linter.unusedSimpArgs false

def pw (m : Nat) : Nat := [1, 3, 6, 9, 13, 16, 19, 23, 26].getD m 0
def kk (m : Nat) : Nat := if 9 ≤ m then 27 else pw m

theorem kk_bounds (m : Nat) : 1 ≤ kk m ∧ kk m ≤ 27 := by
  unfold kk
  split
  · omega
  · have h : ∀ m : Fin 9, 1 ≤ pw m.1 ∧ pw m.1 ≤ 27 := by decide +kernel
    exact h ⟨m, by omega⟩

theorem step_tab : ∀ m : Fin 10, ∀ r : Fin 12, 1 ≤ m.1 → 1 ≤ r.1 → (2 ≤ r.1 → 10 ^ (r.1 - 2) < 2 ^ (kk m.1)) → 2 ^ (kk m.1) < 10 ^ r.1 →
    r.1 - 1 ≤ m.1 ∧ (2 ≤ m.1 → kk m.1 + 5 ≤ 11 * (r.1 - 1) ∧ kk m.1 ≤ 4 * (r.1 - 1) + 3 ∧ (9 ≤ m.1 → kk m.1 ≤ 4 * (r.1 - 1)) ∧ (m.1 < 9 → m.1 - (r.1 - 1) ≤ 1)) := by decide +kernel

theorem step_r {m r : Nat} (hm : 1 ≤ m) (hr : 1 ≤ r) (h1 : 2 ≤ r → 10 ^ (r - 2) < 2 ^ (kk m)) (h2 : 2 ^ (kk m) < 10 ^ r) :
    r - 1 ≤ m ∧ (2 ≤ m → kk m + 5 ≤ 11 * (r - 1) ∧ kk m ≤ 4 * (r - 1) + 3 ∧ (9 ≤ m → kk m ≤ 4 * (r - 1)) ∧ (m < 9 → m - (r - 1) ≤ 1)) := by
  have hr12 : r < 12 := by
    refine Nat.lt_of_not_le fun h => ?_
    have a1 := h1 (by omega)
    have a2 : (10 : Nat) ^ 10 ≤ 10 ^ (r - 2) := Nat.pow_le_pow_right (by decide) (by omega)
    have a3 : (2 : Nat) ^ (kk m) ≤ 2 ^ 27 := Nat.pow_le_pow_right (by decide) (kk_bounds m).2
    have a4 : (10 : Nat) ^ 10 = 10000000000 := by decide
    have a5 : (2 : Nat) ^ 27 = 134217728 := by decide
    omega
  by_cases h9 : 9 ≤ m
  · have e : kk m = kk 9 := by unfold kk; rw [if_pos h9, if_pos (by decide)]
    rw [e] at h1 h2 ⊢
    have := step_tab ⟨9, by decide⟩ ⟨r, hr12⟩ (by simp) hr h1 h2
    simp only at this
    exact ⟨by omega, fun _ => ⟨(this.2 (by omega)).1, (this.2 (by omega)).2.1, fun _ => (this.2 (by omega)).2.2.1 (by omega), fun h => absurd h9 (by omega)⟩⟩
  · exact step_tab ⟨m, by omega⟩ ⟨r, hr12⟩ hm hr h1 h2

theorem pre_lt (D : List Nat) (h : ∀ d ∈ D, d ≤ 9) : ∀ r, pre D r < 10 ^ r
  | 0 => by simp [pre]
  | r + 1 => by
    have h1 := pre_lt D h r
    have h2 := getD_nine h r
    simp only [pre, Nat.pow_succ]
    omega

/-- The three rows of the table that are met. -/
def S1 : List Nat := [5]
def S24 : List Nat := [5, 9, 6, 0, 4, 6, 4, 4, 7, 7, 5, 3, 9, 0, 6, 2, 5]
def S53 : List Nat := [1, 1, 1, 0, 2, 2, 3, 0, 2, 4, 6, 2, 5, 1, 5, 6, 5, 4, 0, 4, 2, 3, 6, 3, 1, 6, 6, 8, 0, 9, 0, 8, 2, 0, 3, 1, 2, 5]
def txt (S : List Nat) : ByteArray := ⟨(S.map fun d => UInt8.ofNat (48 + d)).toArray⟩

theorem digT_txt (S : List Nat) (h : ∀ d ∈ S, d ≤ 9) : DigT (txt S) S := by
  refine ⟨by simp [txt, ByteArray.size], fun j hj => ?_⟩
  have hj' : j < S.length := by simpa [txt, ByteArray.size] using hj
  have e : (txt S)[j] = UInt8.ofNat (48 + S[j]) := by
    show (txt S).data[j]'_ = _
    simp [txt]
  rw [e, UInt8.toNat_ofNat', List.getD_eq_getElem?_getD, List.getElem?_eq_getElem hj']
  have := h _ (List.getElem_mem hj')
  show (48 + S[j]) % 256 = 48 + S[j]
  omega

/-- What is read of the program's variables. -/
structure PEnv (w : World) : Prop where
  pow : ∃ (pa : Addr) (pc : Nat), w.cell? ⟨15, 0, none⟩ = some (.slice (some pa) 9 pc) ∧ ∀ j, j < 9 → w.cell? (pa.add j) = some (.int .i64 (pw j : Int))
  c1 : Cheat w 1 1 (txt S1)
  c24 : Cheat w 24 8 (txt S24)
  c53 : Cheat w 53 16 (txt S53)

/-- A kind of floats: how many bits. -/
def Info (w : World) (G : Nat) (mb eb : Nat) (bias : Int) : Prop :=
  w.cell? ⟨G, 0, none⟩ = some (.int .u64 (mb : Int)) ∧ w.cell? ⟨G, 1, none⟩ = some (.int .u64 (eb : Int)) ∧ w.cell? ⟨G, 2, none⟩ = some (.int .i64 bias) ∧ ((mb = 52 ∧ eb = 11 ∧ bias = -1023) ∨ (mb = 23 ∧ eb = 8 ∧ bias = -127))

def flag (m : Nat) (D : List Nat) : Nat := if m = 1 ∧ 8 ≤ D.getD 0 0 then 1 else 0

/-- What stands between rounds: the number is below 10^m. -/
structure FR (w : World) (F : Nat) (D : List Nat) (m : Nat) (ex : Int) (wr : World) : Prop where
  at_ : DAt wr F D D.length (m : Int)
  head : D.getD 0 0 ≠ 0
  len : D.length + 11 * m + 4 * flag m D ≤ 400
  lo : 0 ≤ ex
  hi : ex + 4 * m + (if 2 ≤ m then 6 else 3 * flag m D : Nat) ≤ 106
  keep : Keeps F w wr

def FR1 (w : World) (F g : Nat) (v6 : Value) (wr : World) : Prop :=
  ∃ (D : List Nat) (m : Nat) (ex : Int), v6 = .int .i64 ex ∧ FR w F D m ex wr ∧ 2 * m + (if 8 ≤ D.getD 0 0 then 1 else 0) = g

theorem fr_step {w : World} {F : Nat} {D : List Nat} {m : Nat} {ex : Int} {wr w' : World} {e : Ending} (h : FR w F D m ex wr) (hm : 1 ≤ m) (hs : RSays wr F D (m : Int) (2 ^ (kk m)) (kk m) e w') :
    ∃ (D' : List Nat) (m' : Nat), e = .returned (.tuple #[]) ∧ FR w F D' m' (ex + (kk m : Int)) w' ∧ 2 * m' + (if 8 ≤ D'.getD 0 0 then 1 else 0) < 2 * m + (if 8 ≤ D.getD 0 0 then 1 else 0) := by
  obtain ⟨D', r, he, hd, hr, hM, hl, hq, hk, hlen⟩ := hs
  obtain ⟨cs, hcs, hrow⟩ := h.at_
  obtain ⟨cs', hcs', hrow'⟩ := id hd
  have h1 : 2 ≤ r → 10 ^ (r - 2) < 2 ^ (kk m) := fun h2 => by
    have a := hl (r - 1) (by omega)
    have b := pre_ge D h.head (r - 2)
    rw [show r - 2 + 1 = r - 1 from by omega] at b
    omega
  have h2 : 2 ^ (kk m) < 10 ^ r := Nat.lt_of_le_of_lt hM (pre_lt D hrow.nine r)
  obtain ⟨g1, g2⟩ := step_r hm hr h1 h2
  have hM1 : 0 < 2 ^ (kk m) := Nat.pow_pos (by decide)
  have hhead : D'.getD 0 0 ≠ 0 := by
    rw [hq]
    have := (Nat.one_le_div_iff hM1).2 hM
    omega
  have hh := h.len
  have hi := h.hi
  have hlo := h.lo
  have hk1 : m = 1 → kk m = 3 := fun e => by subst e; rfl
  have hr1 : r = 1 → m = 1 ∧ 8 ≤ D.getD 0 0 ∧ D'.getD 0 0 = 1 := by
    intro e
    have hm1 : m = 1 := by
      refine Decidable.byContradiction fun hne => ?_
      have := (g2 (by omega)).1
      rw [e] at this; omega
    subst hm1
    subst e
    have hp : pre D 1 = D.getD 0 0 := by simp [pre]
    rw [hp] at hM hq
    have h8 : (2 : Nat) ^ (kk 1) = 8 := by decide
    rw [h8] at hM hq
    have h9 := getD_nine hrow.nine 0
    exact ⟨rfl, hM, by rw [hq]; omega⟩
  have hfl : flag (m - (r - 1)) D' ≤ 1 := by unfold flag; split <;> omega
  have hdp : ((m : Int) - ((r : Int) - 1)) = ((m - (r - 1) : Nat) : Int) := by omega
  rw [hdp] at hd
  refine ⟨D', m - (r - 1), he, ⟨hd, hhead, ?_, by omega, ?_, h.keep.trans hk⟩, ?_⟩
  · by_cases hr2 : r = 1
    · obtain ⟨e1, e2, e3⟩ := hr1 hr2
      have f1 : flag m D = 1 := by unfold flag; rw [if_pos ⟨e1, e2⟩]
      have f2 : flag (m - (r - 1)) D' = 0 := by unfold flag; rw [if_neg (by omega)]
      have := hk1 e1
      rw [f1] at hh; rw [f2]; omega
    · by_cases hm1 : m = 1
      · have := hk1 hm1
        have f2 : flag (m - (r - 1)) D' = 0 := by unfold flag; rw [if_neg (by omega)]
        rw [f2]; omega
      · have := (g2 (by omega)).1; omega
  · by_cases hr2 : r = 1
    · obtain ⟨e1, e2, e3⟩ := hr1 hr2
      have f1 : flag m D = 1 := by unfold flag; rw [if_pos ⟨e1, e2⟩]
      have f2 : flag (m - (r - 1)) D' = 0 := by unfold flag; rw [if_neg (by omega)]
      have := hk1 e1
      rw [f1, if_neg (by omega)] at hi; rw [f2, if_neg (by omega)]; omega
    · by_cases hm1 : m = 1
      · have := hk1 hm1
        have f2 : flag (m - (r - 1)) D' = 0 := by unfold flag; rw [if_neg (by omega)]
        rw [if_neg (by omega)] at hi
        rw [f2, if_neg (by omega)]; omega
      · obtain ⟨_, q1, q2, q3⟩ := g2 (by omega)
        rw [if_pos (by omega)] at hi
        split
        · have := q2 (by omega); omega
        · omega
  · by_cases hr2 : r = 1
    · obtain ⟨e1, e2, e3⟩ := hr1 hr2
      rw [if_pos e2, if_neg (by omega)]; omega
    · split <;> split <;> omega

theorem val_head {D : List Nat} (h : D.getD 0 0 ≠ 0) : D.getD 0 0 * 10 ^ (D.length - 1) ≤ val D := by
  cases D with
  | nil => simp at h
  | cons d l => simp only [val, List.length_cons, Nat.add_sub_cancel, List.getD_cons_zero]; omega

theorem car_zero (D : List Nat) (M : Nat) : car D M 0 = val D * M / 10 ^ D.length := by
  unfold car; rw [List.drop_zero, Nat.sub_zero]

theorem ten_len {D : List Nat} (h : D.getD 0 0 ≠ 0) : 10 ^ D.length = 10 * 10 ^ (D.length - 1) := by
  have := nd_pos h
  rw [show D.length = D.length - 1 + 1 from by omega, Nat.pow_succ, Nat.add_sub_cancel, Nat.mul_comm]

theorem car_big {D : List Nat} (h5 : 5 ≤ D.getD 0 0) (M N : Nat) (hM : M = 2 * N) : N ≤ car D M 0 := by
  have hne : D.getD 0 0 ≠ 0 := by omega
  rw [car_zero, Nat.le_div_iff_mul_le (Nat.pow_pos (by decide)), ten_len hne, hM]
  have h1 := val_head hne
  obtain ⟨P, hP⟩ : ∃ P, P = 10 ^ (D.length - 1) := ⟨_, rfl⟩
  rw [← hP] at h1 ⊢
  have h2 : 5 * P ≤ val D := Nat.le_trans (Nat.mul_le_mul_right _ h5) h1
  have h3 : 5 * P * (2 * N) ≤ val D * (2 * N) := Nat.mul_le_mul_right _ h2
  have h4 : N * (10 * P) = 5 * P * (2 * N) := by
    rw [Nat.mul_comm N, Nat.mul_comm 10 P, Nat.mul_comm 5 P, Nat.mul_assoc P 5, ← Nat.mul_assoc 5 2, Nat.mul_assoc]
  omega

theorem lt_S1 {D : List Nat} (h0 : D.getD 0 0 ≠ 0) (h5 : D.getD 0 0 < 5) : lexLt D S1 = true := by
  cases D with
  | nil => simp at h0
  | cons d l =>
    have hd : d < 5 := by simpa using h5
    unfold S1 lexLt
    rw [if_neg (by omega)]
    simpa using hd

theorem ge_S53 {D : List Nat} (h5 : 5 ≤ D.getD 0 0) : lexLt D S53 = false := by
  cases D with
  | nil => simp at h5
  | cons d l =>
    have hd : 5 ≤ d := by simpa using h5
    have hne : ¬ d = 1 := by omega
    unfold S53 lexLt
    rw [if_neg hne]
    exact decide_eq_false (by omega)

theorem car_one {D : List Nat} (h9 : ∀ d ∈ D, d ≤ 9) (h0 : D.getD 0 0 ≠ 0) (h5 : D.getD 0 0 < 5) : car D (2 ^ 1) 0 = 0 := by
  have h1 := car_step D (2 ^ 1) 0 (nd_pos h0)
  have h2 := car_lt D (2 ^ 1) 1 h9 (by decide)
  have e : (2 : Nat) ^ 1 = 2 := rfl
  rw [Nat.zero_add, e] at h1
  rw [e] at h2 ⊢
  rw [h1]
  omega

theorem car_53 {D : List Nat} (h9 : ∀ d ∈ D, d ≤ 9) (h5 : 5 ≤ D.getD 0 0) : 10 ^ (16 - 1) ≤ car D (2 ^ 53) 0 ∧ car D (2 ^ 53) 0 < 10 ^ 16 := by
  have h1 := car_big h5 (2 ^ 53) (2 ^ 52) (by decide)
  have h2 := car_lt D (2 ^ 53) 0 h9 (by decide)
  have e1 : (10 : Nat) ^ (16 - 1) ≤ 2 ^ 52 := by decide
  have e2 : (2 : Nat) ^ 53 ≤ 10 ^ 16 := by decide
  exact ⟨Nat.le_trans e1 h1, Nat.lt_of_lt_of_le h2 e2⟩

theorem car_24 {D : List Nat} (h9 : ∀ d ∈ D, d ≤ 9) (h5 : 5 ≤ D.getD 0 0) (delta : Nat) (hd : delta = 8 - (if lexLt D S24 then 1 else 0)) : 1 ≤ delta ∧ delta ≤ 8 ∧ 10 ^ (delta - 1) ≤ car D (2 ^ 24) 0 ∧ car D (2 ^ 24) 0 < 10 ^ delta := by
  have h1 := car_big h5 (2 ^ 24) (2 ^ 23) (by decide)
  have h2 := car_lt D (2 ^ 24) 0 h9 (by decide)
  have hl := lex_val D S24 h9 (by decide) (by decide)
  have hv : val S24 * 2 ^ 24 = 10 ^ 7 * 10 ^ 17 := by decide +kernel
  have hlen : S24.length = 17 := rfl
  rw [hlen] at hl
  obtain ⟨V, hV⟩ : ∃ V, V = val D := ⟨_, rfl⟩
  obtain ⟨P, hP⟩ : ∃ P, P = 10 ^ D.length := ⟨_, rfl⟩
  have hP0 : 0 < P := by rw [hP]; exact Nat.pow_pos (by decide)
  rw [← hV, ← hP] at hl
  have hc : car D (2 ^ 24) 0 = V * 2 ^ 24 / P := by rw [car_zero, hV, hP]
  have e1 : (10 : Nat) ^ 6 ≤ 2 ^ 23 := by decide
  have e2 : (2 : Nat) ^ 24 ≤ 10 ^ 8 := by decide
  cases hb : lexLt D S24 with
  | true =>
    rw [hb] at hd
    obtain rfl : delta = 7 := by simpa using hd
    have h3 := hl.1 hb
    refine ⟨by decide, by decide, Nat.le_trans e1 h1, ?_⟩
    rw [hc, Nat.div_lt_iff_lt_mul hP0]
    have h4 : V * 10 ^ 17 * 2 ^ 24 < val S24 * P * 2 ^ 24 := Nat.mul_lt_mul_of_pos_right h3 (by decide)
    have h5' : val S24 * P * 2 ^ 24 = 10 ^ 7 * P * 10 ^ 17 := by
      rw [Nat.mul_assoc, Nat.mul_comm P, ← Nat.mul_assoc, hv, Nat.mul_assoc, Nat.mul_comm (10 ^ 17) P, ← Nat.mul_assoc]
    have h6 : V * 10 ^ 17 * 2 ^ 24 = V * 2 ^ 24 * 10 ^ 17 := by rw [Nat.mul_assoc, Nat.mul_comm (10 ^ 17), ← Nat.mul_assoc]
    rw [h5', h6] at h4
    exact Nat.lt_of_mul_lt_mul_right h4
  | false =>
    rw [hb] at hd
    obtain rfl : delta = 8 := by simpa using hd
    have h3 := hl.2 hb
    refine ⟨by decide, by decide, ?_, Nat.lt_of_lt_of_le h2 e2⟩
    rw [hc, Nat.le_div_iff_mul_le hP0]
    have h4 : val S24 * P * 2 ^ 24 ≤ V * 10 ^ 17 * 2 ^ 24 := Nat.mul_le_mul_right _ h3
    have h5' : val S24 * P * 2 ^ 24 = 10 ^ 7 * P * 10 ^ 17 := by
      rw [Nat.mul_assoc, Nat.mul_comm P, ← Nat.mul_assoc, hv, Nat.mul_assoc, Nat.mul_comm (10 ^ 17) P, ← Nat.mul_assoc]
    have h6 : V * 10 ^ 17 * 2 ^ 24 = V * 2 ^ 24 * 10 ^ 17 := by rw [Nat.mul_assoc, Nat.mul_comm (10 ^ 17), ← Nat.mul_assoc]
    rw [h5', h6] at h4
    exact Nat.le_of_mul_le_mul_right h4 (by decide)

end Go.Proofs.YtpneioocmpagmaaGreatDoor.dc

