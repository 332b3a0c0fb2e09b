/- The text form's reader: parseNumber at a whole number that ends the text. -/
import Derived.Test.YtpneioocmpagmaaGreatDoorTd
import Derived.Deep.DeepCutAuto
import Derived.Deep.CutBlock
import Derived.Outline
namespace Go.Proofs.YtpneioocmpagmaaGreatDoor.tx
open Go.RowKit
set_option linter.unusedVariables false
set_option linter.unusedSimpArgs false

def numV (kd : Nat) (neg : Bool) (size : Nat) : Value := .agg #[.int .u8 kd, .bool neg, .int .i64 size, .int .i64 0]

/-- The text from p0 to its end is a whole number: p1: where its digits begin. -/
structure IntAt (T : List UInt8) (L p0 p1 : Nat) (neg : Bool) : Prop where
  lt : p1 < L
  sign : (neg = false ∧ p1 = p0 ∧ (T.getD p0 0).toNat ≠ 45) ∨ (neg = true ∧ p1 = p0 + 1 ∧ (T.getD p0 0).toNat = 45)
  digit : ∀ j, p1 ≤ j → j < L → 48 ≤ (T.getD j 0).toNat ∧ (T.getD j 0).toNat ≤ 57
  zero : (T.getD p1 0).toNat = 48 → L = p1 + 1

/-- Where the number's reading stands. -/
def AtP (b L cap p0 p : Nat) (v4 v6 : Value) : Prop := ∃ off n c, InAt b L cap p off n c ∧ v4 = .int .i64 ((p - p0 : Nat) : Int) ∧ v6 = .slice (some ⟨b, off, none⟩) n c

theorem cell_lt {w : World} {a : Addr} {x : Value} (h : w.cell? a = some x) : a.block < w.heap.size := by
  unfold World.cell? at h
  split at h
  · exact (Array.getElem?_eq_some_iff.1 ‹_›).1
  · cases h

/-- Where the walk along digits stands: k bytes behind pos. -/
def AlongD (b L cap pos k : Nat) (v5 v6 : Value) : Prop := ∃ off n c, InAt b L cap (pos + k) off n c ∧ v5 = .int .i64 k ∧ v6 = .slice (some ⟨b, off, none⟩) n c

theorem i64_eq {a b : Int} (h : a = b) : Value.int .i64 a = Value.int .i64 b := by rw [h]

theorem digit_not_ws {x : Nat} (h : 48 ≤ x ∧ x ≤ 57) : ws x = false ∧ x ≠ 35 := by
  unfold ws
  simp only [Bool.or_eq_false_iff, beq_eq_false_iff_ne]
  omega

set_option maxHeartbeats 40000000 in
set_option maxRecDepth 100000 in
theorem num_int (b L cap p0 p1 off n c : Nat) (T : List UInt8) (hT : T.length = L) (hL : L ≤ cap) (hcap : cap ≤ 9223372036854775807) (hL47 : L ≤ 140737488355000) (hin : InAt b L cap p0 off n c) (neg : Bool) (hi : IntAt T L p0 p1 neg) (w : World) (hr : RowM w b 0 T) :
    Calls Tryz.prog 105 #[.slice (some ⟨b, off, none⟩) n c] w fun e w' => e = .returned (numV 0 neg (L - p0)) ∧ Below w.heap.size w w' := by
  have hp01 : p0 ≤ p1 ∧ p0 < L := by have := hi.lt; rcases hi.sign with ⟨_, h, _⟩ | ⟨_, h, _⟩ <;> omega
  obtain ⟨i1, i2, i3, i4⟩ := id hin
  obtain ⟨rfl, hc'⟩ := i4 (by omega)
  have hx := cell_at hT hr (p := off) hp01.2
  obtain ⟨x, hxx⟩ : ∃ x, x = (T.getD off 0).toNat := ⟨_, rfl⟩
  rw [← hxx] at hx
  have HIN0 := Lib.hid hin
  have HI := Lib.hid (And.intro hi (And.intro hT (And.intro hxx hp01)))
  have HR := Lib.hid (fun (W : World) (hW : Below w.heap.size w W) (p : Nat) (hp : p < L) => cell_at hT (hr.below hW (cell_lt hx)) hp)
  have HC := Lib.hid (fun (W : World) (hW : Below w.heap.size w W) (h : (T.getD off 0).toNat = 45) (hp : p1 = off + 1) (n1 c1 : Nat) (hin1 : InAt b L cap p1 p1 n1 c1) => tconsume b L cap p1 p1 n1 c1 0 p1 T hT (Nat.zero_le _) hL hcap hin1 W (hr.below hW (cell_lt hx)) (.stop p1 (fun _ => digit_not_ws (hi.digit p1 (Nat.le_refl _) hi.lt))))
  have s0 : ((n : Int) == 0) = false := by rw [beq_eq_false_iff_ne]; omega
  have s1 : (0 : Int) < (n : Int) := by omega
  have s2 : (1 : Int) ≤ (n : Int) := by omega
  have s3 : (1 : Int) ≤ (c : Int) := by omega
  have HCC := Lib.hid hc'
  have hbl : b < w.heap.size := cell_lt hx
  have hbn : ¬ b = w.heap.size := by omega
  clear hi hT hr hxx hin hc' hp01 i1 i2 i3 i4
  go_enter Tryz.func105, Tryz.ntmps105
  go_upto_if 22 with (fail)
  go_cut [4, 5, 6, 7] (fun v4 v5 v6 v7 wx => AtP b L cap off p1 v4 v6 ∧ v5 = .bool neg ∧ v7 = .int .i64 0 ∧ w.alloc (.cells #[.int .u8 0, .bool false, .int .i64 0, .int .i64 0] 166) = wx)
  case first => as_aux_lemma =>
    have hsg := HI.out.1.sign
    rw [← HI.out.2.2.1] at hsg
    have hlt := HI.out.1.lt
    have hnl := HIN0.out.1
    rcases hsg with ⟨rfl, hp, h45⟩ | ⟨rfl, hp, h45⟩
    · have e45 : ((x : Int) == 45) = false := by rw [beq_eq_false_iff_ne]; omega
      have HAT : Hid (AtP b L cap off p1 (.int .i64 0) (.slice (some ⟨b, off, none⟩) n c)) := Lib.hid ⟨off, n, c, by rw [hp]; exact HIN0.out, i64_eq (by omega), rfl⟩
      clear h45 hp hlt hnl
      go_wp2_with (first | go_meet | fail)
      exact HAT.out
    · subst h45
      have e45 : (((45 : Nat) : Int) == 45) = true := rfl
      have hc1 : ¬ c = 1 := by have := HIN0.out.2.1; omega
      have hin1 := inAt_cut HIN0.out (show 1 ≤ n by omega) (by assumption)
      have hp' : off + 1 = p1 := hp.symm
      have HC1 := Lib.hid (HC.out _ ((Below.refl _ _).alloc (Nat.le_refl _) (.cells #[.int .u8 0, .bool false, .int .i64 0, .int .i64 0] 166)) HI.out.2.2.1.symm hp (n - 1) (c - 1) (by rw [← hp']; exact hin1))
      rw [hp] at HC1
      have HN1 : Hid (off + 1 + (n - 1) = L ∧ p1 = off + 1 ∧ p1 < L) := Lib.hid ⟨by omega, hp, hlt⟩
      have q0 : (1 : Int) < (n : Int) := by omega
      have q1 : (((n - 1 : Nat) : Int) == 0) = false := by rw [beq_eq_false_iff_ne]; omega
      have q2 : ¬ n = 1 := by omega
      clear hp hp' hin1 hlt hnl
      go_wp2_with (first | go_meet | fail)
      refine HC1.out.mono ?_
      rintro e w2 ⟨⟨o2, n2, c2, hin2, rfl⟩, rfl⟩
      have hn2 : n2 = n - 1 := by have := hin2.1; have := HN1.out; omega
      subst hn2
      have HAT : Hid (AtP b L cap off p1 (.int .i64 1) (.slice (some ⟨b, o2, none⟩) (n - 1) c2)) := Lib.hid ⟨o2, n - 1, c2, by rw [HN1.out.2.1]; exact hin2, i64_eq (by have := HN1.out; omega), rfl⟩
      clear hin2
      go_wp2_with (first | go_meet | fail)
      exact HAT.out
  case rest => as_aux_lemma =>
    obtain ⟨⟨o1, n1, c1, hin1, rfl, rfl⟩, rfl, rfl, rfl⟩ := hcut
    have hlt := HI.out.1.lt
    have hp01 := HI.out.2.2.2
    obtain ⟨j1, j2, j3, j4⟩ := id hin1
    obtain ⟨rfl, hc1'⟩ := j4 (by omega)
    have hy := HR.out w (Below.refl _ _) o1 hlt
    have HD := Lib.hid HI.out.1.digit
    have hd1 := HI.out.1.digit o1 (Nat.le_refl _) hlt
    have hz1 := HI.out.1.zero
    obtain ⟨y, hyy⟩ : ∃ y, y = (T.getD o1 0).toNat := ⟨_, rfl⟩
    rw [← hyy] at hy hd1 hz1
    have HR1 := Lib.hid (fun p (hp : p < L) => HR.out w (Below.refl _ _) p hp)
    have r0 : (1 : Int) ≤ (n1 : Int) := by omega
    have r1 : (0 : Int) < (n1 : Int) := by omega
    have r2 : (1 : Int) ≤ (c1 : Int) := by omega
    have b0 : bits .and .u8 0 3 = 0 := by decide
    have HIN1 := Lib.hid hin1
    have HN1 := Lib.hid (And.intro j1 j2)
    have HSZ : Hid (∀ k, o1 + k = L → ((o1 - off : Nat) : Int) + (k : Int) = ((L - off : Nat) : Int)) := Lib.hid (fun k hk => by omega)
    have z0 : (0 : Int) ≤ ((o1 - off : Nat) : Int) := by omega
    have z1 : ((o1 - off : Nat) : Int) ≤ 140737488355000 := by omega
    obtain ⟨u, hu⟩ : ∃ u, u = o1 - off := ⟨_, rfl⟩
    rw [← hu] at HSZ z0 z1 ⊢
    clear j1 j2 j3 j4 hc1' hin1 hyy hlt hp01 HR HI HIN0 HCC hx s0 s1 s2 s3 hu
    by_cases h48 : y = 48
    · have e48 : ((y : Int) == 48) = true := by rw [h48]; rfl
      have hL1 := hz1 h48
      obtain rfl : n1 = 1 := by have := HN1.out; omega
      have HSZ1 := Lib.hid (HSZ.out 1 hL1.symm)
      clear h48 hz1 hL1 hd1
      by_cases hc1 : c1 = 1
      · subst hc1
        go_wp2_with fail
        refine bodyPost_ret (v := numV 0 neg (L - off)) (by have := HSZ1.out; simp [results, Tryz.results105, go_sem, numV]; omega) rfl ⟨rfl, by go_grown⟩
      · go_wp2_with fail
        refine bodyPost_ret (v := numV 0 neg (L - off)) (by have := HSZ1.out; simp [results, Tryz.results105, go_sem, numV]; omega) rfl ⟨rfl, by go_grown⟩
    · have e48 : ((y : Int) == 48) = false := by rw [beq_eq_false_iff_ne]; omega
      have e49 : (49 : Int) ≤ (y : Int) := by omega
      have e57 : (y : Int) ≤ 57 := by omega
      clear h48 hz1 hd1
      go_upto_region 47 with (fail)
      go_cut [6] (fun v6 wx => (∃ o2 n2 c2, InAt b L cap (o1 + 1) o2 n2 c2 ∧ v6 = .slice (some ⟨b, o2, none⟩) n2 c2) ∧ w.alloc (.cells #[.int .u8 0, .bool false, .int .i64 0, .int .i64 0] 166) = wx)
      case first => as_aux_lemma =>
        by_cases hc1 : c1 = 1
        · have hn : n1 = 1 := by have := HN1.out.2; omega
          subst hn
          have HX := Lib.hid (inAt_end HIN1.out (Nat.le_refl _) hc1)
          subst hc1
          go_wp2_with (first | go_meet | fail)
          first | exact ⟨⟨_, _, _, HX.out, rfl⟩, rfl⟩ | exact ⟨_, _, _, HX.out, rfl⟩ | exact ⟨⟨_, _, _, HX.out, rfl, rfl, rfl⟩, rfl⟩ | exact ⟨_, _, _, HX.out, rfl, rfl, rfl⟩
        · have HX := Lib.hid (inAt_cut HIN1.out (show 1 ≤ n1 by omega) hL)
          go_wp2_with (first | go_meet | fail)
          first | exact ⟨⟨_, _, _, HX.out, rfl⟩, rfl⟩ | exact ⟨_, _, _, HX.out, rfl⟩ | exact ⟨⟨_, _, _, HX.out, rfl, rfl, rfl⟩, rfl⟩ | exact ⟨_, _, _, HX.out, rfl, rfl, rfl⟩
      case rest => as_aux_lemma =>
        obtain ⟨⟨o2, n2, c2, hin2, rfl⟩, rfl⟩ := hcut
        have HIN2 := Lib.hid hin2
        clear hin2 hy r0 r1 r2 e48 e49 e57
        go_wp2_with fail
        go_loop [11, 6] (fun v11 v6 => ∃ k : Nat, AlongD b L cap o1 k v11 v6) (fun _ v6 => lenV v6)
        case atStart => exact ⟨1, _, _, _, HIN2.out, rfl, rfl⟩
        case round =>
          obtain ⟨k, o3, n3, c3, hin3, rfl, rfl⟩ := hrel
          have HIN := Lib.hid hin3
          have hk47 : (k : Int) ≤ 140737488355000 := by have := hin3.1; omega
          have hk0 : (0 : Int) ≤ (k : Int) := by omega
          by_cases hn : 0 < n3
          · obtain ⟨rfl, hcc⟩ := hin3.2.2.2 hn
            have h1 := hin3.1
            have h2 := hin3.2.1
            have hz := HR1.out (o1 + k) (by omega)
            have hdd := HD.out (o1 + k) (by omega) (by omega)
            obtain ⟨z, hzz⟩ : ∃ z, z = (T.getD (o1 + k) 0).toNat := ⟨_, rfl⟩
            rw [← hzz] at hz hdd
            have e1 : (48 : Int) ≤ (z : Int) := by omega
            have e2 : (z : Int) ≤ 57 := by omega
            have t1 : (0 : Int) < (n3 : Int) := by omega
            have t2 : (1 : Int) ≤ (n3 : Int) := by omega
            have t3 : (1 : Int) ≤ (c3 : Int) := by omega
            have HNX : Hid ((c3 = 1 → n3 = 1 ∧ InAt b L cap (o1 + (k + 1)) (o1 + k) 0 0) ∧ (¬ c3 = 1 → InAt b L cap (o1 + (k + 1)) (o1 + k + 1) (n3 - 1) (c3 - 1))) := Lib.hid ⟨fun h => by
              have hn1 : n3 = 1 := by omega
              subst hn1
              exact ⟨rfl, inAt_end (pos := o1 + k) (k := 1) HIN.out (Nat.le_refl _) h⟩, fun h => inAt_cut (pos := o1 + k) (k := 1) HIN.out (show 1 ≤ n3 by omega) hL⟩
            clear hin3 hzz hcc h1 h2 hdd hn
            by_cases hc3 : c3 = 1
            · obtain ⟨rfl, hnx⟩ := HNX.out.1 hc3
              have HX := Lib.hid hnx
              subst hc3
              clear hnx t1 t2 t3
              go_wp2_with fail
              go_round
              case rel => exact ⟨k + 1, _, _, _, HX.out, by go_num, rfl⟩
              case measure => simp [lenV]
            · have HX := Lib.hid (HNX.out.2 hc3)
              go_wp2_with fail
              go_round
              case rel => exact ⟨k + 1, _, _, _, HX.out, by go_num, rfl⟩
              case measure => simp [lenV]; omega
          · obtain rfl : n3 = 0 := by omega
            have hsz := HSZ.out k hin3.1
            have HSZ1 := Lib.hid hsz
            clear hin3 hsz hn
            go_wp2_with fail
            refine bodyPost_ret (v := numV 0 neg (L - off)) (by have := HSZ1.out; simp [results, Tryz.results105, go_sem, numV]; omega) rfl ⟨rfl, by go_grown⟩

end Go.Proofs.YtpneioocmpagmaaGreatDoor.tx

