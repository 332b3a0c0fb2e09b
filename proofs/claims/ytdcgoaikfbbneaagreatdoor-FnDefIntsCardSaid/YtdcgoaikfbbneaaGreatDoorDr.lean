/- The reference's reading of whole numbers: ReadWhole, ReadCount. -/
import Derived.Test.YtdcgoaikfbbneaaGreatDoorDt
namespace Go.Proofs.YtdcgoaikfbbneaaGreatDoor.ints
open Go.RowKit Go.Proofs.YtdcgoaikfbbneaaGreatDoor.num Go.Proofs.YtdcgoaikfbbneaaGreatDoor.pu
set_option linter.unusedVariables false
set_option linter.unusedSimpArgs false

def CountSays (mx : Nat) (l : List UInt8) (w : World) (e : Ending) (w' : World) : Prop := (∃ n told : Int, e = .returned (.tuple #[.int .u64 n, .int .i64 told]) ∧ RC mx l n told) ∧ Below w.heap.size w w'
def WholeSays (mx half : Nat) (l : List UInt8) (w : World) (e : Ending) (w' : World) : Prop := (∃ n told : Int, e = .returned (.tuple #[.int .i64 n, .int .i64 told]) ∧ RW mx half l n told) ∧ Below w.heap.size w w'

theorem pd_all {l : List UInt8} (h : PD l 1) : ∀ c ∈ l, IsDig c := by
  rcases h with h | ⟨_, _, hd, _⟩ | ⟨h, _⟩
  · omega
  · exact hd
  · omega

def YN (mx v u : Nat) (b : Bool) : Prop := (b = true → u = v ∧ v ≤ mx) ∧ (b = false → ¬ v ≤ mx)

theorem YN.yes {mx v u : Nat} (h : YN mx v u true) : u = v ∧ v ≤ mx := h.1 rfl
theorem YN.no {mx v u : Nat} (h : YN mx v u false) : ¬ v ≤ mx := h.2 rfl

theorem tn_cases {mx v : Nat} {e : Ending} (h : TN mx v e) : ∃ (u : Nat) (b : Bool), e = .returned (.tuple #[.int .u64 u, .bool b]) ∧ YN mx v u b := by
  by_cases hv : v ≤ mx
  · exact ⟨v, true, h.1 hv, fun _ => ⟨rfl, hv⟩, fun h => (Bool.noConfusion h)⟩
  · exact ⟨0, false, h.2 hv, fun h => (Bool.noConfusion h), fun _ => hv⟩

set_option maxHeartbeats 4000000 in
set_option maxRecDepth 100000 in
theorem read_count (t : ByteArray) (bits mx : Nat) (hbits : (bits = 32 ∧ mx = 4294967295) ∨ (bits = 64 ∧ mx = 18446744073709551615)) (hmax : t.size ≤ 140737488355328) (w : World) :
    Calls Tryz.prog 8 #[.string t, .int .i64 bits] w fun e w' => CountSays mx t.data.toList w e w' := by
  have TN := fun (hall : PD t.data.toList 1) => to_number t mx w.heap.size (grownCap w t.size 0 5) (pd_all hall) (by omega) (by omega) hmax (Lib.bytesWorld w 5 t) (fun j hj => Lib.bytesWorld_cell w 5 t j hj)
  have hcv := Lib.run_convert_string_bytes (P := Tryz.prog) w 9 38 5 t (u := .string) Tryz.underlying9 Tryz.underlying38 Tryz.underlying5
  have hbw : Below w.heap.size w (Lib.bytesWorld w 5 t) := Lib.bytesWorld_below w 5 t
  obtain ⟨W1, hW1⟩ : ∃ W1, W1 = Lib.bytesWorld w 5 t := ⟨_, rfl⟩
  rw [← hW1] at hcv hbw TN
  clear hW1
  have TN := Lib.hid TN
  have HW := Lib.hid hbw
  have HC := Lib.hid hcv
  clear hbw hcv
  go_enter Tryz.func8, Tryz.ntmps8
  go_wp2_with fail
  refine (plain_digits t hmax w).mono ?_
  rintro e w' ⟨⟨d, rfl, hd⟩, rfl⟩
  by_cases h1 : d = 1
  · subst h1
    have HD := Lib.hid hd
    clear hd
    have hcv := HC.out
    rcases hbits with ⟨rfl, rfl⟩ | ⟨rfl, rfl⟩
    all_goals
      go_wp2_with fail
      refine (TN.out HD.out).mono ?_
      rintro e w' ⟨ht, rfl⟩
      obtain ⟨u, b, rfl, hy⟩ := tn_cases ht
      have HYN := Lib.hid hy
      clear ht hy
      cases b
      · go_wp2_with fail
        go_ret2
        exact ⟨⟨_, _, rfl, (rc_yes HD.out).2 HYN.out.no⟩, HW.out⟩
      · go_wp2_with fail
        go_ret2
        refine ⟨⟨_, _, rfl, ?_⟩, HW.out⟩
        rw [HYN.out.yes.1]
        exact (rc_yes HD.out).1 HYN.out.yes.2
  · have hne : (d == 1) = false := beq_eq_false_iff_ne.2 h1
    have HD := Lib.hid (rc_no (mx := mx) hd h1)
    clear hd h1
    go_wp2_with fail
    go_ret2
    exact ⟨⟨_, _, rfl, HD.out⟩, Below.refl _ _⟩

theorem wneg {u : Nat} (hu : u ≤ 9223372036854775808) : IntKind.i64.wrap (IntKind.u64.wrap (-(u : Int))) = -(u : Int) := by
  rw [IntKind.wrap_u64, IntKind.wrap_i64]; omega

theorem wpos {u : Nat} (hu : u ≤ 9223372036854775807) : IntKind.i64.wrap (u : Int) = (u : Int) := by
  rw [IntKind.wrap_i64]; omega

/-- The text without a sign ahead. -/
def Bare (t t' : ByteArray) (v : Value) : Prop := v = .string t' ∧ ((t.data.toList.getD 0 0).toNat = 45 ∧ t' = t.extract 1 t.size ∧ (t'.size : Int) < t.size ∨ ¬ (t.data.toList.getD 0 0).toNat = 45 ∧ t' = t)

def Minus (t : ByteArray) (b : Bool) : Prop := (b = true → 0 < t.size ∧ (t.data.toList.getD 0 0).toNat = 45) ∧ (b = false → ¬ (t.data.toList.getD 0 0).toNat = 45)

theorem Minus.yes {t : ByteArray} (h : Minus t true) : 0 < t.size ∧ (t.data.toList.getD 0 0).toNat = 45 := h.1 rfl
theorem Minus.no {t : ByteArray} (h : Minus t false) : ¬ (t.data.toList.getD 0 0).toNat = 45 := h.2 rfl

theorem bare_list {t t' : ByteArray} (h : (t.data.toList.getD 0 0).toNat = 45 ∧ t' = t.extract 1 t.size ∧ (t'.size : Int) < t.size ∨ ¬ (t.data.toList.getD 0 0).toNat = 45 ∧ t' = t) :
    t'.data.toList = if (t.data.toList.getD 0 0).toNat = 45 then t.data.toList.drop 1 else t.data.toList := by
  rcases h with ⟨h, rfl, _⟩ | ⟨h, rfl⟩
  · rw [if_pos h]; exact ext_list t 1
  · rw [if_neg h]

set_option maxHeartbeats 4000000 in
set_option maxRecDepth 100000 in
theorem read_whole (t : ByteArray) (bits mx half : Nat) (hbits : (bits = 32 ∧ mx = 4294967295 ∧ half = 2147483648) ∨ (bits = 64 ∧ mx = 18446744073709551615 ∧ half = 9223372036854775808)) (hmax : t.size ≤ 140737488355328) (w : World) :
    Calls Tryz.prog 7 #[.string t, .int .i64 bits] w fun e w' => WholeSays mx half t.data.toList w e w' := by
  go_enter Tryz.func7, Tryz.ntmps7
  go_upto_region 2 with fail
  go_cut [18] (fun v18 wx => (∃ b, v18 = .bool b ∧ Minus t b) ∧ w = wx)
  case first =>
    by_cases hne : t.size = 0
    · have hs : t = ⟨#[]⟩ := by
        apply ByteArray.ext
        exact Array.eq_empty_of_size_eq_zero hne
      subst hs
      go_wp2_with (first | go_meet | fail)
      exact ⟨fun h => (Bool.noConfusion h), fun _ => by decide⟩
    · have hemp : t.toList.isEmpty = false := by
        rw [← decide_eq_emptyBytes]
        exact decide_eq_false (fun h => hne (by rw [h]; rfl))
      have hn0 : 0 < t.size := by omega
      have g0 := getD_get t 0 hn0
      by_cases h45 : t[0].toNat = 45
      · have e : ((t[0].toNat : Int) == 45) = true := by rw [h45]; rfl
        have H := Lib.hid (show (t.data.toList.getD 0 0).toNat = 45 by rw [g0]; exact h45)
        clear g0
        go_wp2_with (first | go_meet | fail)
        exact ⟨fun _ => ⟨hn0, H.out⟩, fun h => (Bool.noConfusion h)⟩
      · have e : ((t[0].toNat : Int) == 45) = false := by rw [beq_eq_false_iff_ne]; omega
        have H := Lib.hid (show ¬ (t.data.toList.getD 0 0).toNat = 45 by rw [g0]; exact h45)
        clear g0
        go_wp2_with (first | go_meet | fail)
        exact ⟨fun h => (Bool.noConfusion h), fun _ => H.out⟩
  case rest =>
  obtain ⟨⟨b, rfl, hm⟩, rfl⟩ := hcut
  have HM := Lib.hid hm
  clear hm
  go_upto_if 18 with fail
  go_cut [6] (fun v6 wx => (∃ t', Bare t t' v6) ∧ w = wx)
  case first =>
    cases b with
    | true =>
      have hn0 := HM.out.yes.1
      go_wp2_with (first | go_meet | fail)
      exact ⟨_, rfl, .inl ⟨HM.out.yes.2, rfl, by rw [ext_size]; omega⟩⟩
    | false =>
      go_wp2_with (first | go_meet | fail)
      exact ⟨_, rfl, .inr ⟨HM.out.no, rfl⟩⟩
  case rest =>
    obtain ⟨⟨t', rfl, hb⟩, rfl⟩ := hcut
    have hr := bare_list hb
    have hmax' : t'.size ≤ 140737488355328 := by
      rcases hb with ⟨_, _, h⟩ | ⟨_, rfl⟩
      · omega
      · exact hmax
    have TN := fun (mx : Nat) (h9 : 9 ≤ mx) (h64 : mx < 18446744073709551616) (hall : PD t'.data.toList 1) => to_number t' mx w.heap.size (grownCap w t'.size 0 5) (pd_all hall) h9 h64 hmax' (Lib.bytesWorld w 5 t') (fun j hj => Lib.bytesWorld_cell w 5 t' j hj)
    have hcv := Lib.run_convert_string_bytes (P := Tryz.prog) w 9 38 5 t' (u := .string) Tryz.underlying9 Tryz.underlying38 Tryz.underlying5
    have hbw : Below w.heap.size w (Lib.bytesWorld w 5 t') := Lib.bytesWorld_below w 5 t'
    obtain ⟨W1, hW1⟩ : ∃ W1, W1 = Lib.bytesWorld w 5 t' := ⟨_, rfl⟩
    rw [← hW1] at hcv hbw TN
    clear hW1
    have TN := Lib.hid TN
    have HW := Lib.hid hbw
    have HC := Lib.hid hcv
    have HR := Lib.hid hr
    have HB := Lib.hid hb
    clear hbw hcv hr hb
    go_wp2_with fail
    refine (plain_digits t' hmax' w).mono ?_
    rintro e w' ⟨⟨d, rfl, hd⟩, rfl⟩
    by_cases h1 : d = 1
    · subst h1
      have HD := Lib.hid hd
      clear hd
      rcases HB.out with ⟨h45, ht', hlt⟩ | ⟨h45, ht'⟩
      · have H45 := Lib.hid (And.intro h45 ht')
        have hd' : PD (t.data.toList.drop 1) 1 := by have := HD.out; rw [HR.out, if_pos h45] at this; exact this
        have hrr : t'.data.toList = t.data.toList.drop 1 := by rw [HR.out, if_pos h45]
        have HD' := Lib.hid (And.intro hd' hrr)
        clear h45 ht' hd' hrr
        have hcv := HC.out
        rcases hbits with ⟨rfl, rfl, rfl⟩ | ⟨rfl, rfl, rfl⟩
        · have T0 := TN.out 2147483648 (by decide) (by decide) HD.out
          simp only [Int.cast_ofNat_Int] at T0
          have T0 := Lib.hid T0
          go_wp2_with fail
          refine T0.out.mono ?_
          rintro e w' ⟨ht, rfl⟩
          obtain ⟨u, b, rfl, hy⟩ := tn_cases ht
          rw [HD'.out.2] at hy
          have HYN := Lib.hid hy
          clear ht hy
          cases b
          · go_wp2_with fail
            go_ret2
            exact ⟨⟨_, _, rfl, (rw_minus (by decide) H45.out.1 HD'.out.1).2 HYN.out.no⟩, HW.out⟩
          · by_cases hu : u = 0
            · subst hu
              go_wp2_with fail
              go_ret2
              exact ⟨⟨_, _, rfl, .inl rfl⟩, HW.out⟩
            · have hu' : ((u : Int) == 0) = false := by rw [beq_eq_false_iff_ne]; omega
              have e1 : IntKind.i64.wrap (IntKind.u64.wrap (-(u : Int))) = -(u : Int) := wneg (by obtain ⟨h1, h2⟩ := HYN.out.yes; omega)
              go_wp2_with fail
              go_ret2
              refine ⟨⟨_, _, rfl, ?_⟩, HW.out⟩
              rw [HYN.out.yes.1]
              exact (rw_minus (by decide) H45.out.1 HD'.out.1).1 HYN.out.yes.2
        · have T0 := TN.out 9223372036854775808 (by decide) (by decide) HD.out
          simp only [Int.cast_ofNat_Int] at T0
          have T0 := Lib.hid T0
          go_wp2_with fail
          refine T0.out.mono ?_
          rintro e w' ⟨ht, rfl⟩
          obtain ⟨u, b, rfl, hy⟩ := tn_cases ht
          rw [HD'.out.2] at hy
          have HYN := Lib.hid hy
          clear ht hy
          cases b
          · go_wp2_with fail
            go_ret2
            exact ⟨⟨_, _, rfl, (rw_minus (by decide) H45.out.1 HD'.out.1).2 HYN.out.no⟩, HW.out⟩
          · by_cases hu : u = 0
            · subst hu
              go_wp2_with fail
              go_ret2
              exact ⟨⟨_, _, rfl, .inl rfl⟩, HW.out⟩
            · have hu' : ((u : Int) == 0) = false := by rw [beq_eq_false_iff_ne]; omega
              have e1 : IntKind.i64.wrap (IntKind.u64.wrap (-(u : Int))) = -(u : Int) := wneg (by obtain ⟨h1, h2⟩ := HYN.out.yes; omega)
              go_wp2_with fail
              go_ret2
              refine ⟨⟨_, _, rfl, ?_⟩, HW.out⟩
              rw [HYN.out.yes.1]
              exact (rw_minus (by decide) H45.out.1 HD'.out.1).1 HYN.out.yes.2
      · subst ht'
        have H45 := Lib.hid h45
        clear h45
        have hcv := HC.out
        rcases hbits with ⟨rfl, rfl, rfl⟩ | ⟨rfl, rfl, rfl⟩
        · have T0 := TN.out 2147483647 (by decide) (by decide) HD.out
          simp only [Int.cast_ofNat_Int] at T0
          have T0 := Lib.hid T0
          go_wp2_with fail
          refine T0.out.mono ?_
          rintro e w' ⟨ht, rfl⟩
          obtain ⟨u, b, rfl, hy⟩ := tn_cases ht
          have HYN := Lib.hid hy
          clear ht hy
          cases b
          · go_wp2_with fail
            go_ret2
            exact ⟨⟨_, _, rfl, (rw_plus (by decide) H45.out HD.out).2 (by have := HYN.out.no; omega)⟩, HW.out⟩
          · have e1 : IntKind.i64.wrap (u : Int) = (u : Int) := wpos (by obtain ⟨h1, h2⟩ := HYN.out.yes; omega)
            go_wp2_with fail
            go_ret2
            refine ⟨⟨_, _, rfl, ?_⟩, HW.out⟩
            rw [HYN.out.yes.1]
            exact (rw_plus (by decide) H45.out HD.out).1 (by have := HYN.out.yes.2; omega)
        · have T0 := TN.out 9223372036854775807 (by decide) (by decide) HD.out
          simp only [Int.cast_ofNat_Int] at T0
          have T0 := Lib.hid T0
          go_wp2_with fail
          refine T0.out.mono ?_
          rintro e w' ⟨ht, rfl⟩
          obtain ⟨u, b, rfl, hy⟩ := tn_cases ht
          have HYN := Lib.hid hy
          clear ht hy
          cases b
          · go_wp2_with fail
            go_ret2
            exact ⟨⟨_, _, rfl, (rw_plus (by decide) H45.out HD.out).2 (by have := HYN.out.no; omega)⟩, HW.out⟩
          · have e1 : IntKind.i64.wrap (u : Int) = (u : Int) := wpos (by obtain ⟨h1, h2⟩ := HYN.out.yes; omega)
            go_wp2_with fail
            go_ret2
            refine ⟨⟨_, _, rfl, ?_⟩, HW.out⟩
            rw [HYN.out.yes.1]
            exact (rw_plus (by decide) H45.out HD.out).1 (by have := HYN.out.yes.2; omega)
    · have hne : (d == 1) = false := beq_eq_false_iff_ne.2 h1
      have HD := Lib.hid (rw_no (mx := mx) (half := half) HR.out hd h1)
      clear hd h1
      go_wp2_with fail
      go_ret2
      exact ⟨⟨_, _, rfl, HD.out⟩, Below.refl _ _⟩

end Go.Proofs.YtdcgoaikfbbneaaGreatDoor.ints
