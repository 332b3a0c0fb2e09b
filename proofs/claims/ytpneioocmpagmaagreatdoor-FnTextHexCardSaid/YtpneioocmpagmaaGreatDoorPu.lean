/- internal/strconv.ParseUint at any base and size: its contract. -/
import Derived.Test.YtpneioocmpagmaaGreatDoorPu0
namespace Go.Proofs.YtpneioocmpagmaaGreatDoor.pu
open Go.RowKit Go.Proofs.YtpneioocmpagmaaGreatDoor.num
set_option linter.unusedVariables false
set_option linter.unusedSimpArgs false

/-- The tuple that ParseUint hands back. -/
def tup (n : Int) (c : Option Int) : Value := .tuple #[.int .u64 n, match c with | none => .nilIface | some k => .iface 198 (.int .i64 k)]

def Ends (mx : Nat) (r : NumEnd) (e : Ending) : Prop :=
  match r with
  | .ok n us => e = .returned (tup n none) ∨ (us = true ∧ e = .returned (tup 0 (some 2)))
  | .syn => e = .returned (tup 0 (some 2))
  | .rng => e = .returned (tup mx (some 1))

theorem getD_get (t : ByteArray) (i : Nat) (h : i < t.size) : t.data.toList.getD i 0 = t[i] := by
  rw [List.getD_eq_getElem?_getD, List.getElem?_eq_getElem (by simpa using h)]
  simp [ByteArray.getElem_eq_getElem_data]

/-- What the base's switch leaves: the rest of the text, the base, whether underscores may stand. -/
def PuIn (b mx : Nat) (t : ByteArray) (v0 v1 v8 : Value) : Prop :=
  ∃ (t' : ByteArray) (b' : Nat) (b0 : Bool), v0 = .string t' ∧ v1 = .int .i64 b' ∧ v8 = .bool b0 ∧ t'.size ≤ 140737488355328 ∧ 2 ≤ b' ∧ b' ≤ 36 ∧ pu b mx t.data.toList = puLoop b0 b' mx t'.data.toList 0 false

theorem in_plain {b mx : Nat} {t : ByteArray} (hne : ¬ t.size = 0) (hb2 : 2 ≤ b) (hb36 : b ≤ 36) (hmax : t.size ≤ 140737488355328) : PuIn b mx t (.string t) (.int .i64 b) (.bool ((b : Int) == 0)) := by
  refine ⟨t, b, false, rfl, rfl, by congr 1; simp; omega, hmax, hb2, hb36, ?_⟩
  unfold pu
  rw [if_neg (fun h => hne (by have := congrArg List.length h; simpa using this)), if_neg (by omega)]

theorem in_zero {mx : Nat} {t t' : ByteArray} (b' : Nat) {v : Int} (hv : v = (b' : Int)) (hne : ¬ t.size = 0) (hb2 : 2 ≤ b') (hb36 : b' ≤ 36) (hmax : t'.size ≤ 140737488355328) (h : pre t.data.toList = (b', t'.data.toList)) :
    PuIn 0 mx t (.string t') (.int .i64 v) (.bool true) := by
  subst hv
  refine ⟨t', b', true, rfl, rfl, rfl, hmax, hb2, hb36, ?_⟩
  unfold pu
  rw [if_neg (fun h => hne (by have := congrArg List.length h; simpa using this)), if_pos rfl, h]

def CutOk (cut : Int) (b' : Nat) : Prop := 0 ≤ cut ∧ cut < 18446744073709551616 ∧ ∀ n : Nat, (n : Int) < cut ↔ n * b' < 18446744073709551616

theorem cut_ten {b' : Nat} (h : ((b' : Int) == 10) = true) : CutOk 1844674407370955162 b' := by
  have : b' = 10 := by have := beq_iff_eq.1 h; omega
  subst this
  exact ⟨by omega, by omega, fun n => by omega⟩

theorem cut_sixteen {b' : Nat} (h : ((b' : Int) == 16) = true) : CutOk 1152921504606846976 b' := by
  have : b' = 16 := by have := beq_iff_eq.1 h; omega
  subst this
  exact ⟨by omega, by omega, fun n => by omega⟩

theorem cut_other {b' : Nat} (h2 : 2 ≤ b') : CutOk (IntKind.u64.wrap (18446744073709551615 / (b' : Int) + 1)) b' := by
  have e : (18446744073709551615 : Int) / (b' : Int) = ((18446744073709551615 / b' : Nat) : Int) := by simp
  have hd : 18446744073709551615 / b' ≤ 18446744073709551615 / 2 := Nat.div_le_div_left h2 (by decide)
  obtain ⟨q, hq⟩ : ∃ q : Nat, q = 18446744073709551615 / b' := ⟨_, rfl⟩
  rw [← hq] at e hd
  have hw : IntKind.u64.wrap (18446744073709551615 / (b' : Int) + 1) = ((q + 1 : Nat) : Int) := by
    rw [e, IntKind.wrap_u64]
    omega
  rw [hw]
  refine ⟨by omega, by omega, fun n => ?_⟩
  have h := Nat.le_div_iff_mul_le (x := n) (y := 18446744073709551615) (show 0 < b' by omega)
  rw [← hq] at h
  constructor
  · intro hn
    have := h.1 (by omega)
    omega
  · intro hn
    have := h.2 (by omega)
    omega

/-- The loop's state: how many bytes are read, what is gathered. -/
def Mid (b0 : Bool) (b' mx : Nat) (l : List UInt8) (r : NumEnd) (k : Nat) (a : Int) (us : Bool) : Prop :=
  0 ≤ a ∧ a < 18446744073709551616 ∧ ∃ acc : Nat, a = (acc : Int) ∧ r = puLoop b0 b' mx (l.drop k) acc us

theorem drop_get (l : List UInt8) (k : Nat) (h : k < l.length) : l.drop k = l.getD k 0 :: l.drop (k + 1) := by
  rw [List.drop_eq_getElem_cons h]
  simp [List.getD, List.getElem?_eq_getElem h]

theorem mid_us {b' mx : Nat} {l : List UInt8} {r : NumEnd} {k : Nat} {a : Int} {us : Bool} (h : Mid true b' mx l r k a us) (hk : k < l.length) (hc : (l.getD k 0).toNat = 95) : Mid true b' mx l r (k + 1) a true := by
  obtain ⟨h0, h1, acc, ha, hr⟩ := h
  refine ⟨h0, h1, acc, ha, ?_⟩
  rw [drop_get l k hk, puLoop, if_pos ⟨hc, rfl⟩] at hr
  exact hr

theorem mid_syn {b0 : Bool} {b' mx : Nat} {l : List UInt8} {r : NumEnd} {k : Nat} {a : Int} {us : Bool} (h : Mid b0 b' mx l r k a us) (hk : k < l.length) (hu : ¬ ((l.getD k 0).toNat = 95 ∧ b0 = true)) (hc : dig (l.getD k 0).toNat = none ∨ ∃ d, dig (l.getD k 0).toNat = some d ∧ b' ≤ d) : r = .syn := by
  obtain ⟨h0, h1, acc, ha, hr⟩ := h
  rw [drop_get l k hk, puLoop, if_neg hu] at hr
  rcases hc with hc | ⟨d, hc, hd⟩
  · rw [hc] at hr; exact hr
  · rw [hc] at hr; simp only [if_pos hd] at hr; exact hr

theorem mid_rng {b0 : Bool} {b' mx : Nat} {l : List UInt8} {r : NumEnd} {k : Nat} {a : Int} {us : Bool} (h : Mid b0 b' mx l r k a us) (hk : k < l.length) (hu : ¬ ((l.getD k 0).toNat = 95 ∧ b0 = true)) {d : Nat} (hc : dig (l.getD k 0).toNat = some d) (hd : d < b') (ho : (mx : Int) < a * b' + d) : r = .rng := by
  obtain ⟨h0, h1, acc, ha, hr⟩ := h
  subst ha
  rw [drop_get l k hk, puLoop, if_neg hu, hc] at hr
  simp only [if_neg (show ¬ b' ≤ d by omega)] at hr
  rw [if_pos (by have e : ((acc * b' + d : Nat) : Int) = (acc : Int) * b' + d := by simp
                 omega)] at hr
  exact hr

theorem mid_next {b0 : Bool} {b' mx : Nat} {l : List UInt8} {r : NumEnd} {k : Nat} {a a' : Int} {us : Bool} (h : Mid b0 b' mx l r k a us) (hk : k < l.length) (hu : ¬ ((l.getD k 0).toNat = 95 ∧ b0 = true)) {d : Nat} (hc : dig (l.getD k 0).toNat = some d) (hd : d < b') (ho : a * b' + d ≤ (mx : Int)) (hm : mx < 18446744073709551616) (ha' : a' = a * b' + d) : Mid b0 b' mx l r (k + 1) a' us := by
  obtain ⟨h0, h1, acc, ha, hr⟩ := h
  subst ha
  have e : ((acc * b' + d : Nat) : Int) = (acc : Int) * b' + d := by simp
  rw [drop_get l k hk, puLoop, if_neg hu, hc] at hr
  simp only [if_neg (show ¬ b' ≤ d by omega)] at hr
  rw [if_neg (by omega)] at hr
  subst ha'
  exact ⟨by omega, by omega, _, e.symm, hr⟩

theorem mid_end {b0 : Bool} {b' mx : Nat} {l : List UInt8} {r : NumEnd} {k : Nat} {a : Int} {us : Bool} (h : Mid b0 b' mx l r k a us) (hk : l.length ≤ k) : ∃ acc : Nat, a = (acc : Int) ∧ r = .ok acc us := by
  obtain ⟨h0, h1, acc, ha, hr⟩ := h
  rw [List.drop_eq_nil_of_le hk, puLoop] at hr
  exact ⟨acc, ha, hr⟩

theorem cut_lt {cut a : Int} {b0 : Bool} {b' mx : Nat} {l : List UInt8} {r : NumEnd} {k : Nat} {us : Bool} (hc : CutOk cut b') (h : Mid b0 b' mx l r k a us) (hlt : a < cut) : 0 ≤ a * b' ∧ a * b' < 18446744073709551616 := by
  obtain ⟨_, _, hc⟩ := hc
  obtain ⟨_, _, acc, rfl, _⟩ := h
  have := (hc acc).1 hlt
  have e : ((acc * b' : Nat) : Int) = (acc : Int) * b' := by simp
  omega

theorem cut_ge {cut a : Int} {b0 : Bool} {b' mx : Nat} {l : List UInt8} {r : NumEnd} {k : Nat} {us : Bool} (hc : CutOk cut b') (h : Mid b0 b' mx l r k a us) (hge : cut ≤ a) : 18446744073709551616 ≤ a * b' := by
  obtain ⟨_, _, hc⟩ := hc
  obtain ⟨_, _, acc, rfl, _⟩ := h
  have := (hc acc).2
  have e : ((acc * b' : Nat) : Int) = (acc : Int) * b' := by simp
  by_cases hx : acc * b' < 18446744073709551616
  · have := this hx; omega
  · omega

theorem wrap_in {x : Int} (h0 : 0 ≤ x) (h1 : x < 18446744073709551616) : IntKind.u64.wrap x = x := by
  rw [IntKind.wrap_u64]; omega
theorem wrap_over {x : Int} (h0 : 18446744073709551616 ≤ x) (h1 : x < 36893488147419103232) : IntKind.u64.wrap x = x - 18446744073709551616 := by
  rw [IntKind.wrap_u64]; omega

theorem dig_cases {n : Nat} (h : n < 256) {d : Nat} (hd : dig n = some d) : (48 ≤ n ∧ n ≤ 57 ∧ d = n - 48) ∨ (¬ (48 ≤ n ∧ n ≤ 57) ∧ 97 ≤ low n ∧ low n ≤ 122 ∧ d = low n - 97 + 10) := by
  unfold dig at hd
  by_cases h1 : 48 ≤ n ∧ n ≤ 57
  · rw [if_pos h1] at hd
    exact .inl ⟨h1.1, h1.2, (Option.some.inj hd).symm⟩
  · rw [if_neg h1] at hd
    by_cases h2 : 97 ≤ low n ∧ low n ≤ 122
    · rw [if_pos h2] at hd
      exact .inr ⟨h1, h2.1, h2.2, (Option.some.inj hd).symm⟩
    · rw [if_neg h2] at hd
      cases hd

theorem ext_list (t : ByteArray) (i : Nat) : (t.extract i t.size).data.toList = t.data.toList.drop i := by
  rw [Lib.extract_data]
  rw [List.take_of_length_le (by simp)]

theorem ext_size (t : ByteArray) (i : Nat) : (t.extract i t.size).size = t.size - i := by simp

theorem pre_x {t : ByteArray} {b' : Nat} (m : Nat) (h3 : 3 ≤ (t.size : Int)) (h0 : ((t.data.toList.getD 0 0).toNat : Int) = 48) (h1 : low (t.data.toList.getD 1 0).toNat = m) (hm : m = 98 ∧ b' = 2 ∨ m = 111 ∧ b' = 8 ∨ m = 120 ∧ b' = 16) :
    pre t.data.toList = (b', (t.extract 2 t.size).data.toList) := by
  have hl : t.data.toList.length = t.size := by simp
  have h3' : 3 ≤ t.data.toList.length := by omega
  have h0' : (t.data.toList.getD 0 0).toNat = 48 := by omega
  unfold pre
  rw [if_pos h0', h1, ext_list]
  rcases hm with ⟨rfl, rfl⟩ | ⟨rfl, rfl⟩ | ⟨rfl, rfl⟩
  · rw [if_pos ⟨h3', rfl⟩]
  · rw [if_neg (by omega), if_pos ⟨h3', rfl⟩]
  · rw [if_neg (by omega), if_neg (by omega), if_pos ⟨h3', rfl⟩]

theorem pre_8 {t : ByteArray} (h0 : ((t.data.toList.getD 0 0).toNat : Int) = 48) (h : (t.size : Int) < 3 ∨ (low (t.data.toList.getD 1 0).toNat ≠ 98 ∧ low (t.data.toList.getD 1 0).toNat ≠ 111 ∧ low (t.data.toList.getD 1 0).toNat ≠ 120)) :
    pre t.data.toList = (8, (t.extract 1 t.size).data.toList) := by
  have hl : t.data.toList.length = t.size := by simp
  have h0' : (t.data.toList.getD 0 0).toNat = 48 := by omega
  unfold pre
  rw [if_pos h0', ext_list]
  rw [if_neg (by omega), if_neg (by omega), if_neg (by omega)]

theorem pre_10 {t : ByteArray} (h0 : ¬ ((t.data.toList.getD 0 0).toNat : Int) = 48) : pre t.data.toList = (10, t.data.toList) := by
  unfold pre
  rw [if_neg (by omega)]

set_option maxHeartbeats 4000000 in
set_option maxRecDepth 100000 in
theorem pu_mx (t : ByteArray) (b bits mx : Nat) (HM : Hid (mx = 2 ^ bits - 1)) (hb : b = 0 ∨ (2 ≤ b ∧ b ≤ 36)) (h1 : 1 ≤ bits) (h64 : bits ≤ 64) (hmax : t.size ≤ 140737488355328) (w : World) :
    Calls Tryz.prog 111 #[.string t, .int .i64 b, .int .i64 bits] w fun e w' => Ends mx (pu b mx t.data.toList) e ∧ Below w.heap.size w w' := by
  by_cases hne : t.size = 0
  · have hs : t = ⟨#[]⟩ := by
      apply ByteArray.ext
      exact Array.eq_empty_of_size_eq_zero hne
    subst hs
    go_enter Tryz.func111, Tryz.ntmps111
    go_wp2
    go_ret2
    exact ⟨rfl, Below.refl _ _⟩
  · have hemp : t.toList.isEmpty = false := by
      rw [← decide_eq_emptyBytes]
      exact decide_eq_false (fun h => hne (by rw [h]; rfl))
    have hn0 : 0 < t.size := by omega
    have g0 := getD_get t 0 hn0
    go_enter Tryz.func111, Tryz.ntmps111
    go_upto_block 0 with fail
    go_cut [0, 1, 8] (fun v0 v1 v8 wx => PuIn b mx t v0 v1 v8 ∧ w = wx)
    case first =>
      have G0 := Lib.hid g0
      clear g0
      rcases hb with rfl | ⟨hb2, hb36⟩
      · by_cases hs3 : 3 ≤ t.size
        · have g1 := getD_get t 1 (by omega)
          have o1 := or32 (t[1].toNat) t[1].toNat_lt
          rw [← g1] at o1
          have G1 := Lib.hid (And.intro g1 o1)
          clear g1 o1
          go_wp2_with (first | go_meet | (go_at_call 141; refine (lower_any _ _).mono ?_; rintro e w' ⟨rfl, rfl⟩))
          all_goals
            obtain ⟨g1, o1⟩ := G1.out
            have g0 := G0.out
            simp only [← g0, ← g1, o1, beq_iff_eq, beq_eq_false_iff_ne] at *
          all_goals first
            | exact in_zero 2 rfl hne (by omega) (by omega) (by rw [ext_size]; omega) (pre_x 98 (by omega) (by omega) (by omega) (by omega))
            | exact in_zero 8 rfl hne (by omega) (by omega) (by rw [ext_size]; omega) (pre_x 111 (by omega) (by omega) (by omega) (by omega))
            | exact in_zero 16 rfl hne (by omega) (by omega) (by rw [ext_size]; omega) (pre_x 120 (by omega) (by omega) (by omega) (by omega))
            | exact in_zero 8 rfl hne (by omega) (by omega) (by rw [ext_size]; omega) (pre_8 (by omega) (by omega))
            | exact in_zero 10 rfl hne (by omega) (by omega) hmax (pre_10 (by omega))
        · go_wp2_with (first | go_meet | (go_at_call 141; refine (lower_any _ _).mono ?_; rintro e w' ⟨rfl, rfl⟩))
          all_goals
            have g0 := G0.out
            simp only [← g0, beq_iff_eq, beq_eq_false_iff_ne] at *
          all_goals first
            | exact in_zero 8 rfl hne (by omega) (by omega) (by rw [ext_size]; omega) (pre_8 (by omega) (by omega))
            | exact in_zero 10 rfl hne (by omega) (by omega) hmax (pre_10 (by omega))
      · go_wp2_with (first | go_meet | fail)
        exact in_plain hne hb2 hb36 hmax
    case rest =>
      obtain ⟨⟨t', b', b0, rfl, rfl, rfl, ht', hb2, hb36, hpu⟩, rfl⟩ := hcut
      have HPU := Lib.hid hpu
      clear hpu
      have hmv : IntKind.u64.wrap (IntKind.u64.wrap (2 ^ bits) - 1) = (mx : Int) := by
        have hmx := HM.out
        have hp1 : 2 ^ 1 ≤ 2 ^ bits := Nat.pow_le_pow_right (by decide) h1
        have hp2 : 2 ^ bits ≤ 2 ^ 64 := Nat.pow_le_pow_right (by decide) h64
        have e : ((2 : Int) ^ bits) = ((2 ^ bits : Nat) : Int) := by simp
        rw [e, IntKind.wrap_u64, IntKind.wrap_u64]
        omega
      have hmxb : mx < 18446744073709551616 := by
        have hmx := HM.out
        have hp2 : 2 ^ bits ≤ 2 ^ 64 := Nat.pow_le_pow_right (by decide) h64
        omega
      have HB := Lib.hid (And.intro hb2 hb36)
      go_upto_block 2 with fail
      go_cut [10] (fun v10 wx => ∃ cut : Int, v10 = .int .u64 cut ∧ CutOk cut b' ∧ w = wx)
      case first =>
        go_wp2_with (first | go_meet | fail)
        all_goals first | exact cut_ten ‹_› | exact cut_sixteen ‹_› | exact cut_other hb2
      case rest =>
        obtain ⟨cut, rfl, HC, rfl⟩ := hcut
        have hcv := Lib.run_convert_string_bytes (P := Tryz.prog) w 9 25 5 t' (u := .string) Tryz.underlying9 Tryz.underlying25 Tryz.underlying5
        have hB : ∀ j, j < t'.size → (Lib.bytesWorld w 5 t').cell? ⟨w.heap.size, j, none⟩ = some (.int .u8 (t'.data.toList.getD j 0).toNat) := fun j hj => Lib.bytesWorld_cell w 5 t' j hj
        have hbw : Below w.heap.size w (Lib.bytesWorld w 5 t') := Lib.bytesWorld_below w 5 t'
        obtain ⟨W1, hW1⟩ : ∃ W1, W1 = Lib.bytesWorld w 5 t' := ⟨_, rfl⟩
        rw [← hW1] at hcv hB hbw
        clear hW1
        have HBW := Lib.hid (And.intro hB hbw)
        clear hB hbw
        have HL := Lib.hid (show t'.data.toList.length = t'.size by simp)
        have hm0 : Mid b0 b' mx t'.data.toList (pu b mx t.data.toList) 0 0 false := ⟨by omega, by omega, 0, rfl, HPU.out⟩
        go_wp2_with fail
        go_loop [12, 13, 101] (fun vu vn vi => ∃ (k : Nat) (a : Int) (us : Bool), vu = .bool us ∧ vn = .int .u64 a ∧ vi = .int .i64 k ∧ k ≤ t'.size ∧ Mid b0 b' mx t'.data.toList (pu b mx t.data.toList) k a us)
          (fun _ _ vi => t'.size - (intOf vi).toNat)
        case atStart => exact ⟨0, 0, false, rfl, rfl, rfl, by omega, hm0⟩
        case round =>
          clear hm0 hcv
          obtain ⟨k, a, us, rfl, rfl, rfl, hk, hm⟩ := hrel
          have a0 := hm.1
          have a1 := hm.2.1
          obtain ⟨hB, hbw⟩ := HBW.out
          have hl := HL.out
          by_cases hkn : k < t'.size
          · have hc := hB k hkn
            have hkl : k < t'.data.toList.length := by omega
            clear hB hl
            obtain ⟨c, hcd⟩ : ∃ c, c = t'.data.toList.getD k 0 := ⟨_, rfl⟩
            rw [← hcd] at hc
            have hc256 : c.toNat < 256 := c.toNat_lt
            have o1 := or32 c.toNat hc256
            by_cases h95 : c.toNat = 95
            · have h95' : ((c.toNat : Int) == 95) = true := by rw [h95]; rfl
              cases b0 with
              | true =>
                have hn := mid_us hm hkl (by rw [← hcd]; exact h95)
                clear hcd o1 h95 hm
                go_wp2_with fail
                exact ⟨⟨k + 1, a, true, rfl, rfl, by go_num, by omega, hn⟩, by simp [intOf]; omega⟩
              | false =>
                have hs := mid_syn hm hkl (by simp) (Or.inl (by rw [← hcd, h95]; decide))
                have HS := Lib.hid hs
                clear hcd o1 hm hs
                go_wp2_with (go_at_call 141; refine (lower_any _ _).mono ?_; rintro e w' ⟨rfl, rfl⟩)
                go_ret2
                rw [HS.out]
                exact ⟨rfl, hbw⟩
            · have h95' : ((c.toNat : Int) == 95) = false := by rw [beq_eq_false_iff_ne]; omega
              have hu : ¬ ((t'.data.toList.getD k 0).toNat = 95 ∧ b0 = true) := by rw [← hcd]; exact fun h => h95 h.1
              -- what the digit is worth
              cases hd : dig c.toNat with
              | none =>
                have HS := Lib.hid (mid_syn hm hkl hu (Or.inl (by rw [← hcd]; exact hd)))
                have hnd : ¬ (48 ≤ c.toNat ∧ c.toNat ≤ 57) := fun h => by unfold dig at hd; rw [if_pos h] at hd; cases hd
                have hnl : ¬ (97 ≤ low c.toNat ∧ low c.toNat ≤ 122) := fun h => by unfold dig at hd; rw [if_neg hnd, if_pos h] at hd; cases hd
                have hnl' : ¬ ((97 : Int) ≤ ((low c.toNat : Nat) : Int) ∧ ((low c.toNat : Nat) : Int) ≤ 122) := by omega
                have hnd' : (c.toNat : Int) < 48 ∨ 57 < (c.toNat : Int) := by omega
                have hnl' : ((low c.toNat : Nat) : Int) < 97 ∨ 122 < ((low c.toNat : Nat) : Int) := by omega
                clear hcd hm hd hu hnd hnl
                rcases hnd' with hx | hx <;> rcases hnl' with hy | hy
                all_goals
                  go_wp2_with (go_at_call 141; refine (lower_any _ _).mono ?_; rintro e w' ⟨rfl, rfl⟩)
                  go_ret2
                  rw [HS.out]
                  exact ⟨rfl, hbw⟩
              | some d =>
                have hdc := dig_cases hc256 hd
                rw [hcd] at hd
                have HM := Lib.hid (And.intro hm (And.intro hu hd))
                by_cases hdb : b' ≤ d
                · have HS := Lib.hid (mid_syn hm hkl hu (Or.inr ⟨d, hd, hdb⟩))
                  rcases hdc with ⟨hd0, hd1, hd2⟩ | ⟨hnd, hd0, hd1, hd2⟩
                  · have hdi : (b' : Int) ≤ (c.toNat : Int) - 48 := by omega
                    clear hcd hm hu hd hd2 hdb o1
                    go_wp2_with fail
                    go_ret2
                    rw [HS.out]
                    exact ⟨rfl, hbw⟩
                  · have hdi : (b' : Int) ≤ ((low c.toNat : Nat) : Int) - 97 + 10 := by omega
                    have hnd' : (c.toNat : Int) < 48 ∨ 57 < (c.toNat : Int) := by omega
                    clear hcd hm hu hd hd2 hdb hnd
                    rcases hnd' with hx | hx
                    all_goals
                      go_wp2_with (go_at_call 141; refine (lower_any _ _).mono ?_; rintro e w' ⟨rfl, rfl⟩)
                      go_ret2
                      rw [HS.out]
                      exact ⟨rfl, hbw⟩
                · by_cases hcut : a < cut
                  · obtain ⟨hp0, hp1⟩ := cut_lt HC hm hcut
                    have hw1 := wrap_in hp0 hp1
                    by_cases hov : a * b' + d ≤ (mx : Int)
                    · have hdI : (d : Int) < b' := by omega
                      rcases hdc with ⟨hd0, hd1, hd2⟩ | ⟨hnd, hd0, hd1, hd2⟩
                      · have hdi : (c.toNat : Int) - 48 < (b' : Int) := by omega
                        have hov' : a * b' + ((c.toNat : Int) - 48) ≤ mx := by omega
                        have hw2 := wrap_in (x := a * b' + ((c.toNat : Int) - 48)) (by omega) (by omega)
                        have hn := mid_next hm hkl hu hd (by omega) hov hmxb (a' := a * b' + ((c.toNat : Int) - 48)) (by omega)
                        clear hcd hm hu hd hd2 hdb o1 hov hdI
                        go_wp2_with fail
                        exact ⟨⟨k + 1, _, us, rfl, rfl, by go_num, by omega, hn⟩, by simp [intOf]; omega⟩
                      · have hdi : ((low c.toNat : Nat) : Int) - 97 + 10 < (b' : Int) := by omega
                        have hnd' : (c.toNat : Int) < 48 ∨ 57 < (c.toNat : Int) := by omega
                        have hov' : a * b' + (((low c.toNat : Nat) : Int) - 97 + 10) ≤ mx := by omega
                        have hw2 := wrap_in (x := a * b' + (((low c.toNat : Nat) : Int) - 97 + 10)) (by omega) (by omega)
                        have hn := mid_next hm hkl hu hd (by omega) hov hmxb (a' := a * b' + (((low c.toNat : Nat) : Int) - 97 + 10)) (by omega)
                        clear hcd hm hu hd hd2 hdb hov hdI hnd
                        rcases hnd' with hx | hx
                        all_goals
                          go_wp2_with (go_at_call 141; refine (lower_any _ _).mono ?_; rintro e w' ⟨rfl, rfl⟩)
                          exact ⟨⟨k + 1, _, us, rfl, rfl, by go_num, by omega, hn⟩, by simp [intOf]; omega⟩
                    · have hdI : (d : Int) < b' := by omega
                      have HS := Lib.hid (mid_rng hm hkl hu hd (by omega) (by omega))
                      rcases hdc with ⟨hd0, hd1, hd2⟩ | ⟨hnd, hd0, hd1, hd2⟩
                      · have hdi : (c.toNat : Int) - 48 < (b' : Int) := by omega
                        have hov' : (mx : Int) < a * b' + ((c.toNat : Int) - 48) := by omega
                        by_cases hbig : a * b' + ((c.toNat : Int) - 48) < 18446744073709551616
                        · have hw2 := wrap_in (x := a * b' + ((c.toNat : Int) - 48)) (by omega) hbig
                          clear hcd hm hu hd hd2 hdb o1 hov hdI
                          go_wp2_with fail
                          go_ret2
                          rw [HS.out]
                          exact ⟨rfl, hbw⟩
                        · have hw2 := wrap_over (x := a * b' + ((c.toNat : Int) - 48)) (by omega) (by omega)
                          clear hcd hm hu hd hd2 hdb o1 hov hdI
                          go_wp2_with fail
                          go_ret2
                          rw [HS.out]
                          exact ⟨rfl, hbw⟩
                      · have hdi : ((low c.toNat : Nat) : Int) - 97 + 10 < (b' : Int) := by omega
                        have hnd' : (c.toNat : Int) < 48 ∨ 57 < (c.toNat : Int) := by omega
                        have hov' : (mx : Int) < a * b' + (((low c.toNat : Nat) : Int) - 97 + 10) := by omega
                        have hbig : a * b' + (((low c.toNat : Nat) : Int) - 97 + 10) < 18446744073709551616 ∨ 18446744073709551616 ≤ a * b' + (((low c.toNat : Nat) : Int) - 97 + 10) := by omega
                        rcases hbig with hbig | hbig
                        · have hw2 := wrap_in (x := a * b' + (((low c.toNat : Nat) : Int) - 97 + 10)) (by omega) hbig
                          clear hcd hm hu hd hd2 hdb hov hdI hnd
                          rcases hnd' with hx | hx
                          all_goals
                            go_wp2_with (go_at_call 141; refine (lower_any _ _).mono ?_; rintro e w' ⟨rfl, rfl⟩)
                            go_ret2
                            rw [HS.out]
                            exact ⟨rfl, hbw⟩
                        · have hw2 := wrap_over (x := a * b' + (((low c.toNat : Nat) : Int) - 97 + 10)) (by omega) (by omega)
                          clear hcd hm hu hd hd2 hdb hov hdI hnd
                          rcases hnd' with hx | hx
                          all_goals
                            go_wp2_with (go_at_call 141; refine (lower_any _ _).mono ?_; rintro e w' ⟨rfl, rfl⟩)
                            go_ret2
                            rw [HS.out]
                            exact ⟨rfl, hbw⟩
                  · have hge := cut_ge HC hm (by omega)
                    have hdI : (d : Int) < b' := by omega
                    have HS := Lib.hid (mid_rng hm hkl hu hd (by omega) (by omega))
                    have hcut' : cut ≤ a := by omega
                    rcases hdc with ⟨hd0, hd1, hd2⟩ | ⟨hnd, hd0, hd1, hd2⟩
                    · have hdi : (c.toNat : Int) - 48 < (b' : Int) := by omega
                      clear hcd hm hu hd hd2 hdb o1 hdI hcut hge
                      go_wp2_with fail
                      go_ret2
                      rw [HS.out]
                      exact ⟨rfl, hbw⟩
                    · have hdi : ((low c.toNat : Nat) : Int) - 97 + 10 < (b' : Int) := by omega
                      have hnd' : (c.toNat : Int) < 48 ∨ 57 < (c.toNat : Int) := by omega
                      clear hcd hm hu hd hd2 hdb hdI hnd hcut hge
                      rcases hnd' with hx | hx
                      all_goals
                        go_wp2_with (go_at_call 141; refine (lower_any _ _).mono ?_; rintro e w' ⟨rfl, rfl⟩)
                        go_ret2
                        rw [HS.out]
                        exact ⟨rfl, hbw⟩
          · obtain ⟨acc, hacc, hr⟩ := mid_end hm (by omega)
            have HR := Lib.hid (And.intro hacc hr)
            have hkk : ¬ k < t'.size := hkn
            clear hacc hr hm hB hl
            cases us with
            | false =>
              go_wp2_with fail
              go_ret2
              obtain ⟨hacc, hr⟩ := HR.out
              rw [hr, hacc]
              exact ⟨.inl rfl, hbw⟩
            | true =>
              go_wp2_with (go_at_call 142; refine (under_any _ (by omega) _).mono ?_; rintro e w' ⟨⟨b, rfl⟩, rfl⟩)
              all_goals go_ret2
              all_goals
                obtain ⟨hacc, hr⟩ := HR.out
                rw [hr, hacc]
              all_goals first | exact ⟨.inl rfl, hbw⟩ | exact ⟨.inr ⟨rfl, rfl⟩, hbw⟩

theorem pu_any (t : ByteArray) (b bits : Nat) (hb : b = 0 ∨ (2 ≤ b ∧ b ≤ 36)) (h1 : 1 ≤ bits) (h64 : bits ≤ 64) (hmax : t.size ≤ 140737488355328) (w : World) :
    Calls Tryz.prog 111 #[.string t, .int .i64 b, .int .i64 bits] w fun e w' => Ends (2 ^ bits - 1) (pu b (2 ^ bits - 1) t.data.toList) e ∧ Below w.heap.size w w' :=
  pu_mx t b bits _ (Lib.hid rfl) hb h1 h64 hmax w

end Go.Proofs.YtpneioocmpagmaaGreatDoor.pu

