/- json.appendString at every text. -/
import Derived.Test.YtonfdfikgnhheaaGreatDoorJh
import Derived.Deep.RegionHeld3
import Derived.BigQuiet
import Derived.Deep.QuietTactic
namespace Go.Proofs.YtonfdfikgnhheaaGreatDoor.js
open Go.RowKit
set_option linter.unusedVariables false
set_option linter.unusedSimpArgs false

/-- What the writer reads of the program's variables. -/
structure EncEnv (w : World) : Prop where
  tabs : Lib.Utf8Tabs 8 9 w
  db : w.cell? ⟨16, 15, none⟩ = some (.int .u8 4)
  err : ∃ T p, w.cell? ⟨2, 0, none⟩ = some (.iface T p)

def lenS : Value → Nat
  | .string t => t.size
  | _ => 0

theorem enc_take (l : List UInt8) (k : Nat) (h : k < l.length) : enc (l.take (k + 1)) = enc (l.take k) ++ encB (l.getD k 0) := by
  rw [List.take_add_one, List.getElem?_eq_getElem h, enc_append]
  simp [enc_one, List.getD_eq_getElem?_getD, List.getElem?_eq_getElem h]

theorem enc_run (l : List UInt8) (k n : Nat) (hp : ∀ j, j < n → k + j < l.length → Pl (l.getD (k + j) 0).toNat) : enc (l.take (k + n)) = enc (l.take k) ++ (l.drop k).take n := by
  rw [List.take_add, enc_append, enc_plain ((l.drop k).take n) (fun j hj => ?_)]
  have hj' : j < n ∧ k + j < l.length := by simp at hj; omega
  rw [List.getD_eq_getElem?_getD, List.getElem?_take, if_pos hj'.1, ← List.getD_eq_getElem?_getD, getD_drop]
  exact hp j hj'.1 hj'.2

/-- What stands between rounds. -/
structure ERel (B : Nat) (w : World) (l g0 : List UInt8) (k : Nat) (v : Value) (wr : World) : Prop where
  own : OwnB wr B v (g0 ++ 34 :: enc (l.take k))
  bel : Below B w wr
  val : Lib.validD l = Lib.validD (l.drop k)
  le : k ≤ l.length

def ASays (B : Nat) (w : World) (l g0 : List UInt8) (e : Ending) (w' : World) : Prop :=
  (Lib.validD l = true ∧ ∃ v', e = .returned (.tuple #[v', .nilIface]) ∧ OwnB w' B v' (g0 ++ 34 :: enc l ++ [34]) ∧ Below B w w') ∨
  (Lib.validD l = false ∧ ∃ v' T p g', e = .returned (.tuple #[v', .iface T p]) ∧ OwnB w' B v' g' ∧ Below B w w')

set_option maxHeartbeats 40000000 in
set_option maxRecDepth 100000 in
theorem append_string (s : ByteArray) (v0 : Value) (g0 : List UInt8) (B : Nat) (w : World) (hB : B ≤ w.heap.size) (hown : OwnB w B v0 g0) (hlen : g0.length + 6 * s.size + 2 ≤ 140737488355328) (EB : ∀ w', Below B w w' → EncEnv w') :
    Calls Tryz.prog 105 #[v0, .string s] w fun e w' => ASays B w s.data.toList g0 e w' := by
  have HE := Lib.hid EB
  have HO := Lib.hid (And.intro hown (Below.refl B w))
  obtain ⟨l, hl⟩ : ∃ l, l = s.data.toList := ⟨_, rfl⟩
  have HL := Lib.hid hl
  have hsz : s.size = l.length := by rw [hl]; exact size_list s
  rw [hsz] at hlen
  have HLEN := Lib.hid hlen
  have NE := fun W => need_escape s (by omega) W
  rw [← hl] at NE ⊢
  have HNE := Lib.hid NE
  have HSZ := Lib.hid hsz
  clear EB hown hl hlen hsz NE
  go_enter Tryz.func105, Tryz.ntmps105
  go_wp2_with (at_builtin; go_loud (refine wpList_push rfl _ _ rfl B _ _ rfl (.inr (own_below HO.out.1 (by go_grown))) _ _ _ _ rfl rfl (one_nb _ _ (by decide) (by decide) _) (Nat.le_refl 1) (by have := HLEN.out; omega) (by simp; omega) w (HO.out.2.alloc hB _) ?_); (intro v1 w1 h1 h2); clear HO; have HO := Lib.hid (And.intro h1 h2); clear h1 h2)
  refine (HNE.out _).mono ?_
  rintro e w2 ⟨⟨i, rfl, hi⟩, hb⟩
  have HI := Lib.hid hi
  have hi0 : (0 : Int) ≤ (i : Int) := by omega
  have hi1 : (i : Int) ≤ (s.size : Int) := by have := HSZ.out; have := hi.1; omega
  have HO2 : Hid (OwnB w2 B v1 (g0 ++ [34]) ∧ Below B w w2) := Lib.hid (And.intro (own_below HO.out.1 hb) (HO.out.2.trans (hb.mono (Nat.le_trans hB HO.out.2.size))))
  clear hb hi HO
  have hb2 : B ≤ w2.heap.size := Nat.le_trans hB HO2.out.2.size
  go_wp2_with fail
  go_region_held3 (fun w' => True) (trivial) ((refine step_push_str rfl (.tmp 18) (.tmp 21) rfl B v1 (g0 ++ [34]) (by simp [Act.eval, Act.put]) HO2.out.1.drew (s.extract 0 i) (by simp [Act.eval, Act.put]) (by have := HLEN.out; have := HSZ.out; rw [ByteArray.size_extract]; simp; omega) (by simpa using hb2) w HO2.out.2.drew ?_; intro v3 w3 h1 h2))
  have HS3 : Hid (ERel B w l g0 i v3 w3) := Lib.hid (by
    refine ⟨?_, h2, HI.out.2.2, HI.out.1⟩
    have e : enc (l.take i) = l.take i := enc_plain _ (fun j hj => by
      have hj' : j < i := by simp at hj; omega
      rw [List.getD_eq_getElem?_getD, List.getElem?_take, if_pos hj', ← List.getD_eq_getElem?_getD]
      exact HI.out.2.1 j hj')
    rw [e]
    have e2 : (s.extract 0 i).data.toList = l.take i := by rw [HL.out]; exact extract_head s i
    rw [e2] at h1
    simpa using h1)
  clear h1 h2 hb2 HO2 hi0 hi1
  obtain ⟨t0, ht0⟩ : ∃ t0, t0 = s.extract i s.size := ⟨_, rfl⟩
  have HT0 : Hid (t0.data.toList = l.drop i) := Lib.hid (by rw [ht0, HL.out]; exact extract_tail s i)
  rw [← ht0]
  clear ht0
  go_wp2_with fail
  go_loopw [0, 1] (fun v0 v1 wr => ∃ (k : Nat) (t : ByteArray), v1 = .string t ∧ t.data.toList = l.drop k ∧ ERel B w l g0 k v0 wr) (fun _ v1 _ => lenS v1)
  case atStart => exact ⟨i, t0, rfl, HT0.out, HS3.out⟩
  case round =>
    obtain ⟨k, t, rfl, ht, hx⟩ := hrel
    have HX := Lib.hid hx
    have HT := Lib.hid ht
    have hts : t.size = l.length - k := by rw [size_list, ht]; simp
    have hBr : B ≤ wr.heap.size := Nat.le_trans hB hx.bel.size
    have HTS := Lib.hid hts
    clear hx ht
    have HGL : Hid ((enc (l.take k)).length ≤ 6 * k) := Lib.hid (Nat.le_trans (enc_len _) (by simp; omega))
    by_cases hk : k < l.length
    · have t0 : (0 : Int) < (t.size : Int) := by omega
      have hw := width_le (l.drop k) (by simp; omega)
      have hdg : Lib.decodeGo t = Lib.decodeL (l.drop k) := by
        unfold Lib.decodeGo
        rw [decodeGo_list t (by omega), HT.out]
      have HLO := Lib.hid (rune_low (l.drop k))
      have HRP := Lib.hid (rune_plain (l.drop k))
      have HRB := Lib.hid (rune_bytes (l.drop k))
      have HVS := Lib.hid (valid_step (l.drop k) (by simp; omega))
      have HVB := Lib.hid (valid_bad (l.drop k) (by simp; omega))
      obtain ⟨r, n, hr⟩ : ∃ r n, Lib.decodeL (l.drop k) = (r, n) := ⟨_, _, rfl⟩
      have D := Tryz.utf8_DecodeRuneInString t wr (HE.out _ HX.out.bel).tabs
      rw [hdg, hr] at D
      rw [hr] at hw HLO HRP HRB HVS HVB
      simp only at hw HLO HRP HRB HVS HVB D
      rw [List.length_drop] at hw
      have HD := Lib.hid D
      have HR := Lib.hid hr
      clear hdg hr D
      by_cases hbad : r = 65533 ∧ n = 1
      · obtain ⟨rfl, rfl⟩ := hbad
        have HVF : Hid (Lib.validD l = false) := Lib.hid (by rw [HX.out.val]; exact HVB.out ⟨rfl, rfl⟩)
        clear HVB HVS HRB HRP HLO HR
        go_wp2_with fail
        refine HD.out.mono ?_
        rintro e w4 ⟨rfl, hb4⟩
        obtain ⟨T, p, hce⟩ := (HE.out w4 (HX.out.bel.trans (hb4.mono hBr))).err
        have HO4 := Lib.hid (And.intro (own_below HX.out.own hb4) (HX.out.bel.trans (hb4.mono hBr)))
        clear hb4
        go_wp2_with fail
        go_quiet (fail)
        go_wp2_with fail
        go_ret2
        exact .inr ⟨HVF.out, _, _, _, _, rfl, HO4.out.1, bdn HO4.out.2 _⟩
      · by_cases hesc : r < 32 ∨ r = 34 ∨ r = 92
        · have hlo := HLO.out (by omega)
          have hn1 : n = 1 := by have := hlo.1; simp at this; exact this.2
          have hcb : l.getD k 0 = UInt8.ofNat r := by
            have h1 := hlo.1
            rw [getD_drop, Nat.add_zero] at h1
            have h2 : r = (l.getD k 0).toNat := by simpa using congrArg Prod.fst h1
            rw [h2]; simp
          subst hn1
          have HCB := Lib.hid hcb
          have HO := Lib.hid (And.intro HX.out.own HX.out.bel)
          clear hlo hcb hbad
          rcases (by omega : r = 34 ∨ r = 92 ∨ r = 8 ∨ r = 12 ∨ r = 10 ∨ r = 13 ∨ r = 9 ∨ (r < 32 ∧ r ≠ 8 ∧ r ≠ 12 ∧ r ≠ 10 ∧ r ≠ 13 ∧ r ≠ 9)) with rfl | rfl | rfl | rfl | rfl | rfl | rfl | hr
          rotate_right
          · have HRR := Lib.hid hr
            obtain ⟨hr32, hr8, hr12, hr10, hr13, hr9⟩ := hr
            have c0 : (r : Int) < 32 := by omega
            have c1 : ((r : Int) == 65533) = false := by rw [beq_eq_false_iff_ne]; omega
            have c2 : ((r : Int) == 34) = false := by rw [beq_eq_false_iff_ne]; omega
            have c3 : ((r : Int) == 92) = false := by rw [beq_eq_false_iff_ne]; omega
            have c4 : ((r : Int) == 8) = false := by rw [beq_eq_false_iff_ne]; omega
            have c5 : ((r : Int) == 12) = false := by rw [beq_eq_false_iff_ne]; omega
            have c6 : ((r : Int) == 10) = false := by rw [beq_eq_false_iff_ne]; omega
            have c7 : ((r : Int) == 13) = false := by rw [beq_eq_false_iff_ne]; omega
            have c8 : ((r : Int) == 9) = false := by rw [beq_eq_false_iff_ne]; omega
            have hw32 : IntKind.u32.wrap (r : Int) = r := by rw [IntKind.wrap_u32]; omega
            have hw64 : IntKind.u64.wrap (r : Int) = r := by rw [IntKind.wrap_u64]; omega
            have HL32 := Lib.hid (fun W => Tryz.bits_Len32 (r : Int) W (by omega) (by omega))
            have hbl := bitLen_at r hr32
            rw [Int.toNat_natCast] at HL32
            have HVN : Hid (Lib.validD l = Lib.validD (l.drop (k + 1))) := Lib.hid (by rw [HX.out.val, HVS.out (by omega), List.drop_drop])
            clear HVB HVS HRB HRP HLO HR hesc hr32 hr8 hr12 hr10 hr13 hr9
            have HH := Lib.hid (fun v g W (h1 : B ≤ W.heap.size) (h2 : OwnB W B v g) (h3 : g.length + 2 ≤ 140737488355328) (h4 : Below B w W) => append_hex r HRR.out.1 v g B W h1 h2 h3 (fun w' hw' => (HE.out w' (h4.trans (hw'.mono h1))).db))
            rcases hbl with ⟨h16, hbl⟩ | ⟨h16, hbl⟩
            · have H16 := Lib.hid h16
              clear h16
              rcases hbl with hbl | hbl | hbl | hbl | hbl
              all_goals
                rw [hbl] at HL32
                clear hbl
                go_wp2_with (first | (go_at_call 138; refine HD.out.mono ?_; (rintro e w4 ⟨rfl, hb4⟩); have HO4 := Lib.hid (And.intro (own_below HO.out.1 hb4) (HO.out.2.trans (hb4.mono hBr))); clear HO hb4; have HO := HO4; clear HO4) | (go_at_call 139; refine (HL32.out _).mono ?_; (rintro e w5 ⟨rfl, rfl⟩)) | (go_at_call 108; refine (HH.out _ _ _ (Nat.le_trans hB HO.out.2.size) HO.out.1 (by have := HLEN.out; have := HGL.out; simp; omega) HO.out.2).mono ?_; (rintro e w6 ⟨v6, rfl, h1, h2⟩); have HO6 := Lib.hid (And.intro h1 (HO.out.2.trans h2)); clear HO h1 h2; have HO := HO6; clear HO6) | (at_builtin; go_loud (refine wpList_push rfl _ _ rfl B _ _ rfl (.inr (own_below HO.out.1 (by go_grown))) _ _ _ _ rfl rfl (one_nb _ _ (by decide) (by decide) _) (Nat.le_refl 1) (by have := HLEN.out; have := HGL.out; simp; omega) (by have := Nat.le_trans hB HO.out.2.size; simp; omega) w (HO.out.2.alloc (Nat.le_trans hB HO.out.2.size) _) ?_); (intro v9 w9 h1 h2); clear HO; have HO := Lib.hid (And.intro h1 h2); clear h1 h2) | (at_builtin; go_loud (refine wpList_push_str rfl _ _ rfl B _ _ rfl HO.out.1 _ rfl (by have := HLEN.out; have := HGL.out; simp; omega) (Nat.le_trans hB HO.out.2.size) w HO.out.2 ?_); (intro v9 w9 h1 h2); clear HO; have HO := Lib.hid (And.intro h1 h2); clear h1 h2))
                refine ⟨⟨k + 1, _, rfl, ?_, ?_⟩, ?_⟩
                · rw [← HTS.out, extract_tail, HT.out, List.drop_drop]
                · refine ⟨?_, HO.out.2, HVN.out, hk⟩
                  have e := HO.out.1
                  have ec : (UInt8.ofNat r).toNat = r := by rw [UInt8.toNat_ofNat']; have := HRR.out.1; omega
                  rw [enc_take l k hk, HCB.out, encB_hex _ (by rw [ec]; exact HRR.out.1) (by rw [ec]; exact HRR.out.2.1) (by rw [ec]; exact HRR.out.2.2.1) (by rw [ec]; exact HRR.out.2.2.2.1) (by rw [ec]; exact HRR.out.2.2.2.2.1) (by rw [ec]; exact HRR.out.2.2.2.2.2), ec, if_pos H16.out]
                  simp only [List.append_assoc, List.cons_append, List.nil_append] at e ⊢
                  exact e
                · show (t.extract 1 (l.length - k)).size < t.size
                  have := HTS.out
                  rw [ByteArray.size_extract]; omega
            · have H16 := Lib.hid h16
              clear h16
              rw [hbl] at HL32
              clear hbl
              go_wp2_with (first | (go_at_call 138; refine HD.out.mono ?_; (rintro e w4 ⟨rfl, hb4⟩); have HO4 := Lib.hid (And.intro (own_below HO.out.1 hb4) (HO.out.2.trans (hb4.mono hBr))); clear HO hb4; have HO := HO4; clear HO4) | (go_at_call 139; refine (HL32.out _).mono ?_; (rintro e w5 ⟨rfl, rfl⟩)) | (go_at_call 108; refine (HH.out _ _ _ (Nat.le_trans hB HO.out.2.size) HO.out.1 (by have := HLEN.out; have := HGL.out; simp; omega) HO.out.2).mono ?_; (rintro e w6 ⟨v6, rfl, h1, h2⟩); have HO6 := Lib.hid (And.intro h1 (HO.out.2.trans h2)); clear HO h1 h2; have HO := HO6; clear HO6) | (at_builtin; go_loud (refine wpList_push rfl _ _ rfl B _ _ rfl (.inr (own_below HO.out.1 (by go_grown))) _ _ _ _ rfl rfl (one_nb _ _ (by decide) (by decide) _) (Nat.le_refl 1) (by have := HLEN.out; have := HGL.out; simp; omega) (by have := Nat.le_trans hB HO.out.2.size; simp; omega) w (HO.out.2.alloc (Nat.le_trans hB HO.out.2.size) _) ?_); (intro v9 w9 h1 h2); clear HO; have HO := Lib.hid (And.intro h1 h2); clear h1 h2) | (at_builtin; go_loud (refine wpList_push_str rfl _ _ rfl B _ _ rfl HO.out.1 _ rfl (by have := HLEN.out; have := HGL.out; simp; omega) (Nat.le_trans hB HO.out.2.size) w HO.out.2 ?_); (intro v9 w9 h1 h2); clear HO; have HO := Lib.hid (And.intro h1 h2); clear h1 h2))
              refine ⟨⟨k + 1, _, rfl, ?_, ?_⟩, ?_⟩
              · rw [← HTS.out, extract_tail, HT.out, List.drop_drop]
              · refine ⟨?_, HO.out.2, HVN.out, hk⟩
                have e := HO.out.1
                have ec : (UInt8.ofNat r).toNat = r := by rw [UInt8.toNat_ofNat']; have := HRR.out.1; omega
                rw [enc_take l k hk, HCB.out, encB_hex _ (by rw [ec]; exact HRR.out.1) (by rw [ec]; exact HRR.out.2.1) (by rw [ec]; exact HRR.out.2.2.1) (by rw [ec]; exact HRR.out.2.2.2.1) (by rw [ec]; exact HRR.out.2.2.2.2.1) (by rw [ec]; exact HRR.out.2.2.2.2.2), ec, if_neg (by have := H16.out; omega)]
                simp only [List.append_assoc, List.cons_append, List.nil_append] at e ⊢
                exact e
              · show (t.extract 1 (l.length - k)).size < t.size
                have := HTS.out
                rw [ByteArray.size_extract]; omega
          all_goals
            clear HVB HRB HRP HLO HR hesc
            go_wp2_with (first | (go_at_call 138; refine HD.out.mono ?_; (rintro e w4 ⟨rfl, hb4⟩); have HO4 := Lib.hid (And.intro (own_below HO.out.1 hb4) (HO.out.2.trans (hb4.mono hBr))); clear HO hb4; have HO := HO4; clear HO4) | (at_builtin; go_loud (refine wpList_push rfl _ _ rfl B _ _ rfl (.inr (own_below HO.out.1 (by go_grown))) _ _ _ _ rfl rfl (one_nb _ _ (by decide) (by decide) _) (Nat.le_refl 1) (by have := HLEN.out; have := HGL.out; simp; omega) (by have := Nat.le_trans hB HO.out.2.size; simp; omega) w (HO.out.2.alloc (Nat.le_trans hB HO.out.2.size) _) ?_); (intro v9 w9 h1 h2); clear HO; have HO := Lib.hid (And.intro h1 h2); clear h1 h2))
            refine ⟨⟨k + 1, _, rfl, ?_, ?_⟩, ?_⟩
            · rw [← HTS.out, extract_tail, HT.out, List.drop_drop]
            · refine ⟨?_, HO.out.2, ?_, hk⟩
              · have e := HO.out.1
                rw [enc_take l k hk, HCB.out]
                simp only [List.append_assoc, List.cons_append, List.nil_append] at e ⊢
                exact e
              · rw [HX.out.val, HVS.out (by decide), List.drop_drop]
            · show (t.extract 1 (l.length - k)).size < t.size
              have := HTS.out
              rw [ByteArray.size_extract]; omega
        · have h32 : ¬ (r : Int) < 32 := by omega
          have h34 : ((r : Int) == 34) = false := by rw [beq_eq_false_iff_ne]; omega
          have h92 : ((r : Int) == 92) = false := by rw [beq_eq_false_iff_ne]; omega
          have HPL := Lib.hid (HRP.out hbad (HRB.out hbad (by omega) (by omega) (by omega))).1
          have HVN := Lib.hid (HVS.out hbad)
          have hb2 : ((r : Int) == 65533) = false ∨ (((r : Int) == 65533) = true ∧ ((n : Int) == 1) = false) := by
            simp only [beq_iff_eq, beq_eq_false_iff_ne]
            omega
          clear HVB HVS HRB HRP HLO HR hesc hbad
          have hn1 : (n : Int) ≤ ((l.length - k : Nat) : Int) := by omega
          have hn0 : (0 : Int) ≤ (n : Int) := by omega
          rcases hb2 with b1 | ⟨b1, b2⟩
          all_goals
            go_wp2_with fail
            refine HD.out.mono ?_
            rintro e w4 ⟨rfl, hb4⟩
            have HO4 := Lib.hid (And.intro (own_below HX.out.own hb4) (HX.out.bel.trans (hb4.mono hBr)))
            clear hb4
            go_wp2_with fail
            refine (need_escape (t.extract n (l.length - k)) (by have := HLEN.out; rw [ByteArray.size_extract]; omega) w4).mono ?_
            rintro e w5 ⟨⟨i2, rfl, hi⟩, hb5⟩
            rw [← HTS.out, extract_tail, HT.out, List.drop_drop] at hi
            have hil : i2 ≤ l.length - (k + n) := by have := hi.1; rw [List.length_drop] at this; exact this
            have HI2 := Lib.hid hi
            have hB4 : B ≤ w4.heap.size := Nat.le_trans hB HO4.out.2.size
            have HO5 := Lib.hid (And.intro (own_below HO4.out.1 hb5) (HO4.out.2.trans (hb5.mono hB4)))
            have hB5 : B ≤ w5.heap.size := Nat.le_trans hB HO5.out.2.size
            have hw1 : IntKind.i64.wrap ((n : Int) + (i2 : Int)) = (n : Int) + (i2 : Int) := by have := HLEN.out; rw [IntKind.wrap_i64]; omega
            have hw2 : ((n : Int) + (i2 : Int)).toNat = n + i2 := by omega
            have b3 : (0 : Int) ≤ (n : Int) + (i2 : Int) := by omega
            have b4 : (n : Int) + (i2 : Int) ≤ ((l.length - k : Nat) : Int) := by omega
            have HB4 := Lib.hid b4
            clear hb5 hi hB4
            go_wp2_with fail
            go_region_held3 (fun w' => True) (trivial) ((refine step_push_str rfl (.tmp 40) (.tmp 45) rfl B u0 (g0 ++ 34 :: enc (l.take k)) (by simp [Act.eval, Act.put]) HO5.out.1.drew (t.extract 0 (n + i2)) (by simp [Act.eval, Act.put, hw2]) (by have := HLEN.out; have := HGL.out; rw [ByteArray.size_extract]; simp; omega) (by simpa using hB5) w HO5.out.2.drew ?_; intro v7 w7 h1 h2))
            have P := Lib.hid (And.intro h1 h2)
            clear h1 h2
            go_wp2_with fail
            refine ⟨⟨k + (n + i2), _, rfl, ?_, ?_⟩, ?_⟩
            · rw [← HTS.out, extract_tail, HT.out, List.drop_drop]
            · refine ⟨?_, P.out.2, ?_, by omega⟩
              · have e := P.out.1
                rw [extract_head, HT.out] at e
                rw [enc_run l k (n + i2) (fun j hj hjl => ?_)]
                · simpa using e
                · rcases Nat.lt_or_ge j n with h | h
                  · have := HPL.out j h
                    rw [getD_drop] at this
                    exact this
                  · have := HI2.out.2.1 (j - n) (by omega)
                    rw [getD_drop, show k + n + (j - n) = k + j from by omega] at this
                    exact this
              · rw [HX.out.val, HVN.out, List.drop_drop, HI2.out.2.2, List.drop_drop, Nat.add_assoc]
            · show (t.extract (n + i2) (l.length - k)).size < t.size
              have := HTS.out
              rw [ByteArray.size_extract]; omega
    · have t0 : ¬ (0 : Int) < (t.size : Int) := by omega
      have hkle := HX.out.le
      have HO := Lib.hid (And.intro HX.out.own HX.out.bel)
      go_wp2_with (at_builtin; go_loud (refine wpList_push rfl _ _ rfl B _ _ rfl (.inr (own_below HO.out.1 (by go_grown))) _ _ _ _ rfl rfl (one_nb _ _ (by decide) (by decide) _) (Nat.le_refl 1) (by have := HLEN.out; have := HGL.out; simp; omega) (by have := Nat.le_trans hB HO.out.2.size; simp; omega) w (HO.out.2.alloc (Nat.le_trans hB HO.out.2.size) _) ?_); (intro v9 w9 h1 h2); clear HO; have HO := Lib.hid (And.intro h1 h2); clear h1 h2)
      go_ret2
      have hke : k = l.length := by have := HX.out.le; omega
      refine .inl ⟨by rw [HX.out.val, hke, List.drop_length]; rfl, _, rfl, ?_, HO.out.2⟩
      have e := HO.out.1
      rw [hke, List.take_length] at e
      exact e

end Go.Proofs.YtonfdfikgnhheaaGreatDoor.js
