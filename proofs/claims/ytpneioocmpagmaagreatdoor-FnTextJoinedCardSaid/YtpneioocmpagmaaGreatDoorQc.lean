/- text.appendString at every text, as it is quoted outside of ASCII's way. -/
import Derived.Test.YtpneioocmpagmaaGreatDoorQb
import Derived.Deep.RegionHeld3
import Derived.BigQuiet
import Derived.Deep.QuietTactic
namespace Go.Proofs.YtpneioocmpagmaaGreatDoor.tx
open Go.RowKit
set_option linter.unusedVariables false
set_option linter.unusedSimpArgs false

/-- What the writer reads of the program's variables. -/
structure EncEnv (w : World) : Prop where
  tabs : Lib.Utf8Tabs 3 4 w
  db : w.cell? ⟨13, 15, none⟩ = some (.int .u8 4)

def lenS : Value → Nat
  | .string t => t.size
  | _ => 0

theorem hexd_at (n : Nat) (h : n < 16) : HexD (hxd n).toNat n := by
  rw [hxd_nat n h]
  unfold HexD
  split <;> omega

/-- A byte's two digits. -/
def hex2 (c : Nat) : List UInt8 := [hxd (c / 16), hxd (c % 16)]

theorem hexs_pad (c : Nat) (h : c < 256) : (if c < 16 then [48] else []) ++ hexs c = hex2 c := by
  unfold hexs hex2
  by_cases h16 : c < 16
  · rw [if_pos h16, if_pos h16, show c / 16 = 0 from by omega, show c % 16 = c from by omega]
    rfl
  · rw [if_neg h16, if_neg h16]
    rfl

theorem tenc_hex2 (b : UInt8) : Tenc (92 :: 120 :: hex2 b.toNat) [b] := by
  have hb : b.toNat < 256 := b.toNat_lt
  exact tenc_hex (hexd_at _ (by omega)) (hexd_at _ (by omega))

theorem tenc_uni2 (b : UInt8) (h0 : 128 ≤ b.toNat) (h1 : b.toNat < 160) : Tenc (92 :: 117 :: 48 :: 48 :: hex2 b.toNat) [194, b] := by
  have hb : b.toNat < 256 := b.toNat_lt
  exact tenc_uni h0 h1 (hexd_at _ (by omega)) (hexd_at _ (by omega))

theorem take_one {l : List UInt8} {k : Nat} (h : k < l.length) : l.take (k + 1) = l.take k ++ [l.getD k 0] := by
  rw [List.take_add_one, List.getElem?_eq_getElem h]
  simp [List.getD_eq_getElem?_getD, List.getElem?_eq_getElem h]

/-- What stands between rounds. -/
structure ERel (B : Nat) (w : World) (l : List UInt8) (k : Nat) (v : Value) (wr : World) : Prop where
  own : ∃ g, OwnB wr B v (34 :: g) ∧ Tenc g (l.take k) ∧ g.length ≤ 6 * k
  bel : Below B w wr
  le : k ≤ l.length

def ASays (B : Nat) (w : World) (l : List UInt8) (e : Ending) (w' : World) : Prop :=
  ∃ v' g, e = .returned v' ∧ OwnB w' B v' (34 :: g ++ [34]) ∧ Tenc g l ∧ g.length ≤ 6 * l.length ∧ Below B w w'


theorem bitLen_high (c : Nat) (h0 : 128 ≤ c) (h1 : c < 256) : Lib.bitLen c = 8 := by
  have h : ∀ c : Fin 256, 128 ≤ c.1 → Lib.bitLen c.1 = 8 := by decide +kernel
  exact h ⟨c, h1⟩ h0

theorem bitLen_at (c : Nat) (hc : c < 32) : (c < 16 ∧ (Lib.bitLen c = 0 ∨ Lib.bitLen c = 1 ∨ Lib.bitLen c = 2 ∨ Lib.bitLen c = 3 ∨ Lib.bitLen c = 4)) ∨ (16 ≤ c ∧ Lib.bitLen c = 5) := by
  have h : ∀ c : Fin 32, (c.1 < 16 ∧ (Lib.bitLen c.1 = 0 ∨ Lib.bitLen c.1 = 1 ∨ Lib.bitLen c.1 = 2 ∨ Lib.bitLen c.1 = 3 ∨ Lib.bitLen c.1 = 4)) ∨ (16 ≤ c.1 ∧ Lib.bitLen c.1 = 5) := by decide +kernel
  exact h ⟨c, hc⟩

/-- A rune below 128 is its byte. -/
theorem rune_lowT {l : List UInt8} {r n : Nat} (hd : Lib.decodeL l = (r, n)) (h : r < 128) : n = 1 ∧ r = (l.getD 0 0).toNat := by
  rw [Lib.decodeL_N] at hd
  rcases Lib.decodeN_shape l.length (l.getD 0 0).toNat (l.getD 1 0).toNat (l.getD 2 0).toNat (l.getD 3 0).toNat with ⟨a0, e⟩ | ⟨a0, a1, a2, a3, e⟩ | ⟨a0, a1, a2, a3, a4, a5, e⟩ | ⟨a0, a1, a2, a3, a4, a5, a6, e⟩ | e
  all_goals (rw [e] at hd; have h1 := congrArg Prod.fst hd; have h2 := congrArg Prod.snd hd; simp only at h1 h2; omega)

/-GEN-/
set_option maxHeartbeats 40000000 in
set_option maxRecDepth 100000 in
theorem append_string (s : ByteArray) (v0 : Value) (B : Nat) (w : World) (hB : B ≤ w.heap.size) (hown : OwnB w B v0 []) (hlen : 6 * s.size + 8 ≤ 140737488355328) (EB : ∀ w', Below B w w' → EncEnv w') :
    Calls Tryz.prog 62 #[v0, .string s, .bool false] w fun e w' => ASays B w s.data.toList e w' := by
  have HE := Lib.hid EB
  have HO := Lib.hid (And.intro hown (Below.refl B w))
  obtain ⟨l, hl⟩ : ∃ l, l = s.data.toList := ⟨_, rfl⟩
  have HL := Lib.hid hl
  have hsz : s.size = l.length := by rw [hl]; exact tsize_list s
  rw [hsz] at hlen
  have HLEN := Lib.hid hlen
  have NE := fun W => une.need_escape s (by omega) W
  unfold une.Stops at NE
  rw [← hl] at NE ⊢
  have HNE := Lib.hid NE
  have HSZ := Lib.hid hsz
  clear EB hown hl hlen hsz NE
  go_enter Tryz.func62, Tryz.ntmps62
  go_wp2_with (at_builtin; go_loud (refine wpList_push rfl _ _ rfl B _ _ rfl (.inr (own_below HO.out.1 (by go_grown))) _ _ _ _ rfl rfl (one_nb _ _ (by decide) (by decide) _) (Nat.le_refl 1) (by simp) (by simp; omega) w (HO.out.2.alloc hB _) ?_); (intro v1 w1 h1 h2); clear HO; have HO := Lib.hid (And.intro h1 h2); clear h1 h2)
  refine (HNE.out _).mono ?_
  rintro e w2 ⟨⟨i, rfl, hile, hi⟩, rfl⟩
  have HI := Lib.hid (And.intro (show i ≤ l.length from by have := HSZ.out; omega) hi)
  have hi0 : (0 : Int) ≤ (i : Int) := by omega
  have hi1 : (i : Int) ≤ (s.size : Int) := by omega
  clear hi hile
  have hb2 : B ≤ w1.heap.size := Nat.le_trans hB HO.out.2.size
  go_wp2_with fail
  go_region_held3 (fun w' => True) (trivial) ((refine step_push_str rfl (.tmp 19) (.tmp 22) rfl B v1 [34] (by simp [Act.eval, Act.put]) HO.out.1.drew (s.extract 0 i) (by simp [Act.eval, Act.put]) (by have := HLEN.out; have := HSZ.out; rw [ByteArray.size_extract]; simp; omega) (by simpa using hb2) w HO.out.2.drew ?_; intro v3 w3 h1 h2))
  have HS3 : Hid (ERel B w l i v3 w3) := Lib.hid (by
    have e2 : (s.extract 0 i).data.toList = l.take i := by rw [HL.out]; exact extract_head s i
    rw [e2] at h1
    refine ⟨⟨l.take i, h1, tenc_run _ (fun j hj => ?_), by rw [List.length_take]; omega⟩, h2, HI.out.1⟩
    have hj' : j < i := by simp at hj; omega
    rw [List.getD_eq_getElem?_getD, List.getElem?_take, if_pos hj', ← List.getD_eq_getElem?_getD]
    exact HI.out.2 j hj')
  clear h1 h2 hb2 HO hi0 hi1
  obtain ⟨t0, ht0⟩ : ∃ t0, t0 = s.extract i s.size := ⟨_, rfl⟩
  have HT0 : Hid (t0.data.toList = l.drop i) := Lib.hid (by rw [ht0, HL.out]; exact extract_tail s i)
  rw [← ht0]
  clear ht0
  go_wp2_with fail
  go_loopw [0, 1] (fun v0 v1 wr => ∃ (k : Nat) (t : ByteArray), v1 = .string t ∧ t.data.toList = l.drop k ∧ ERel B w l k v0 wr) (fun _ v1 _ => lenS v1)
  case atStart => exact ⟨i, t0, rfl, HT0.out, HS3.out⟩
  case round =>
    obtain ⟨k, t, rfl, ht, hx⟩ := hrel
    have HT := Lib.hid ht
    have hts : t.size = l.length - k := by rw [tsize_list, ht]; simp
    have hBr : B ≤ wr.heap.size := Nat.le_trans hB hx.bel.size
    have HTS := Lib.hid hts
    obtain ⟨g, hog, htg, hgl⟩ := hx.own
    have HO := Lib.hid (And.intro hog hx.bel)
    have HGL := Lib.hid hgl
    have HG := Lib.hid htg
    have HX := Lib.hid hx.le
    clear hx ht hog htg hgl
    by_cases hk : k < l.length
    · have t0 : (0 : Int) < (t.size : Int) := by omega
      have hw := twidth_le (l.drop k) (by simp; omega)
      have hdg : Lib.decodeGo t = Lib.decodeL (l.drop k) := by
        unfold Lib.decodeGo
        rw [tdecodeGo_list t (by omega), HT.out]
      have HHD : Hid ((l.drop k).getD 0 0 = l.getD k 0) := Lib.hid (by rw [tgetD_drop, Nat.add_zero])
      have HT1 := Lib.hid (take_one hk)
      obtain ⟨r, n, hr⟩ : ∃ r n, Lib.decodeL (l.drop k) = (r, n) := ⟨_, _, rfl⟩
      have D := Tryz.utf8_DecodeRuneInString t wr (HE.out _ HO.out.2).tabs
      rw [hdg, hr] at D
      rw [hr] at hw
      simp only at hw D
      rw [List.length_drop] at hw
      have HD := Lib.hid D
      have HR := Lib.hid hr
      clear hdg hr D
      by_cases hbad : r = 65533 ∧ n = 1
      · obtain ⟨rfl, rfl⟩ := hbad
        have hc := rune_bad HR.out (by simp; omega)
        rw [HHD.out] at hc
        obtain ⟨c, hcc⟩ : ∃ c : Nat, c = (l.getD k 0).toNat := ⟨_, rfl⟩
        have hc256 : c < 256 := by rw [hcc]; exact (l.getD k 0).toNat_lt
        rw [← hcc] at hc
        have g0 : ∀ h, (t[0]'h).toNat = c := by
          intro h
          rw [hcc, ← HHD.out, ← HT.out, List.getD_eq_getElem?_getD, List.getElem?_eq_getElem (by rw [← tsize_list]; exact h)]
          simp [ByteArray.getElem_eq_getElem_data]
        have HCC := Lib.hid hcc
        have hts0 : 0 < t.size := by omega
        have g1 := g0 hts0
        clear hcc g0
        have c0 : ¬ (c : Int) < 32 := by omega
        have c2 : ((c : Int) == 34) = false := by rw [beq_eq_false_iff_ne]; omega
        have c3 : ((c : Int) == 92) = false := by rw [beq_eq_false_iff_ne]; omega
        have c6 : ((c : Int) == 10) = false := by rw [beq_eq_false_iff_ne]; omega
        have c7 : ((c : Int) == 13) = false := by rw [beq_eq_false_iff_ne]; omega
        have c8 : ((c : Int) == 9) = false := by rw [beq_eq_false_iff_ne]; omega
        have hwi : IntKind.i32.wrap (c : Int) = c := by rw [IntKind.wrap_i32]; omega
        have hw32 : IntKind.u32.wrap (c : Int) = c := by rw [IntKind.wrap_u32]; omega
        have hw64 : IntKind.u64.wrap (c : Int) = c := by rw [IntKind.wrap_u64]; omega
        have HL32 := Lib.hid (fun W => Tryz.bits_Len32 (c : Int) W (by omega) (by omega))
        rw [Int.toNat_natCast, bitLen_high c (by omega) hc256] at HL32
        have HRR := Lib.hid (And.intro hc hc256)
        have HH := Lib.hid (fun v g W (h1 : B ≤ W.heap.size) (h2 : OwnB W B v g) (h3 : g.length + 2 ≤ 140737488355328) (h4 : Below B w W) => append_hex c HRR.out.2 v g B W h1 h2 h3 (fun w' hw' => (HE.out w' (h4.trans (hw'.mono h1))).db))
        clear HR hc hc256 HHD
        go_wp2_with (first | (go_at_call 91; refine HD.out.mono ?_; (rintro e w4 ⟨rfl, hb4⟩); have HO4 := Lib.hid (And.intro (own_below HO.out.1 hb4) (HO.out.2.trans (hb4.mono hBr))); clear HO hb4; have HO := HO4; clear HO4) | (go_at_call 92; refine (HL32.out _).mono ?_; (rintro e w5 ⟨rfl, rfl⟩)) | (go_at_call 68; refine (HH.out _ _ _ (Nat.le_trans hB HO.out.2.size) HO.out.1 (by have := HLEN.out; have := HGL.out; simp; omega) HO.out.2).mono ?_; (rintro e w6 ⟨v6, rfl, h1, h2⟩); have HO6 := Lib.hid (And.intro h1 (HO.out.2.trans h2)); clear HO h1 h2; have HO := HO6; clear HO6) | (at_builtin; go_loud (refine wpList_push rfl _ _ rfl B _ _ rfl (.inr (own_below HO.out.1 (by go_grown))) _ _ _ _ rfl rfl (one_nb _ _ (by decide) (by decide) _) (Nat.le_refl 1) (by have := HLEN.out; have := HGL.out; simp; omega) (by have := Nat.le_trans hB HO.out.2.size; simp; omega) w (HO.out.2.alloc (Nat.le_trans hB HO.out.2.size) _) ?_); (intro v9 w9 h1 h2); clear HO; have HO := Lib.hid (And.intro h1 h2); clear h1 h2) | (at_builtin; go_loud (refine wpList_push_str rfl _ _ rfl B _ _ rfl HO.out.1 _ rfl (by have := HLEN.out; have := HGL.out; simp; omega) (Nat.le_trans hB HO.out.2.size) w HO.out.2 ?_); (intro v9 w9 h1 h2); clear HO; have HO := Lib.hid (And.intro h1 h2); clear h1 h2))
        refine ⟨⟨k + 1, _, rfl, ?_, ?_⟩, ?_⟩
        · rw [← HTS.out, extract_tail, HT.out, List.drop_drop]
        · refine ⟨⟨g ++ (92 :: 120 :: hex2 c), ?_, ?_, ?_⟩, HO.out.2, hk⟩
          · have e := HO.out.1
            rw [← hexs_pad c HRR.out.2, if_neg (by have := HRR.out.1; omega)]
            simpa using e
          · rw [HT1.out, HCC.out]
            exact HG.out.append (tenc_hex2 _)
          · have := HGL.out
            simp [hex2]; omega
        · show (t.extract 1 (l.length - k)).size < t.size
          have := HTS.out
          rw [ByteArray.size_extract]; omega
      · by_cases hesc : r < 32 ∨ r = 34 ∨ r = 92 ∨ r = 127
        · have hlo := rune_lowT HR.out (by omega)
          rw [HHD.out] at hlo
          obtain ⟨hn1, hcb⟩ := hlo
          subst hn1
          have HCB := Lib.hid hcb
          clear hcb hbad HHD HR
          rcases (by omega : r = 34 ∨ r = 92 ∨ r = 10 ∨ r = 13 ∨ r = 9 ∨ r = 127 ∨ (r < 32 ∧ r ≠ 10 ∧ r ≠ 13 ∧ r ≠ 9)) with rfl | rfl | rfl | rfl | rfl | rfl | hr
          rotate_right
          · have HRR := Lib.hid hr
            obtain ⟨hr32, hr10, hr13, hr9⟩ := hr
            have c0 : (r : Int) < 32 := by omega
            have c1 : ((r : Int) == 65533) = false := by rw [beq_eq_false_iff_ne]; omega
            have c2 : ((r : Int) == 34) = false := by rw [beq_eq_false_iff_ne]; omega
            have c3 : ((r : Int) == 92) = false := by rw [beq_eq_false_iff_ne]; omega
            have c6 : ((r : Int) == 10) = false := by rw [beq_eq_false_iff_ne]; omega
            have c7 : ((r : Int) == 13) = false := by rw [beq_eq_false_iff_ne]; omega
            have c8 : ((r : Int) == 9) = false := by rw [beq_eq_false_iff_ne]; omega
            have hw32 : IntKind.u32.wrap (r : Int) = r := by rw [IntKind.wrap_u32]; omega
            have hw64 : IntKind.u64.wrap (r : Int) = r := by rw [IntKind.wrap_u64]; omega
            have HL32 := Lib.hid (fun W => Tryz.bits_Len32 (r : Int) W (by omega) (by omega))
            have hbl := bitLen_at r hr32
            rw [Int.toNat_natCast] at HL32
            clear hesc hr32 hr10 hr13 hr9
            have HH := Lib.hid (fun v g W (h1 : B ≤ W.heap.size) (h2 : OwnB W B v g) (h3 : g.length + 2 ≤ 140737488355328) (h4 : Below B w W) => append_hex r (by have := HRR.out.1; omega) v g B W h1 h2 h3 (fun w' hw' => (HE.out w' (h4.trans (hw'.mono h1))).db))
            rcases hbl with ⟨h16, hbl⟩ | ⟨h16, hbl⟩
            · have H16 := Lib.hid h16
              clear h16
              rcases hbl with hbl | hbl | hbl | hbl | hbl
              all_goals
                rw [hbl] at HL32
                clear hbl
                go_wp2_with (first | (go_at_call 91; refine HD.out.mono ?_; (rintro e w4 ⟨rfl, hb4⟩); have HO4 := Lib.hid (And.intro (own_below HO.out.1 hb4) (HO.out.2.trans (hb4.mono hBr))); clear HO hb4; have HO := HO4; clear HO4) | (go_at_call 92; refine (HL32.out _).mono ?_; (rintro e w5 ⟨rfl, rfl⟩)) | (go_at_call 68; refine (HH.out _ _ _ (Nat.le_trans hB HO.out.2.size) HO.out.1 (by have := HLEN.out; have := HGL.out; simp; omega) HO.out.2).mono ?_; (rintro e w6 ⟨v6, rfl, h1, h2⟩); have HO6 := Lib.hid (And.intro h1 (HO.out.2.trans h2)); clear HO h1 h2; have HO := HO6; clear HO6) | (at_builtin; go_loud (refine wpList_push rfl _ _ rfl B _ _ rfl (.inr (own_below HO.out.1 (by go_grown))) _ _ _ _ rfl rfl (one_nb _ _ (by decide) (by decide) _) (Nat.le_refl 1) (by have := HLEN.out; have := HGL.out; simp; omega) (by have := Nat.le_trans hB HO.out.2.size; simp; omega) w (HO.out.2.alloc (Nat.le_trans hB HO.out.2.size) _) ?_); (intro v9 w9 h1 h2); clear HO; have HO := Lib.hid (And.intro h1 h2); clear h1 h2) | (at_builtin; go_loud (refine wpList_push_str rfl _ _ rfl B _ _ rfl HO.out.1 _ rfl (by have := HLEN.out; have := HGL.out; simp; omega) (Nat.le_trans hB HO.out.2.size) w HO.out.2 ?_); (intro v9 w9 h1 h2); clear HO; have HO := Lib.hid (And.intro h1 h2); clear h1 h2))
                refine ⟨⟨k + 1, _, rfl, ?_, ?_⟩, ?_⟩
                · rw [← HTS.out, extract_tail, HT.out, List.drop_drop]
                · refine ⟨⟨g ++ (92 :: 120 :: hex2 r), ?_, ?_, ?_⟩, HO.out.2, hk⟩
                  · have e := HO.out.1
                    rw [← hexs_pad r (by have := H16.out; omega), if_pos H16.out]
                    simpa using e
                  · rw [HT1.out, HCB.out]
                    exact HG.out.append (tenc_hex2 _)
                  · have := HGL.out
                    simp [hex2]; omega
                · show (t.extract 1 (l.length - k)).size < t.size
                  have := HTS.out
                  rw [ByteArray.size_extract]; omega
            · have H16 := Lib.hid h16
              clear h16
              rw [hbl] at HL32
              clear hbl
              go_wp2_with (first | (go_at_call 91; refine HD.out.mono ?_; (rintro e w4 ⟨rfl, hb4⟩); have HO4 := Lib.hid (And.intro (own_below HO.out.1 hb4) (HO.out.2.trans (hb4.mono hBr))); clear HO hb4; have HO := HO4; clear HO4) | (go_at_call 92; refine (HL32.out _).mono ?_; (rintro e w5 ⟨rfl, rfl⟩)) | (go_at_call 68; refine (HH.out _ _ _ (Nat.le_trans hB HO.out.2.size) HO.out.1 (by have := HLEN.out; have := HGL.out; simp; omega) HO.out.2).mono ?_; (rintro e w6 ⟨v6, rfl, h1, h2⟩); have HO6 := Lib.hid (And.intro h1 (HO.out.2.trans h2)); clear HO h1 h2; have HO := HO6; clear HO6) | (at_builtin; go_loud (refine wpList_push rfl _ _ rfl B _ _ rfl (.inr (own_below HO.out.1 (by go_grown))) _ _ _ _ rfl rfl (one_nb _ _ (by decide) (by decide) _) (Nat.le_refl 1) (by have := HLEN.out; have := HGL.out; simp; omega) (by have := Nat.le_trans hB HO.out.2.size; simp; omega) w (HO.out.2.alloc (Nat.le_trans hB HO.out.2.size) _) ?_); (intro v9 w9 h1 h2); clear HO; have HO := Lib.hid (And.intro h1 h2); clear h1 h2) | (at_builtin; go_loud (refine wpList_push_str rfl _ _ rfl B _ _ rfl HO.out.1 _ rfl (by have := HLEN.out; have := HGL.out; simp; omega) (Nat.le_trans hB HO.out.2.size) w HO.out.2 ?_); (intro v9 w9 h1 h2); clear HO; have HO := Lib.hid (And.intro h1 h2); clear h1 h2))
              refine ⟨⟨k + 1, _, rfl, ?_, ?_⟩, ?_⟩
              · rw [← HTS.out, extract_tail, HT.out, List.drop_drop]
              · refine ⟨⟨g ++ (92 :: 120 :: hex2 r), ?_, ?_, ?_⟩, HO.out.2, hk⟩
                · have e := HO.out.1
                  rw [← hexs_pad r (by have := HRR.out.1; omega), if_neg (by have := H16.out; omega)]
                  simpa using e
                · rw [HT1.out, HCB.out]
                  exact HG.out.append (tenc_hex2 _)
                · have := HGL.out
                  simp [hex2]; omega
              · show (t.extract 1 (l.length - k)).size < t.size
                have := HTS.out
                rw [ByteArray.size_extract]; omega
          rotate_right
          · have HL32 := Lib.hid (fun W => Tryz.bits_Len32 127 W (by omega) (by omega))
            rw [show Lib.bitLen (127 : Int).toNat = 7 from by decide] at HL32
            have HH := Lib.hid (fun v g W (h1 : B ≤ W.heap.size) (h2 : OwnB W B v g) (h3 : g.length + 2 ≤ 140737488355328) (h4 : Below B w W) => append_hex 127 (by decide) v g B W h1 h2 h3 (fun w' hw' => (HE.out w' (h4.trans (hw'.mono h1))).db))
            clear hesc
            go_wp2_with (first | (go_at_call 91; refine HD.out.mono ?_; (rintro e w4 ⟨rfl, hb4⟩); have HO4 := Lib.hid (And.intro (own_below HO.out.1 hb4) (HO.out.2.trans (hb4.mono hBr))); clear HO hb4; have HO := HO4; clear HO4) | (go_at_call 92; refine (HL32.out _).mono ?_; (rintro e w5 ⟨rfl, rfl⟩)) | (go_at_call 68; refine (HH.out _ _ _ (Nat.le_trans hB HO.out.2.size) HO.out.1 (by have := HLEN.out; have := HGL.out; simp; omega) HO.out.2).mono ?_; (rintro e w6 ⟨v6, rfl, h1, h2⟩); have HO6 := Lib.hid (And.intro h1 (HO.out.2.trans h2)); clear HO h1 h2; have HO := HO6; clear HO6) | (at_builtin; go_loud (refine wpList_push rfl _ _ rfl B _ _ rfl (.inr (own_below HO.out.1 (by go_grown))) _ _ _ _ rfl rfl (one_nb _ _ (by decide) (by decide) _) (Nat.le_refl 1) (by have := HLEN.out; have := HGL.out; simp; omega) (by have := Nat.le_trans hB HO.out.2.size; simp; omega) w (HO.out.2.alloc (Nat.le_trans hB HO.out.2.size) _) ?_); (intro v9 w9 h1 h2); clear HO; have HO := Lib.hid (And.intro h1 h2); clear h1 h2) | (at_builtin; go_loud (refine wpList_push_str rfl _ _ rfl B _ _ rfl HO.out.1 _ rfl (by have := HLEN.out; have := HGL.out; simp; omega) (Nat.le_trans hB HO.out.2.size) w HO.out.2 ?_); (intro v9 w9 h1 h2); clear HO; have HO := Lib.hid (And.intro h1 h2); clear h1 h2))
            refine ⟨⟨k + 1, _, rfl, ?_, ?_⟩, ?_⟩
            · rw [← HTS.out, extract_tail, HT.out, List.drop_drop]
            · refine ⟨⟨g ++ (92 :: 120 :: hex2 127), ?_, ?_, ?_⟩, HO.out.2, hk⟩
              · have e := HO.out.1
                rw [← hexs_pad 127 (by decide), if_neg (by decide)]
                simpa using e
              · rw [HT1.out, HCB.out]
                exact HG.out.append (tenc_hex2 _)
              · have := HGL.out
                simp [hex2]; omega
            · show (t.extract 1 (l.length - k)).size < t.size
              have := HTS.out
              rw [ByteArray.size_extract]; omega
          all_goals
            clear hesc
            go_wp2_with (first | (go_at_call 91; refine HD.out.mono ?_; (rintro e w4 ⟨rfl, hb4⟩); have HO4 := Lib.hid (And.intro (own_below HO.out.1 hb4) (HO.out.2.trans (hb4.mono hBr))); clear HO hb4; have HO := HO4; clear HO4) | (at_builtin; go_loud (refine wpList_push rfl _ _ rfl B _ _ rfl (.inr (own_below HO.out.1 (by go_grown))) _ _ _ _ rfl rfl (one_nb _ _ (by decide) (by decide) _) (Nat.le_refl 1) (by have := HLEN.out; have := HGL.out; simp; omega) (by have := Nat.le_trans hB HO.out.2.size; simp; omega) w (HO.out.2.alloc (Nat.le_trans hB HO.out.2.size) _) ?_); (intro v9 w9 h1 h2); clear HO; have HO := Lib.hid (And.intro h1 h2); clear h1 h2))
            refine ⟨⟨k + 1, _, rfl, ?_, ?_⟩, ?_⟩
            · rw [← HTS.out, extract_tail, HT.out, List.drop_drop]
            · have e := HO.out.1
              simp only [List.append_assoc, List.cons_append, List.nil_append] at e
              refine ⟨⟨_, e, ?_, ?_⟩, HO.out.2, hk⟩
              · rw [HT1.out]
                exact HG.out.append (tenc_esc (by rw [← HCB.out]; unfold EscT; decide))
              · have := HGL.out
                simp; omega
            · show (t.extract 1 (l.length - k)).size < t.size
              have := HTS.out
              rw [ByteArray.size_extract]; omega
        · by_cases hc1 : 128 ≤ r ∧ r < 160
          · obtain ⟨hc1, hc2⟩ := hc1
            obtain ⟨hn2, hb0, hb1⟩ := rune_c1 HR.out hc1 hc2
            rw [HHD.out] at hb0
            rw [tgetD_drop] at hb1
            subst hn2
            have hk2 : k + 1 < l.length := by omega
            have HT2 := Lib.hid (take_one hk2)
            have HB01 := Lib.hid (And.intro hb0 hb1)
            have c0 : ¬ (r : Int) < 32 := by omega
            have c1 : ((r : Int) == 65533) = false := by rw [beq_eq_false_iff_ne]; omega
            have c2 : ((r : Int) == 34) = false := by rw [beq_eq_false_iff_ne]; omega
            have c3 : ((r : Int) == 92) = false := by rw [beq_eq_false_iff_ne]; omega
            have c4 : ((r : Int) == 127) = false := by rw [beq_eq_false_iff_ne]; omega
            have c5 : (128 : Int) ≤ r := by omega
            have c6 : (r : Int) ≤ 159 := by omega
            have hw32 : IntKind.u32.wrap (r : Int) = r := by rw [IntKind.wrap_u32]; omega
            have hw64 : IntKind.u64.wrap (r : Int) = r := by rw [IntKind.wrap_u64]; omega
            have HL32 := Lib.hid (fun W => Tryz.bits_Len32 (r : Int) W (by omega) (by omega))
            rw [Int.toNat_natCast, bitLen_high r hc1 (by omega)] at HL32
            have HRR := Lib.hid (And.intro hc1 hc2)
            have HH := Lib.hid (fun v g W (h1 : B ≤ W.heap.size) (h2 : OwnB W B v g) (h3 : g.length + 2 ≤ 140737488355328) (h4 : Below B w W) => append_hex r (by have := HRR.out.2; omega) v g B W h1 h2 h3 (fun w' hw' => (HE.out w' (h4.trans (hw'.mono h1))).db))
            clear hesc hbad hc1 hc2 hb0 hb1 HHD HR
            go_wp2_with (first | (go_at_call 91; refine HD.out.mono ?_; (rintro e w4 ⟨rfl, hb4⟩); have HO4 := Lib.hid (And.intro (own_below HO.out.1 hb4) (HO.out.2.trans (hb4.mono hBr))); clear HO hb4; have HO := HO4; clear HO4) | (go_at_call 92; refine (HL32.out _).mono ?_; (rintro e w5 ⟨rfl, rfl⟩)) | (go_at_call 68; refine (HH.out _ _ _ (Nat.le_trans hB HO.out.2.size) HO.out.1 (by have := HLEN.out; have := HGL.out; simp; omega) HO.out.2).mono ?_; (rintro e w6 ⟨v6, rfl, h1, h2⟩); have HO6 := Lib.hid (And.intro h1 (HO.out.2.trans h2)); clear HO h1 h2; have HO := HO6; clear HO6) | (at_builtin; go_loud (refine wpList_push rfl _ _ rfl B _ _ rfl (.inr (own_below HO.out.1 (by go_grown))) _ _ _ _ rfl rfl (one_nb _ _ (by decide) (by decide) _) (Nat.le_refl 1) (by have := HLEN.out; have := HGL.out; simp; omega) (by have := Nat.le_trans hB HO.out.2.size; simp; omega) w (HO.out.2.alloc (Nat.le_trans hB HO.out.2.size) _) ?_); (intro v9 w9 h1 h2); clear HO; have HO := Lib.hid (And.intro h1 h2); clear h1 h2) | (at_builtin; go_loud (refine wpList_push_str rfl _ _ rfl B _ _ rfl HO.out.1 _ rfl (by have := HLEN.out; have := HGL.out; simp; omega) (Nat.le_trans hB HO.out.2.size) w HO.out.2 ?_); (intro v9 w9 h1 h2); clear HO; have HO := Lib.hid (And.intro h1 h2); clear h1 h2))
            refine ⟨⟨k + 2, _, rfl, ?_, ?_⟩, ?_⟩
            · rw [← HTS.out, extract_tail, HT.out, List.drop_drop]
            · refine ⟨⟨g ++ (92 :: 117 :: 48 :: 48 :: hex2 r), ?_, ?_, ?_⟩, HO.out.2, by omega⟩
              · have e := HO.out.1
                rw [← hexs_pad r (by have := HRR.out.2; omega), if_neg (by have := HRR.out.1; omega)]
                simpa using e
              · rw [HT2.out, HT1.out, List.append_assoc, ← HB01.out.2]
                have e : l.getD k 0 = 194 := by apply UInt8.toNat_inj.1; rw [HB01.out.1]; rfl
                rw [e]
                exact HG.out.append (tenc_uni2 _ (by rw [HB01.out.2]; exact HRR.out.1) (by rw [HB01.out.2]; exact HRR.out.2))
              · have := HGL.out
                simp [hex2]; omega
            · show (t.extract 2 (l.length - k)).size < t.size
              have := HTS.out
              rw [ByteArray.size_extract]; omega
          · have hrt := rune_take HR.out (by simp; omega) (by omega) (by omega) (by omega) hbad
            have HRT := Lib.hid hrt
            have h32 : ¬ (r : Int) < 32 := by omega
            have h34 : ((r : Int) == 34) = false := by rw [beq_eq_false_iff_ne]; omega
            have h92 : ((r : Int) == 92) = false := by rw [beq_eq_false_iff_ne]; omega
            have h127 : ((r : Int) == 127) = false := by rw [beq_eq_false_iff_ne]; omega
            have hb2 : (((r : Int) == 65533) = false ∧ (r : Int) < 128) ∨ (((r : Int) == 65533) = false ∧ (128 : Int) ≤ r ∧ (159 : Int) < r) ∨ ((((r : Int) == 65533) = true ∧ ((n : Int) == 1) = false) ∧ (128 : Int) ≤ r ∧ (159 : Int) < r) := by
              simp only [beq_iff_eq, beq_eq_false_iff_ne]
              omega
            clear hrt HR hesc hbad hc1 HHD
            have hn1 : (n : Int) ≤ ((l.length - k : Nat) : Int) := by omega
            have hn0 : (0 : Int) ≤ (n : Int) := by omega
            rcases hb2 with ⟨b1, b0⟩ | ⟨b1, b0, b5⟩ | ⟨⟨b1, b2⟩, b0, b5⟩
            all_goals
              go_wp2_with fail
              refine HD.out.mono ?_
              rintro e w4 ⟨rfl, hb4⟩
              have HO4 := Lib.hid (And.intro (own_below HO.out.1 hb4) (HO.out.2.trans (hb4.mono hBr)))
              clear hb4
              go_wp2_with fail
              refine (une.need_escape (t.extract n (l.length - k)) (by have := HLEN.out; rw [ByteArray.size_extract]; omega) w4).mono ?_
              rintro e w5 ⟨⟨i2, rfl, hile, hi⟩, rfl⟩
              rw [ByteArray.size_extract] at hile
              have hil : i2 ≤ l.length - (k + n) := by omega
              rw [← HTS.out, extract_tail, HT.out, List.drop_drop] at hi
              have HI2 := Lib.hid hi
              have hB4 : B ≤ w4.heap.size := Nat.le_trans hB HO4.out.2.size
              have hw1 : IntKind.i64.wrap ((n : Int) + (i2 : Int)) = (n : Int) + (i2 : Int) := by have := HLEN.out; rw [IntKind.wrap_i64]; omega
              have hw2 : ((n : Int) + (i2 : Int)).toNat = n + i2 := by omega
              have b3 : (0 : Int) ≤ (n : Int) + (i2 : Int) := by omega
              have b4 : (n : Int) + (i2 : Int) ≤ ((l.length - k : Nat) : Int) := by omega
              have HB4 := Lib.hid b4
              clear hi hile
              go_wp2_with fail
              go_region_held3 (fun w' => True) (trivial) ((refine step_push_str rfl (.tmp 162) (.tmp 167) rfl B u0 (34 :: g) (by simp [Act.eval, Act.put]) HO4.out.1.drew (t.extract 0 (n + i2)) (by simp [Act.eval, Act.put, hw2]) (by have := HLEN.out; have := HGL.out; rw [ByteArray.size_extract]; simp; omega) (by simpa using hB4) w HO4.out.2.drew ?_; intro v7 w7 h1 h2))
              have P := Lib.hid (And.intro h1 h2)
              clear h1 h2
              go_wp2_with fail
              refine ⟨⟨k + (n + i2), _, rfl, ?_, ?_⟩, ?_⟩
              · rw [← HTS.out, extract_tail, HT.out, List.drop_drop]
              · have e := P.out.1
                rw [extract_head, HT.out] at e
                refine ⟨⟨g ++ (l.drop k).take (n + i2), by simpa using e, ?_, ?_⟩, P.out.2, by omega⟩
                · rw [show l.take (k + (n + i2)) = l.take k ++ (l.drop k).take (n + i2) from List.take_add]
                  refine HG.out.append ?_
                  rw [show (l.drop k).take (n + i2) = (l.drop k).take n ++ ((l.drop k).drop n).take i2 from List.take_add]
                  refine (tenc_rune HRT.out.1).append ?_
                  rw [List.drop_drop]
                  refine tenc_run _ (fun j hj => ?_)
                  have hj' : j < i2 := by simp at hj; omega
                  rw [List.getD_eq_getElem?_getD, List.getElem?_take, if_pos hj', ← List.getD_eq_getElem?_getD]
                  exact HI2.out j hj'
                · have := HGL.out
                  simp; omega
              · show (t.extract (n + i2) (l.length - k)).size < t.size
                have := HTS.out
                rw [ByteArray.size_extract]; omega
    · have t0 : ¬ (0 : Int) < (t.size : Int) := by omega
      have hke : k = l.length := by have := HX.out; omega
      subst hke
      go_wp2_with (at_builtin; go_loud (refine wpList_push rfl _ _ rfl B _ _ rfl (.inr (own_below HO.out.1 (by go_grown))) _ _ _ _ rfl rfl (one_nb _ _ (by decide) (by decide) _) (Nat.le_refl 1) (by have := HLEN.out; have := HGL.out; simp; omega) (by have := Nat.le_trans hB HO.out.2.size; simp; omega) w (HO.out.2.alloc (Nat.le_trans hB HO.out.2.size) _) ?_); (intro v9 w9 h1 h2); clear HO; have HO := Lib.hid (And.intro h1 h2); clear h1 h2)
      go_ret
      refine ⟨_, g, rfl, HO.out.1, ?_, HGL.out, HO.out.2⟩
      have e := HG.out
      rw [List.take_length] at e
      exact e

end Go.Proofs.YtpneioocmpagmaaGreatDoor.tx
