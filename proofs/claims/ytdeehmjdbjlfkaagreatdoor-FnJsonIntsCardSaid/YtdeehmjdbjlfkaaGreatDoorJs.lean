/- The JSON reader's parseString at a text that stands for bytes. -/
import Derived.Test.YtdeehmjdbjlfkaaGreatDoorJs0
namespace Go.Proofs.YtdeehmjdbjlfkaaGreatDoor.js
open Go.RowKit
set_option linter.unusedVariables false
set_option linter.unusedSimpArgs false

theorem dec_low (m : List UInt8) (k x : Nat) (hx : (m.getD k 0).toNat = x) (h : x < 128) : Lib.decodeL (m.drop k) = (x, 1) := by
  subst hx
  rw [Lib.decodeL_N, getD_drop, Nat.add_zero]
  exact Lib.decodeN_ascii _ _ _ _ _ h

theorem conv_low (y : Nat) (h : y < 32) (W : World) : (convert 21 9 (.int .i32 (y : Int))).run Tryz.prog W = .ok (.string ⟨#[UInt8.ofNat y]⟩) W := by
  rw [run_convert_int_string W 21 9 .i32 (y : Int) (by rw [Tryz.underlying21]; rfl) Tryz.underlying9]
  rcases (by omega : y = 0 ∨ y = 1 ∨ y = 2 ∨ y = 3 ∨ y = 4 ∨ y = 5 ∨ y = 6 ∨ y = 7 ∨ y = 8 ∨ y = 9 ∨ y = 10 ∨ y = 11 ∨ y = 12 ∨ y = 13 ∨ y = 14 ∨ y = 15 ∨ y = 16 ∨ y = 17 ∨ y = 18 ∨ y = 19 ∨ y = 20 ∨ y = 21 ∨ y = 22 ∨ y = 23 ∨ y = 24 ∨ y = 25 ∨ y = 26 ∨ y = 27 ∨ y = 28 ∨ y = 29 ∨ y = 30 ∨ y = 31) with rfl | rfl | rfl | rfl | rfl | rfl | rfl | rfl | rfl | rfl | rfl | rfl | rfl | rfl | rfl | rfl | rfl | rfl | rfl | rfl | rfl | rfl | rfl | rfl | rfl | rfl | rfl | rfl | rfl | rfl | rfl | rfl
  all_goals rfl

set_option maxHeartbeats 4000000 in
set_option maxRecDepth 100000 in
theorem surr_low (y : Nat) (h : y < 32) (w : World) : Calls Tryz.prog 101 #[.int .i32 (y : Int)] w fun e w' => e = .returned (.bool false) ∧ w = w' := by
  have t : ¬ (55296 : Int) ≤ (y : Int) := by omega
  go_enter Tryz.func101, Tryz.ntmps101
  go_wp2
  go_ret
  exact ⟨rfl, rfl⟩

set_option maxHeartbeats 400000000 in
set_option maxRecDepth 100000 in
theorem parse_string (m ot rest : List UInt8) (hju : Ju rest m ot) (hv : Lib.validD m = true) (D : Value) (b o cap : Nat) (hcap : m.length + 1 ≤ cap) (hcap2 : cap ≤ 9223372036854775807) (hl47 : m.length ≤ 140737488355000) (w : World) (hb : b < w.heap.size)
    (hrow : RowM w b o (34 :: m)) (hE : ∀ w', Below w.heap.size w w' → DecEnv w') :
    Calls Tryz.prog 78 #[D, .slice (some ⟨b, o, none⟩) (m.length + 1) cap] w fun e w' => e = .returned (.tuple #[.string ⟨ot.toArray⟩, .int .i64 ((m.length + 1 - rest.length : Nat) : Int), .nilIface]) ∧ Below w.heap.size w w' := by
  have h0 : w.cell? ⟨b, o, none⟩ = some (.int .u8 34) := hrow 0 (by simp)
  have hr : RowM w b (o + 1) m := fun j hj => by
    have := hrow (j + 1) (by simp; omega)
    rw [show o + (j + 1) = o + 1 + j from by omega] at this
    simpa using this
  have hm1 : 1 ≤ m.length := ju_pos hju
  have hlen1 : (1 : Int) ≤ ((m.length + 1 : Nat) : Int) := by omega
  have hcapi : (1 : Int) < (cap : Int) := by omega
  have hne : (((m.length + 1 : Nat) : Int) == 0) = false := by rw [beq_eq_false_iff_ne]; omega
  have NB := need_bytes m b (o + 1) (cap - 1) m.length rfl (by omega) w (fun j hj => by
    rw [add_pos, hr j hj, List.getD_eq_getElem?_getD, List.getElem?_eq_getElem hj]; rfl)
  have HNB := Lib.hid NB
  have HR := Lib.hid hr
  have HV := Lib.hid hv
  have HJU := Lib.hid hju
  have HE := Lib.hid hE
  have HLN := Lib.hid hl47
  clear hrow hju NB hr hv hE
  go_enter Tryz.func78, Tryz.ntmps78
  go_wp2_with fail
  refine HNB.out.mono ?_
  rintro e w1 ⟨⟨i, rfl, hst⟩, hb1⟩
  have HST := Lib.hid hst
  have hli : Left rest m ot i (m.take i) := by
    have := left_run (n := i) (left_start HJU.out) (fun j hj => by rw [Nat.zero_add]; exact hst.2.1 j hj)
    simpa using this
  have hi : i < m.length := left_lt hli
  have HLI := Lib.hid hli
  have HB1 := Lib.hid hb1
  clear hst hli hb1
  have b1 : (0 : Int) ≤ (i : Int) ∧ (i : Int) ≤ (m.length : Int) := by omega
  have b2 : (0 : Int) ≤ (i : Int) ∧ (i : Int) ≤ ((cap - 1 : Nat) : Int) := by omega
  have b3 : i < cap - 1 := by omega
  go_wp2_with fail
  go_region
  have HP0 : Hid (PRel w.heap.size w b (o + 1) rest m ot i (.slice (some ⟨b, o + 1, none⟩) i i) (m.take i) w1.drew) := Lib.hid (by
    have hti : (m.take i).length = i := by simp; omega
    refine ⟨.inl ⟨by rw [hti], by rw [hti], by rw [hti]; omega⟩, HLI.out, by rw [hti]; exact Nat.le_refl _, HB1.out.drew, ?_⟩
    rw [← HST.out.2.2]; exact HV.out)
  clear b1 b2 h0 hlen1 hcapi hne
  go_wp2_with fail
  go_loopw [1, 9] (fun v1 v9 wr => ∃ (k n c : Nat) (g : List UInt8), v1 = .slice (some ⟨b, o + 1 + k, none⟩) n c ∧ k + n = m.length ∧ n ≤ c ∧ c ≤ cap ∧ PRel w.heap.size w b (o + 1) rest m ot k v9 g wr) (fun v1 _ _ => lenV v1)
  case atStart => exact ⟨i, m.length - i, cap - 1 - i, m.take i, rfl, by omega, by omega, by omega, HP0.out⟩
  case round =>
    obtain ⟨k, n, c, g, rfl, hkn, hnc, hcc, hx⟩ := hrel
    have HX := Lib.hid hx
    have hk : k < m.length := left_lt hx.left
    have hn1 : 1 ≤ n := by omega
    have hc1 : 1 ≤ c := by omega
    have HKN := Lib.hid hkn
    have HRR := Lib.hid (HR.out.below hx.bel hb)
    have hD := decode_row wr b (o + 1) k n c m HRR.out (by omega) hk (HE.out _ hx.bel).tabs
    have hWB : w.heap.size ≤ wr.heap.size := hx.bel.size
    have HLC := Lib.hid (left_cases hx.left)
    clear hx b3 hi
    have t0 : (0 : Int) < (n : Int) := by omega
    rcases HLC.out with ⟨h34, hrest, hog⟩ | hpl | ⟨hk2, h92, bb', hesc, hl⟩ | ⟨hk6, h92, h117, h48, h48b, bb', hhex, hl⟩
    ·
      rw [dec_low m k 34 h34 (by omega)] at hD
      have HD := Lib.hid hD
      have CV := fun wq (hq : Below wr.heap.size wr wq) => out_string ((HX.out.out.below hq).cells (HRR.out.below hq (Nat.lt_of_lt_of_le hb hWB)))
      have HCV := Lib.hid CV
      have hrl : rest.length = n - 1 := by rw [← hrest, List.length_drop]; omega
      have HRL := Lib.hid (And.intro hrl hog)
      clear hD CV h34 hrest hog hrl hk
      rcases Nat.eq_or_lt_of_le hc1 with hce | hce
      · obtain rfl : c = 1 := by omega
        obtain rfl : n = 1 := by omega
        go_wp2_with fail
        refine HD.out.mono ?_
        rintro e w2 ⟨rfl, hb2⟩
        have cv := HCV.out w2 hb2
        have HB2 := Lib.hid (HX.out.bel.trans (hb2.mono hWB))
        clear hb2
        go_wp2_with fail
        go_returns
        refine ⟨?_, HB2.out⟩
        have h1 := HRL.out.1
        have h2 := HKN.out
        rw [HRL.out.2]
        first
          | (rw [show ((m.length : Int) + 1 - ((n - 1 : Nat) : Int)) = ((m.length + 1 - rest.length : Nat) : Int) from by omega]; rfl)
          | (rw [show ((m.length : Int) + 1) = ((m.length + 1 - rest.length : Nat) : Int) from by omega]; rfl)
          | trace_state
      · have hce' : (1 : Int) < (c : Int) := by omega
        have hn1' : (1 : Int) ≤ (n : Int) := by omega
        go_wp2_with fail
        refine HD.out.mono ?_
        rintro e w2 ⟨rfl, hb2⟩
        have cv := HCV.out w2 hb2
        have HB2 := Lib.hid (HX.out.bel.trans (hb2.mono hWB))
        clear hb2
        go_wp2_with fail
        go_returns
        refine ⟨?_, HB2.out⟩
        have h1 := HRL.out.1
        have h2 := HKN.out
        rw [HRL.out.2]
        first
          | (rw [show ((m.length : Int) + 1 - ((n - 1 : Nat) : Int)) = ((m.length + 1 - rest.length : Nat) : Int) from by omega]; rfl)
          | (rw [show ((m.length : Int) + 1) = ((m.length + 1 - rest.length : Nat) : Int) from by omega]; rfl)
          | trace_state
    ·
      as_aux_lemma =>
        have hpl0 : Pl ((m.drop k).getD 0 0).toNat := by rw [getD_drop, Nat.add_zero]; exact hpl
        have hgood : ¬ ((Lib.decodeL (m.drop k)).1 = 65533 ∧ (Lib.decodeL (m.drop k)).2 = 1) := fun h => by
          have := valid_bad (m.drop k) (by rw [List.length_drop]; omega) h
          rw [HX.out.val] at this; cases this
        have hrp := rune_plain (m.drop k) hgood hpl0
        have hvs := valid_step (m.drop k) (by rw [List.length_drop]; omega) hgood
        obtain ⟨r, q, hrq⟩ : ∃ r q, Lib.decodeL (m.drop k) = (r, q) := ⟨_, _, rfl⟩
        have hwid := width_le (m.drop k) (by rw [List.length_drop]; omega)
        rw [hrq] at hD hrp hvs hwid
        simp only at hrp hvs hD hwid
        obtain ⟨hpb, h32, h34, h92, h65⟩ := hrp
        have hl2 := left_run (n := q) HX.out.left (fun j hj => by have := hpb j hj; rw [getD_drop] at this; exact this)
        have hkq : k + q < m.length := left_lt hl2
        have HL2 := Lib.hid hl2
        have HV2 : Hid (Lib.validD (m.drop (k + q)) = true) := Lib.hid (by rw [← List.drop_drop, ← hvs]; exact HX.out.val)
        have NB := fun W (hW : Below wr.heap.size wr W) => need_bytes (m.drop (k + q)) b (o + 1 + k + q) (c - q) (n - q) (by rw [List.length_drop]; omega) (by rw [List.length_drop]; have := HLN.out; omega) W (fun j hj => by
          have hj' : k + q + j < m.length := by rw [List.length_drop] at hj; omega
          rw [add_pos, show o + 1 + k + q + j = o + 1 + (k + q + j) from by omega, HRR.out.below hW (Nat.lt_of_lt_of_le hb hWB) (k + q + j) hj', List.getD_eq_getElem?_getD, List.getElem?_eq_getElem hj']
          simp)
        have HNB2 := Lib.hid NB
        have HD := Lib.hid hD
        have HPB := Lib.hid hpb
        have hb2 : ((r : Int) == 65533) = false ∨ (((r : Int) == 65533) = true ∧ ((q : Int) == 1) = false) := by
          simp only [beq_iff_eq, beq_eq_false_iff_ne]
          omega
        have t1 : ¬ (r : Int) < 32 := by omega
        have t2 : ((r : Int) == 34) = false := by rw [beq_eq_false_iff_ne]; omega
        have t3 : ((r : Int) == 92) = false := by rw [beq_eq_false_iff_ne]; omega
        have t4 : (0 : Int) ≤ (q : Int) ∧ (q : Int) ≤ (n : Int) := by omega
        have t5 : (q : Int) ≤ (n : Int) := by omega
        have t6 : (q : Int) < (c : Int) := by omega
        have t7 : (0 : Int) ≤ (q : Int) := by omega
        have t8 : ¬ c = q := by omega
        have hq1 : 1 ≤ q := hwid.1
        clear NB hD hpb hgood hpl hpl0 hl2 hvs h32 h34 h92 h65 hrq hwid
        rcases hb2 with b1 | ⟨b1, b2⟩
        all_goals
          as_aux_lemma =>
            go_wp2_with fail
            refine HD.out.mono ?_
            rintro e w2 ⟨rfl, hb2⟩
            have HBW := Lib.hid hb2
            have HB2 := Lib.hid (HX.out.bel.trans (hb2.mono hWB))
            clear hb2
            go_wp2_with fail
            refine (HNB2.out w2 HBW.out).mono ?_
            rintro e w3 ⟨⟨i2, rfl, hst2⟩, hb3⟩
            have HST2 := Lib.hid hst2
            have hl3 := left_run (n := i2) HL2.out (fun j hj => by have := hst2.2.1 j hj; rw [getD_drop] at this; exact this)
            have hk3 : k + q + i2 < m.length := left_lt hl3
            have hg3 : g ++ (m.drop k).take q ++ (m.drop (k + q)).take i2 = g ++ (m.drop k).take (q + i2) := by
              rw [List.take_add, List.drop_drop, List.append_assoc]
            rw [hg3] at hl3
            have HL3 := Lib.hid hl3
            have hb3w : Below wr.heap.size wr w3 := HBW.out.trans (hb3.mono HBW.out.size)
            have HB3 := Lib.hid (HX.out.bel.trans (hb3w.mono hWB))
            have HO := Lib.hid ((HX.out.out.below hb3w).cells (HRR.out.below hb3w (Nat.lt_of_lt_of_le hb hWB)))
            have HRN := Lib.hid (HRR.out.below hb3w (Nat.lt_of_lt_of_le hb hWB))
            have hz3 : w.heap.size ≤ w3.heap.size := HB3.out.size
            clear hb3 hb3w hst2 hl3 hg3
            have hw1 : IntKind.i64.wrap ((q : Int) + (i2 : Int)) = (q : Int) + (i2 : Int) := by have := HLN.out; rw [IntKind.wrap_i64]; omega
            have hw2 : ((q : Int) + (i2 : Int)).toNat = q + i2 := by omega
            have b5 : (0 : Int) ≤ (q : Int) + (i2 : Int) := by omega
            have b6 : (q : Int) + (i2 : Int) ≤ (n : Int) := by omega
            have b7 : (q : Int) + (i2 : Int) ≤ (c : Int) := by omega
            have b8 : ¬ c = q + i2 := by omega
            go_wp2_with fail
            go_region_held3 (fun w' => True) (trivial) ((refine step_push rfl (.tmp 66) (.tmp 71) rfl w.heap.size _ g (by simp [Act.eval, Act.put]) HO.out.drew ⟨b, o + 1 + k, none⟩ (q + i2) c ((m.drop k).take (q + i2)) (by simp [Act.eval, Act.put, hw2]) (by simp; omega) (HRN.out.news (by omega)) (by omega) (by have := HX.out.glen; have := HLN.out; omega) (by simpa using hz3) w HB3.out.drew ?_; intro v' w4 hown' hb'))
            all_goals
              have P := Lib.hid (And.intro hown' hb')
              clear hown' hb'
              go_wp2_with fail
              go_roundw
              case rel => first | exact ⟨k + (q + i2), n - (q + i2), c - (q + i2), g ++ (m.drop k).take (q + i2), slq (by omega) rfl rfl, by have := HKN.out; omega, by omega, by omega, .inr P.out.1, by rw [← Nat.add_assoc]; exact HL3.out, by have := HX.out.glen; simp; omega, P.out.2, by rw [← Nat.add_assoc, ← List.drop_drop, ← HST2.out.2.2]; exact HV2.out⟩ | ((repeat apply Exists.intro); refine ⟨?_, rfl⟩; exact ⟨k + (q + i2), n - (q + i2), c - (q + i2), g ++ (m.drop k).take (q + i2), slq (by omega) rfl rfl, by have := HKN.out; omega, by omega, by omega, .inr P.out.1, by rw [← Nat.add_assoc]; exact HL3.out, by have := HX.out.glen; simp; omega, P.out.2, by rw [← Nat.add_assoc, ← List.drop_drop, ← HST2.out.2.2]; exact HV2.out⟩)
              case measure => show n - (q + i2) < n; omega
    ·
      as_aux_lemma =>
        rw [dec_low m k 92 h92 (by omega)] at hD
        have HD := Lib.hid hD
        have HL := Lib.hid hl
        have hcell1 : ∀ W, Below wr.heap.size wr W → W.cell? ⟨b, o + 1 + k + 1, none⟩ = some (.int .u8 ((m.getD (k + 1) 0).toNat : Int)) := fun W hW => by
          rw [show o + 1 + k + 1 = o + 1 + (k + 1) from by omega]
          exact HRR.out.below hW (Nat.lt_of_lt_of_le hb hWB) (k + 1) (by omega)
        obtain ⟨x, hx⟩ : ∃ x : Nat, (m.getD (k + 1) 0).toNat = x := ⟨_, rfl⟩
        obtain ⟨y, hy⟩ : ∃ y : Nat, bb'.toNat = y := ⟨_, rfl⟩
        rw [hx, hy] at hesc
        rw [hx] at hcell1
        have HC1 := Lib.hid hcell1
        have HY := Lib.hid hy
        have hval : Lib.validD (m.drop (k + 2)) = true := by
          rw [← valid_skip m k 2 (fun j hj => ?_)]
          · exact HX.out.val
          · rcases (by omega : j = 0 ∨ j = 1) with rfl | rfl
            · rw [Nat.add_zero]; omega
            · rw [hx]; unfold EscP at hesc; omega
        have HVAL := Lib.hid hval
        have t1 : (2 : Int) ≤ (n : Int) := by omega
        have t2 : (2 : Int) < (c : Int) := by omega
        have t3 : (1 : Int) < (n : Int) := by omega
        have c2 : ¬ c = 2 := by omega
        have hnm2 : n - 2 < n := by omega
        unfold EscP at hesc
        have HES := Lib.hid hesc
        clear hD hl hcell1 hx hy h92 hval hesc
        rcases HES.out with ⟨rfl, rfl⟩ | ⟨rfl, rfl⟩ | ⟨rfl, rfl⟩ | ⟨rfl, rfl⟩ | ⟨rfl, rfl⟩ | ⟨rfl, rfl⟩ | ⟨rfl, rfl⟩
        all_goals
          as_aux_lemma =>
            go_wp2_with fail
            refine HD.out.mono ?_
            rintro e w2 ⟨rfl, hb2⟩
            have hc1' := HC1.out w2 hb2
            have HB2 := Lib.hid (HX.out.bel.trans (hb2.mono hWB))
            have HO := Lib.hid ((HX.out.out.below hb2).cells (HRR.out.below hb2 (Nat.lt_of_lt_of_le hb hWB)))
            have HLT := Lib.hid (fun (b' off n' c' : Nat) (h : _ = Value.slice (some ⟨b', off, none⟩) n' c') => (HX.out.out.below hb2).lt (Nat.lt_of_lt_of_le (Nat.lt_of_lt_of_le hb hWB) hb2.size) h)
            have hz2 : w.heap.size ≤ w2.heap.size := HB2.out.size
            clear hb2
            go_wp2_with fail
            go_region_held3 (fun w' => True) (trivial) ((refine step_push rfl _ _ rfl w.heap.size _ g (by simp [Act.eval, Act.put]) (HO.out.drew.alloc HLT.out _) ⟨w2.heap.size, 0, none⟩ 1 1 [bb'] (by simp [Act.eval, Act.put]) rfl (one_bb _ bb' _ (by rw [HY.out]; rfl) _) (Nat.le_refl 1) (by have := HX.out.glen; have := HLN.out; omega) (by simp; omega) w (HB2.out.drew.alloc hz2 _) ?_; intro v' w4 hown' hb'))
            all_goals
              have P := Lib.hid (And.intro hown' hb')
              clear hown' hb'
              go_wp2_with fail
              go_roundw
              case rel => first | exact ⟨k + 2, n - 2, c - 2, g ++ [bb'], slq (by omega) rfl rfl, by have := HKN.out; omega, by omega, by omega, .inr P.out.1, HL.out, by have := HX.out.glen; simp; omega, P.out.2, HVAL.out⟩ | ((repeat apply Exists.intro); refine ⟨?_, rfl⟩; exact ⟨k + 2, n - 2, c - 2, g ++ [bb'], slq (by omega) rfl rfl, by have := HKN.out; omega, by omega, by omega, .inr P.out.1, HL.out, by have := HX.out.glen; simp; omega, P.out.2, HVAL.out⟩)
              case measure => exact hnm2
    ·
      as_aux_lemma =>
        rw [dec_low m k 92 h92 (by omega)] at hD
        have HD := Lib.hid hD
        have HL := Lib.hid hl
        have hcell1 : ∀ W, Below wr.heap.size wr W → W.cell? ⟨b, o + 1 + k + 1, none⟩ = some (.int .u8 117) := fun W hW => by
          rw [show o + 1 + k + 1 = o + 1 + (k + 1) from by omega, HRR.out.below hW (Nat.lt_of_lt_of_le hb hWB) (k + 1) (by omega), h117]; rfl
        have HC1 := Lib.hid hcell1
        obtain ⟨X, hX⟩ : ∃ X, X = m.getD (k + 4) 0 := ⟨_, rfl⟩
        obtain ⟨Y, hY⟩ : ∃ Y, Y = m.getD (k + 5) 0 := ⟨_, rfl⟩
        have h2b : m.getD (k + 2) 0 = 48 := UInt8.toNat_inj.1 (by rw [h48]; rfl)
        have h3b : m.getD (k + 3) 0 = 48 := UInt8.toNat_inj.1 (by rw [h48b]; rfl)
        have hcv : ∀ W, Below wr.heap.size wr W → (convert 29 9 (.slice (some ⟨b, o + 1 + k + 2, none⟩) 4 (c - 2))).run Tryz.prog W = .ok (.string ⟨#[48, 48, X, Y]⟩) W := fun W hW => by
          have hRW := HRR.out.below hW (Nat.lt_of_lt_of_le hb hWB)
          have h := run_convert_bytes_back (P := Tryz.prog) W 29 9 5 ⟨b, o + 1 + k + 2, none⟩ (c - 2) [48, 48, X, Y] Tryz.underlying29 Tryz.underlying5 Tryz.underlying9 (fun j hj => by
            rw [add_pos]
            rcases (by simp at hj; omega : j = 0 ∨ j = 1 ∨ j = 2 ∨ j = 3) with rfl | rfl | rfl | rfl
            · rw [show o + 1 + k + 2 + 0 = o + 1 + (k + 2) from by omega, hRW (k + 2) (by omega), h2b]; rfl
            · rw [show o + 1 + k + 2 + 1 = o + 1 + (k + 3) from by omega, hRW (k + 3) (by omega), h3b]; rfl
            · rw [show o + 1 + k + 2 + 2 = o + 1 + (k + 4) from by omega, hRW (k + 4) (by omega), ← hX]; rfl
            · rw [show o + 1 + k + 2 + 3 = o + 1 + (k + 5) from by omega, hRW (k + 5) (by omega), ← hY]; rfl)
          exact h
        have HCV := Lib.hid hcv
        rw [← hX, ← hY] at hhex
        have HPB := Lib.hid (pu_hex hhex X Y rfl rfl)
        have hval : Lib.validD (m.drop (k + 6)) = true := by
          rw [← valid_skip m k 6 (fun j hj => ?_)]
          · exact HX.out.val
          · unfold HexP at hhex
            rcases (by omega : j = 0 ∨ j = 1 ∨ j = 2 ∨ j = 3 ∨ j = 4 ∨ j = 5) with rfl | rfl | rfl | rfl | rfl | rfl
            · rw [Nat.add_zero]; omega
            · omega
            · omega
            · omega
            · rw [← hX]; omega
            · rw [← hY]; omega
        have HVAL := Lib.hid hval
        have HEN := Lib.hid (fun W (hW : Below w.heap.size w W) => (HE.out W hW).errs)
        obtain ⟨y, hy⟩ : ∃ y : Nat, bb'.toNat = y := ⟨_, rfl⟩
        have hy32 : y < 32 := by unfold HexP at hhex; omega
        rw [hy] at HPB
        have HY := Lib.hid hy
        have t1 : ¬ (n : Int) < 6 := by omega
        have t2 : (2 : Int) < (c : Int) := by omega
        have t3 : (1 : Int) < (n : Int) := by omega
        have t4 : (6 : Int) ≤ (n : Int) := by omega
        have t5 : (6 : Int) ≤ (c : Int) := by omega
        have c2 : ¬ c = 6 := by omega
        have hnm2 : n - 6 < n := by omega
        have hyi : (y : Int) < 32 := by omega
        have hw21 : IntKind.i32.wrap (y : Int) = (y : Int) := by rw [IntKind.wrap_i32]; omega
        have cvr : ∀ W : World, (convert 21 9 (.int .i32 (y : Int))).run Tryz.prog W = .ok (.string ⟨#[bb']⟩) W := fun W => by
          rw [conv_low y hy32 W, ← hy]
          simp
        have hss : (⟨#[bb']⟩ : ByteArray).size = 1 := rfl
        clear hD hl hcell1 hy h92 h117 h48 h48b hval hhex hX hY h2b h3b hcv
        go_wp2_with fail
        refine HD.out.mono ?_
        rintro e w2 ⟨rfl, hb2⟩
        have hc1' := HC1.out w2 hb2
        have cv := HCV.out w2 hb2
        have HBW := Lib.hid hb2
        have HB2 := Lib.hid (HX.out.bel.trans (hb2.mono hWB))
        have HPU := Lib.hid (pu.parseUint ⟨#[48, 48, X, Y]⟩ 16 16 (.inr (by omega)) (by omega) (by omega) (by show 4 ≤ _; omega) w2 (HEN.out w2 HB2.out))
        clear hb2
        go_wp2_with fail
        refine HPU.out.mono ?_
        rintro e w3 ⟨he, hb3⟩
        rw [HPB.out] at he
        rcases he with rfl | ⟨he, _⟩
        rotate_left
        · cases he
        unfold pu.tupU
        have hb3w : Below wr.heap.size wr w3 := HBW.out.trans (hb3.mono HBW.out.size)
        have HB3 := Lib.hid (HX.out.bel.trans (hb3w.mono hWB))
        have HO := Lib.hid ((HX.out.out.below hb3w).cells (HRR.out.below hb3w (Nat.lt_of_lt_of_le hb hWB)))
        have hz3 : w.heap.size ≤ w3.heap.size := HB3.out.size
        clear hb3 hb3w
        have hs1 : ¬ (55296 : Int) ≤ (y : Int) := by omega
        obtain ⟨tb, htb⟩ : ∃ tb : ByteArray, tb = ⟨#[bb']⟩ := ⟨_, rfl⟩
        rw [← htb] at cvr hss
        have HTB := Lib.hid htb
        have hts1 : 1 ≤ tb.size := by rw [hss]; exact Nat.le_refl 1
        clear htb hss
        go_wp2_with fail
        refine (surr_low y hy32 w3).mono ?_
        rintro e w' ⟨rfl, rfl⟩
        go_wp2_with (first | (at_builtin; go_loud (refine wpList_pushO_str rfl _ _ rfl w.heap.size _ g rfl HO.out tb rfl hts1 (by have := HX.out.glen; have := HLN.out; rw [HTB.out]; show g.length + 1 ≤ _; omega) hz3 w HB3.out ?_); (intro v' w4 hown' hb'); have P := Lib.hid (And.intro hown' hb'); clear hown' hb'))
        go_roundw
        case rel => first | exact ⟨k + 6, n - 6, c - 6, g ++ [bb'], slq (by omega) rfl rfl, by have := HKN.out; omega, by omega, by omega, .inr (by have := P.out.1; rw [HTB.out] at this; exact this), HL.out, by have := HX.out.glen; simp; omega, P.out.2, HVAL.out⟩ | ((repeat apply Exists.intro); refine ⟨?_, rfl⟩; exact ⟨k + 6, n - 6, c - 6, g ++ [bb'], slq (by omega) rfl rfl, by have := HKN.out; omega, by omega, by omega, .inr (by have := P.out.1; rw [HTB.out] at this; exact this), HL.out, by have := HX.out.glen; simp; omega, P.out.2, HVAL.out⟩)
        case measure => exact hnm2

end Go.Proofs.YtdeehmjdbjlfkaaGreatDoor.js

