/- The text form's parseString at a text that stands for bytes. -/
import Derived.Test.YtpneioocmpagmaaGreatDoorQf
namespace Go.Proofs.YtpneioocmpagmaaGreatDoor.tx
open Go.RowKit
set_option linter.unusedVariables false
set_option linter.unusedSimpArgs false

theorem hexc_of {x n : Nat} (h : HexD x n) : txh.HexC x := by
  unfold HexD at h
  unfold txh.HexC
  omega

theorem leftT_stop {rest m o g : List UInt8} {k : Nat} (h : LeftT rest m o k g) : m.drop (m.length - rest.length - 1) = 34 :: rest := by
  obtain ⟨r, hr, _⟩ := h
  have key : ∀ m' r', Tu rest m' r' → m'.drop (m'.length - rest.length - 1) = 34 :: rest := by
    intro m' r' h'
    have step : ∀ (bs m' : List UInt8), rest.length + 1 ≤ m'.length → m'.drop (m'.length - rest.length - 1) = 34 :: rest → (bs ++ m').drop ((bs ++ m').length - rest.length - 1) = 34 :: rest := by
      intro bs m' hl ih
      rw [show (bs ++ m').length - rest.length - 1 = bs.length + (m'.length - rest.length - 1) from by rw [List.length_append]; omega, ← List.drop_drop, List.drop_left]
      exact ih
    induction h' with
    | nil => simp
    | rune bs m o h h' ih => exact step bs m (tu_pos h') ih
    | esc d b m o h h' ih => exact step [92, d] m (tu_pos h') ih
    | hex x y b m o h1 h2 h' ih => exact step [92, 120, x, y] m (tu_pos h') ih
    | uni x y b m o h1 h2 h3 h4 h' ih => exact step [92, 117, 48, 48, x, y] m (tu_pos h') ih
  have hl := tu_pos hr
  rw [List.length_drop] at hl
  have := key _ _ hr
  rw [List.drop_drop, List.length_drop, show k + (m.length - k - rest.length - 1) = m.length - rest.length - 1 from by omega] at this
  exact this

/-- The reader's piece of the text. -/
theorem row_at_pos {w : World} {b pos : Nat} {T m : List UInt8} (h : RowM w b 0 T) (hm : T.drop pos = m) : RowM w b pos m := row_drop h hm

set_option maxHeartbeats 400000000 in
set_option maxRecDepth 100000 in
theorem parse_string (q b L cap oo oc : Nat) (T : List UInt8) (hx : Cx q b L cap T) (t : Tok) (sv : Value) (pos p : Nat) (m ot rest : List UInt8) (hTd : T.drop pos = 34 :: m) (htu : Tu rest m ot) (hsk : Sk T (L - rest.length) p) (w : World)
    (hs : St q b L cap oo oc T w t sv pos) (hE : ∀ w', Below w.heap.size w w' → DecEnv w') :
    Calls Tryz.prog 139 #[.pointer (some ⟨q, 0, none⟩)] w fun e w' => e = .returned (.tuple #[.string ⟨ot.toArray⟩, .nilIface]) ∧ St q b L cap oo oc T w' t sv p ∧ Keeps q w w' := by
  have hS := hs
  obtain ⟨off, n0, c0, hin, hd, hrow, hq⟩ := hs
  have c10 := dec_inv hd
  have hmr := tu_pos htu
  have hlenT : T.length - pos = m.length + 1 := by
    have := congrArg List.length hTd
    simpa using this
  obtain ⟨i1, i2, i3, i4⟩ := hin
  have hTL := hx.hT
  have hposL : pos + (m.length + 1) = L := by omega
  obtain ⟨rfl, rfl⟩ := i4 (by omega)
  obtain rfl : n0 = m.length + 1 := by omega
  have hcapb := hx.hcap
  have hL47 := hx.hL47
  have hbq := hx.hbq
  have hb : b < w.heap.size := by omega
  obtain ⟨cp, hcp⟩ : ∃ cp, cp = cap - off := ⟨_, rfl⟩
  rw [← hcp] at i2 i3 c10
  have hrm : RowM w b off (34 :: m) := row_drop hrow hTd
  have h0 : w.cell? ⟨b, off, none⟩ = some (.int .u8 34) := hrm 0 (by simp)
  obtain ⟨o, ho⟩ : ∃ o, o = off + 1 := ⟨_, rfl⟩
  have hr : RowM w b o m := fun j hj => by
    have := hrm (j + 1) (by simp; omega)
    rw [show off + (j + 1) = o + j from by omega] at this
    simpa using this
  have hm1 : 1 ≤ m.length := by omega
  have hlen1 : (1 : Int) ≤ ((m.length + 1 : Nat) : Int) := by omega
  have hcapi : (1 : Int) < (cp : Int) := by omega
  have hne : (((m.length + 1 : Nat) : Int) == 0) = false := by rw [beq_eq_false_iff_ne]; omega
  have NB : Calls Tryz.prog 164 #[.slice (some ⟨b, off + 1, none⟩) m.length (cp - 1)] w fun e w' => StopsB m w e w' := need_bytes m b (off + 1) (cp - 1) m.length rfl (by omega) w (fun j hj => by
    rw [add_pos, ← ho, hr j hj, List.getD_eq_getElem?_getD, List.getElem?_eq_getElem hj]; rfl)
  unfold StopsB at NB
  have HNB := Lib.hid NB
  have HR := Lib.hid hr
  have HTU := Lib.hid htu
  have HE := Lib.hid hE
  have HLN : Hid (m.length ≤ 140737488355000) := Lib.hid (by omega)
  have HQ := Lib.hid (And.intro hS (And.intro hx (And.intro hTd (And.intro hposL hsk))))
  have HOO := Lib.hid ho
  have HC10 := Lib.hid c10
  have HCP : Hid (cp ≤ 9223372036854775807 ∧ m.length + 1 ≤ cp) := Lib.hid (by omega)
  have HBQ : Hid (b < w.heap.size ∧ b < q ∧ q < w.heap.size) := Lib.hid ⟨hb, hbq, hq⟩
  have hcp0 : m.length + 1 ≤ cp ∧ cp ≤ 9223372036854775807 := HCP.out.symm
  unfold inV at c10
  clear hrow htu NB hr hE hS hx hd hrm hTd hlenT i1 i2 i3 i4 hTL hposL hcapb hL47 hbq hq hb hcp hsk ho
  obtain ⟨hcap, hcap2⟩ := hcp0
  go_enter Tryz.func139, Tryz.ntmps139
  go_wp2_with fail
  refine HNB.out.mono ?_
  rintro e w1 ⟨⟨i, rfl, hile, hst⟩, rfl⟩
  have hli : LeftT rest m ot i (m.take i) := by
    have := leftT_run (n := i) (leftT_start HTU.out) (fun j hj => by rw [Nat.zero_add]; exact hst j hj)
    simpa using this
  have hi : i < m.length := by have := leftT_lt hli; omega
  have HLI := Lib.hid hli
  clear hst hli hile
  have b1 : (0 : Int) ≤ (i : Int) ∧ (i : Int) ≤ (m.length : Int) := by omega
  have b2 : (0 : Int) ≤ (i : Int) ∧ (i : Int) ≤ ((cp - 1 : Nat) : Int) := by omega
  have b3 : i < cp - 1 := by omega
  go_wp2_with fail
  go_region
  have HP0 : Hid (PRel w.heap.size w b o rest m ot i (.slice (some ⟨b, o, none⟩) i i) (m.take i) w.drew) := Lib.hid (by
    have hti : (m.take i).length = i := by simp; omega
    exact ⟨.inl ⟨by rw [hti], by rw [hti], by rw [hti]; omega⟩, HLI.out, by rw [hti]; exact Nat.le_refl _, (Below.refl _ _).drew⟩)
  clear b1 b2 h0 hlen1 hcapi hne c10
  go_wp2_with fail
  go_loopw [4, 7] (fun v1 v9 wr => ∃ (k n c : Nat) (g : List UInt8), v1 = .slice (some ⟨b, o + k, none⟩) n c ∧ k + n = m.length ∧ n ≤ c ∧ c ≤ cp ∧ PRel w.heap.size w b o rest m ot k v9 g wr) (fun v1 _ _ => lenV v1)
  case atStart => exact ⟨i, m.length - i, cp - 1 - i, m.take i, by rw [HOO.out], by omega, by omega, by omega, by have := HP0.out; rw [HOO.out] at this ⊢; exact this⟩
  case round =>
    obtain ⟨k, n, c, g, rfl, hkn, hnc, hcc, hx⟩ := hrel
    have HX := Lib.hid hx
    have hk : k < m.length := by have := leftT_lt hx.left; omega
    have hn1 : 1 ≤ n := by omega
    have hc1 : 1 ≤ c := by omega
    have HKN := Lib.hid hkn
    have HRR := Lib.hid (HR.out.below hx.bel HBQ.out.1)
    have hD := decode_row wr b o k n c m HRR.out (by omega) hk (HE.out _ hx.bel).tabs
    have hWB : w.heap.size ≤ wr.heap.size := hx.bel.size
    have hbw : b < wr.heap.size := Nat.lt_of_lt_of_le HBQ.out.1 hWB
    have HLC := Lib.hid (leftT_cases hx.left)
    have HSP := Lib.hid (And.intro (leftT_stop hx.left) (leftT_lt hx.left))
    clear hx b3 hi
    have t0 : (0 : Int) < (n : Int) := by omega
    rcases HLC.out with ⟨h34, hrest, hog⟩ | ⟨r, qn, hrq, h32, h34, h92, h65, hq1, hq4, hkq, hl2⟩ | ⟨hk2, h92, bb', hesc, hl⟩ | ⟨hk4, h92, h120, bb', hx1, hx2, hl⟩ | ⟨hk6, h92, h117, h48, h48b, bb', hb0, hb1, hx1, hx2, hl⟩
    ·
      have hcell : wr.cell? ⟨b, o + k, none⟩ = some (.int .u8 ((34 : Nat) : Int)) := by rw [HRR.out k hk, h34]
      have hrl : rest.length = n - 1 := by rw [← hrest, List.length_drop]; omega
      have HRL := Lib.hid (And.intro hrl hog)
      have e10 : wr.cell? ⟨q, 10, none⟩ = some (.slice (some ⟨b, off, none⟩) (m.length + 1) cp) := (HX.out.bel.cell (p := ⟨q, 10, none⟩) HBQ.out.2.2).trans HC10.out
      have HTAIL := Lib.hid (dconsume q b L cap oo oc T HQ.out.2.1 t sv off (m.length + 1 - (n - 1)) p wr (HQ.out.1.below HQ.out.2.1 HX.out.bel) (by have := HQ.out.2.2.2.1; omega) (by
        have h1 := HQ.out.2.2.2.1
        have h3 := HKN.out
        rw [show off + (m.length + 1 - (n - 1)) = L - rest.length from by omega]
        exact HQ.out.2.2.2.2))
      have HCV := Lib.hid (fun (v : Value) => out_string ((HX.out.out.setCell (a := ⟨q, 10, none⟩) HBQ.out.2.2 v).cells (HRR.out.setCell (a := ⟨q, 10, none⟩) (by have := HBQ.out.2.1; simp; omega) v)))
      clear hD h34 hrest hog hrl hk
      rcases Nat.eq_or_lt_of_le hc1 with hce | hce
      · obtain rfl : c = 1 := by omega
        obtain rfl : n = 1 := by omega
        go_wp2_with fail
        refine (decode_ascii b (o + k) 1 1 34 (by omega) (by omega) _ hcell).mono ?_
        rintro e w' ⟨rfl, rfl⟩
        go_wp2_with fail
        refine (calls_arg (m.length + 1 - (1 - 1)) (by omega) HTAIL.out).mono ?_
        rintro e w' ⟨rfl, hst, v, rfl⟩
        have HST := Lib.hid hst
        have cv := HCV.out v
        clear hst
        go_wp2_with fail
        go_ret2
        exact ⟨by rw [HRL.out.2]; rfl, HST.out, (Keeps.of HX.out.bel).setCell 10 v⟩
      · have hce' : (1 : Int) < (c : Int) := by omega
        have hn1' : (1 : Int) ≤ (n : Int) := by omega
        go_wp2_with fail
        refine (decode_ascii b (o + k) n c 34 (by omega) (by omega) _ hcell).mono ?_
        rintro e w' ⟨rfl, rfl⟩
        go_wp2_with fail
        refine (calls_arg (m.length + 1 - (n - 1)) (by have := HKN.out; omega) HTAIL.out).mono ?_
        rintro e w' ⟨rfl, hst, v, rfl⟩
        have HST := Lib.hid hst
        have cv := HCV.out v
        clear hst
        go_wp2_with fail
        go_ret2
        exact ⟨by rw [HRL.out.2]; rfl, HST.out, (Keeps.of HX.out.bel).setCell 10 v⟩
    ·
      as_aux_lemma =>
        rw [hrq] at hD
        simp only at hD
        have HL2 := Lib.hid hl2
        have NB := fun W (hW : Below wr.heap.size wr W) => need_bytes (m.drop (k + qn)) b (o + k + qn) (c - qn) (n - qn) (by rw [List.length_drop]; omega) (by rw [List.length_drop]; have := HLN.out; omega) W (fun j hj => by
          have hj' : k + qn + j < m.length := by rw [List.length_drop] at hj; omega
          rw [add_pos, show o + k + qn + j = o + (k + qn + j) from by omega, HRR.out.below hW hbw (k + qn + j) hj', List.getD_eq_getElem?_getD, List.getElem?_eq_getElem hj']
          simp)
        unfold StopsB at NB
        have HNB2 := Lib.hid NB
        have HD := Lib.hid hD
        have hb2 : ((r : Int) == 65533) = false ∨ (((r : Int) == 65533) = true ∧ ((qn : Int) == 1) = false) := by
          simp only [beq_iff_eq, beq_eq_false_iff_ne]
          omega
        have t1 : ((r : Int) == 0) = false := by rw [beq_eq_false_iff_ne]; omega
        have t1b : ((r : Int) == 10) = false := by rw [beq_eq_false_iff_ne]; omega
        have t2 : ((r : Int) == 34) = false := by rw [beq_eq_false_iff_ne]; omega
        have t3 : ((r : Int) == 92) = false := by rw [beq_eq_false_iff_ne]; omega
        have t4 : (0 : Int) ≤ (qn : Int) ∧ (qn : Int) ≤ (n : Int) := by omega
        have t5 : (qn : Int) ≤ (n : Int) := by omega
        have t6 : (qn : Int) < (c : Int) := by omega
        have t7 : (0 : Int) ≤ (qn : Int) := by omega
        have t8 : ¬ c = qn := by omega
        clear NB hD hl2 h32 h34 h92 h65 hrq
        rcases hb2 with b1 | ⟨b1, b2⟩
        all_goals
          as_aux_lemma =>
            go_wp2_with fail
            refine HD.out.mono ?_
            rintro e w2 ⟨rfl, hb2⟩
            have HBW := Lib.hid hb2
            have HB2 := Lib.hid (HX.out.bel.trans (hb2.mono hWB))
            clear hb2
            go_wp2_with fail
            refine (HNB2.out w2 HBW.out).mono ?_
            rintro e w3 ⟨⟨i2, rfl, hile, hst2⟩, rfl⟩
            have hl3 := leftT_run (n := i2) HL2.out (fun j hj => by have := hst2 j hj; rw [getD_drop] at this; exact this)
            have hk3 : k + qn + i2 < m.length := by have := leftT_lt hl3; omega
            have hg3 : g ++ (m.drop k).take qn ++ (m.drop (k + qn)).take i2 = g ++ (m.drop k).take (qn + i2) := by
              rw [List.take_add, List.drop_drop, List.append_assoc]
            rw [hg3] at hl3
            have HL3 := Lib.hid hl3
            have HO := Lib.hid ((HX.out.out.below HBW.out).cells (HRR.out.below HBW.out hbw))
            have HRN := Lib.hid (HRR.out.below HBW.out hbw)
            have hz3 : w.heap.size ≤ w2.heap.size := HB2.out.size
            clear hst2 hl3 hg3 hile
            have hw1 : IntKind.i64.wrap ((qn : Int) + (i2 : Int)) = (qn : Int) + (i2 : Int) := by have := HLN.out; rw [IntKind.wrap_i64]; omega
            have hw2 : ((qn : Int) + (i2 : Int)).toNat = qn + i2 := by omega
            have b5 : (0 : Int) ≤ (qn : Int) + (i2 : Int) := by omega
            have b6 : (qn : Int) + (i2 : Int) ≤ (n : Int) := by omega
            have b7 : (qn : Int) + (i2 : Int) ≤ (c : Int) := by omega
            have b8 : ¬ c = qn + i2 := by omega
            go_wp2_with fail
            go_region_held3 (fun w' => True) (trivial) ((refine step_push rfl (.tmp 63) (.tmp 68) rfl w.heap.size _ g (by simp [Act.eval, Act.put]) HO.out.drew ⟨b, o + k, none⟩ (qn + i2) c ((m.drop k).take (qn + i2)) (by simp [Act.eval, Act.put, hw2]) (by simp; omega) (HRN.out.news (by omega)) (by omega) (by have := HX.out.glen; have := HLN.out; omega) (by simpa using hz3) w HB2.out.drew ?_; intro v' w4 hown' hb'))
            all_goals
              have P := Lib.hid (And.intro hown' hb')
              clear hown' hb'
              go_wp2_with fail
              go_roundw
              case rel => first | exact ⟨k + (qn + i2), n - (qn + i2), c - (qn + i2), g ++ (m.drop k).take (qn + i2), slq (by omega) rfl rfl, by have := HKN.out; omega, by omega, by omega, .inr P.out.1, by rw [← Nat.add_assoc]; exact HL3.out, by have := HX.out.glen; simp; omega, P.out.2⟩ | ((repeat apply Exists.intro); refine ⟨?_, rfl⟩; exact ⟨k + (qn + i2), n - (qn + i2), c - (qn + i2), g ++ (m.drop k).take (qn + i2), slq (by omega) rfl rfl, by have := HKN.out; omega, by omega, by omega, .inr P.out.1, by rw [← Nat.add_assoc]; exact HL3.out, by have := HX.out.glen; simp; omega, P.out.2⟩)
              case measure => show n - (qn + i2) < n; omega
    ·
      as_aux_lemma =>
        have HL := Lib.hid hl
        have hcell : wr.cell? ⟨b, o + k, none⟩ = some (.int .u8 ((92 : Nat) : Int)) := by rw [HRR.out k hk, h92]
        have hcell1 : wr.cell? ⟨b, o + k + 1, none⟩ = some (.int .u8 ((m.getD (k + 1) 0).toNat : Int)) := by
          rw [show o + k + 1 = o + (k + 1) from by omega]
          exact HRR.out (k + 1) (by omega)
        obtain ⟨x, hx⟩ : ∃ x : Nat, (m.getD (k + 1) 0).toNat = x := ⟨_, rfl⟩
        obtain ⟨y, hy⟩ : ∃ y : Nat, bb'.toNat = y := ⟨_, rfl⟩
        rw [hx, hy] at hesc
        rw [hx] at hcell1
        have HY := Lib.hid hy
        have t1 : (2 : Int) ≤ (n : Int) := by omega
        have t2 : (2 : Int) < (c : Int) := by omega
        have t3 : (1 : Int) < (n : Int) := by omega
        have c2 : ¬ c = 2 := by omega
        have hnm2 : n - 2 < n := by omega
        unfold EscT at hesc
        have HES := Lib.hid hesc
        have HO := Lib.hid (HX.out.out.cells HRR.out)
        have HLT := Lib.hid (fun (b' off n' c' : Nat) (h : _ = Value.slice (some ⟨b', off, none⟩) n' c') => HX.out.out.lt hbw h)
        clear hD hl hx hy h92 hesc
        rcases HES.out with ⟨rfl, rfl⟩ | ⟨rfl, rfl⟩ | ⟨rfl, rfl⟩ | ⟨rfl, rfl⟩ | ⟨rfl, rfl⟩
        all_goals
          as_aux_lemma =>
            go_wp2_with fail
            refine (decode_ascii b (o + k) n c 92 (by omega) (by omega) _ hcell).mono ?_
            rintro e w' ⟨rfl, rfl⟩
            go_wp2_with fail
            go_region_held3 (fun w' => True) (trivial) ((refine step_push rfl _ _ rfl w.heap.size _ g (by simp [Act.eval, Act.put]) (HO.out.drew.alloc HLT.out _) ⟨wr.heap.size, 0, none⟩ 1 1 [bb'] (by simp [Act.eval, Act.put]) rfl (one_bb _ bb' _ (by rw [HY.out]; rfl) _) (Nat.le_refl 1) (by have := HX.out.glen; have := HLN.out; omega) (by simp; omega) w (HX.out.bel.drew.alloc hWB _) ?_; intro v' w4 hown' hb'))
            all_goals
              have P := Lib.hid (And.intro hown' hb')
              clear hown' hb'
              go_wp2_with fail
              go_roundw
              case rel => first | exact ⟨k + 2, n - 2, c - 2, g ++ [bb'], slq (by omega) rfl rfl, by have := HKN.out; omega, by omega, by omega, .inr P.out.1, HL.out, by have := HX.out.glen; simp; omega, P.out.2⟩ | ((repeat apply Exists.intro); refine ⟨?_, rfl⟩; exact ⟨k + 2, n - 2, c - 2, g ++ [bb'], slq (by omega) rfl rfl, by have := HKN.out; omega, by omega, by omega, .inr P.out.1, HL.out, by have := HX.out.glen; simp; omega, P.out.2⟩)
              case measure => exact hnm2
    ·
      as_aux_lemma =>
        have HL := Lib.hid hl
        have hlt4 := leftT_lt hl
        have hcell : wr.cell? ⟨b, o + k, none⟩ = some (.int .u8 ((92 : Nat) : Int)) := by rw [HRR.out k hk, h92]
        have hcell1 : wr.cell? ⟨b, o + k + 1, none⟩ = some (.int .u8 120) := by
          rw [show o + k + 1 = o + (k + 1) from by omega, HRR.out (k + 1) (by omega), h120]; rfl
        have TL := txh.trim_left b (o + k + 2) (n - 2) (c - 2) (fun j => m.getD (k + 2 + j) 0) (by omega) (by have := HCP.out.1; omega) wr.drew (show b < wr.heap.size from hbw)
          (fun j hj => by
            rw [show o + k + 2 + j = o + (k + 2 + j) from by omega]
            exact HRR.out (k + 2 + j) (by have := HKN.out; omega)) (by have := HKN.out; omega)
          (fun j hj => by
            rcases (by omega : j = 0 ∨ j = 1) with rfl | rfl
            · exact hexc_of hx1
            · exact hexc_of hx2)
          (m.length - rest.length - 1 - (k + 2)) (by have := HKN.out; omega) (by
            have h := congrArg (fun l => List.getD l 0 0) HSP.out.1
            simp only [getD_drop] at h
            show ¬ txh.HexC (m.getD (k + 2 + (m.length - rest.length - 1 - (k + 2))) 0).toNat
            rw [show k + 2 + (m.length - rest.length - 1 - (k + 2)) = m.length - rest.length - 1 + 0 from by omega, h]
            show ¬ txh.HexC (34 : UInt8).toNat
            decide)
        unfold txh.octs at TL
        have HTL := Lib.hid TL
        obtain ⟨X, hX⟩ : ∃ X, X = m.getD (k + 2) 0 := ⟨_, rfl⟩
        obtain ⟨Y, hY⟩ : ∃ Y, Y = m.getD (k + 3) 0 := ⟨_, rfl⟩
        rw [← hX] at hx1
        rw [← hY] at hx2
        have HPB := Lib.hid (pu_hex2 X Y bb'.toNat_lt hx1 hx2)
        have hcv : ∀ W, Below wr.heap.size wr W → (convert 25 9 (.slice (some ⟨b, o + k + 2, none⟩) 2 (c - 2))).run Tryz.prog W = .ok (.string ⟨#[X, Y]⟩) W := fun W hW => by
          have hRW := HRR.out.below hW hbw
          have h := run_convert_bytes_back (P := Tryz.prog) W 25 9 5 ⟨b, o + k + 2, none⟩ (c - 2) [X, Y] Tryz.underlying25 Tryz.underlying5 Tryz.underlying9 (fun j hj => by
            rw [add_pos]
            rcases (by simp at hj; omega : j = 0 ∨ j = 1) with rfl | rfl
            · rw [show o + k + 2 + 0 = o + (k + 2) from by omega, hRW (k + 2) (by omega), ← hX]; rfl
            · rw [show o + k + 2 + 1 = o + (k + 3) from by omega, hRW (k + 3) (by omega), ← hY]; rfl)
          exact h
        have HCV := Lib.hid hcv
        obtain ⟨y, hy⟩ : ∃ y : Nat, bb'.toNat = y := ⟨_, rfl⟩
        have hy255 : (y : Int) ≤ 255 := by have := bb'.toNat_lt; omega
        rw [hy] at HPB
        have HY := Lib.hid hy
        have t1 : (2 : Int) ≤ (n : Int) := by omega
        have t2 : (2 : Int) < (c : Int) := by omega
        have t3 : (1 : Int) < (n : Int) := by omega
        have t6 : (4 : Int) ≤ (n : Int) := by omega
        have t7 : (4 : Int) ≤ (c : Int) := by omega
        have c2 : ¬ c = 2 := by omega
        have c4 : ¬ c = 4 := by omega
        have hnm2 : n - 4 < n := by omega
        have hw8 : IntKind.u8.wrap (y : Int) = (y : Int) := by rw [IntKind.wrap_u8]; omega
        clear hD hl hy h92 h120 hX hY hcv TL hlt4 hx1 hx2
        go_wp2_with fail
        refine (decode_ascii b (o + k) n c 92 (by omega) (by omega) _ hcell).mono ?_
        rintro e w' ⟨rfl, rfl⟩
        go_wp2_with fail
        go_region_held3 (fun w' => True) (trivial) (first | (go_at_call 165; ((with_reducible refine HTL.out.mono ?_)); rintro e w2 ⟨⟨z, rfl, hz1, hz2⟩, hb2⟩))
        have HBW : Hid (Below wr.heap.size wr w2) := Lib.hid ((Below.refl _ _).drew.trans hb2)
        have HB2 := Lib.hid (HX.out.bel.trans (HBW.out.mono hWB))
        have cv := HCV.out w2 HBW.out
        have HPU := Lib.hid (pu.parseUint ⟨#[X, Y]⟩ 16 8 (.inr (by omega)) (by omega) (by omega) (by show 2 ≤ _; omega) w2 (HE.out w2 HB2.out).errs)
        clear hb2
        rcases Nat.eq_or_lt_of_le hz1 with hze | hze
        · subst hze
          have ed : ((n - 2 : Nat) : Int) - ((n - 2 - 2 : Nat) : Int) = 2 := by omega
          rw [ed, show IntKind.i64.wrap (2 : Int) = 2 from by rw [IntKind.wrap_i64]; omega]
          clear ed
          have hw5 : IntKind.i64.wrap ((2 : Int) + 2) = 4 := by rw [IntKind.wrap_i64]; omega
          as_aux_lemma =>
            go_wp2_with fail
            refine HPU.out.mono ?_
            rintro e w3 ⟨he, hb3⟩
            rw [HPB.out] at he
            rcases he with rfl | ⟨he, _⟩
            rotate_left
            · cases he
            unfold pu.tupU
            have hb3w : Below wr.heap.size wr w3 := HBW.out.trans (hb3.mono HBW.out.size)
            have HB3 := Lib.hid (HX.out.bel.trans (hb3w.mono hWB))
            have HO3 := Lib.hid ((HX.out.out.below hb3w).cells (HRR.out.below hb3w hbw))
            have HLT3 := Lib.hid (fun (b' off n' c' : Nat) (h : _ = Value.slice (some ⟨b', off, none⟩) n' c') => (HX.out.out.below hb3w).lt (Nat.lt_of_lt_of_le hbw hb3w.size) h)
            have HZ3 := HB3.out.size
            clear hb3 hb3w
            go_wp2_with fail
            have hw4 : IntKind.i64.wrap (4 : Int) = 4 := by rw [IntKind.wrap_i64]; omega
            go_region_held3 (fun w' => True) (trivial) ((refine step_push rfl (.tmp 269) (.tmp 272) rfl w.heap.size _ g (by simp [Act.eval, Act.put]) (HO3.out.drew.alloc HLT3.out _) ⟨w3.heap.size, 0, none⟩ 1 1 [bb'] (by simp [Act.eval, Act.put]) rfl (one_bb _ bb' _ (by rw [HY.out]) _) (Nat.le_refl 1) (by have := HX.out.glen; have := HLN.out; omega) (by simp; omega) w (HB3.out.drew.alloc HZ3 _) ?_; intro v' w4 hown' hb'))
            all_goals
              have P := Lib.hid (And.intro hown' hb')
              clear hown' hb'
              go_wp2_with fail
              go_roundw
              case rel => first | exact ⟨k + 4, n - 4, c - 4, g ++ [bb'], slq (by omega) rfl rfl, by have := HKN.out; omega, by omega, by omega, .inr P.out.1, HL.out, by have := HX.out.glen; simp; omega, P.out.2⟩ | ((repeat apply Exists.intro); refine ⟨?_, rfl⟩; exact ⟨k + 4, n - 4, c - 4, g ++ [bb'], slq (by omega) rfl rfl, by have := HKN.out; omega, by omega, by omega, .inr P.out.1, HL.out, by have := HX.out.glen; simp; omega, P.out.2⟩)
              case measure => exact hnm2
        · have ed : (2 : Int) < ((n - 2 : Nat) : Int) - ((n - 2 - z : Nat) : Int) := by omega
          have hw5 : IntKind.i64.wrap ((2 : Int) + 2) = 4 := by rw [IntKind.wrap_i64]; omega
          as_aux_lemma =>
            go_wp2_with fail
            refine HPU.out.mono ?_
            rintro e w3 ⟨he, hb3⟩
            rw [HPB.out] at he
            rcases he with rfl | ⟨he, _⟩
            rotate_left
            · cases he
            unfold pu.tupU
            have hb3w : Below wr.heap.size wr w3 := HBW.out.trans (hb3.mono HBW.out.size)
            have HB3 := Lib.hid (HX.out.bel.trans (hb3w.mono hWB))
            have HO3 := Lib.hid ((HX.out.out.below hb3w).cells (HRR.out.below hb3w hbw))
            have HLT3 := Lib.hid (fun (b' off n' c' : Nat) (h : _ = Value.slice (some ⟨b', off, none⟩) n' c') => (HX.out.out.below hb3w).lt (Nat.lt_of_lt_of_le hbw hb3w.size) h)
            have HZ3 := HB3.out.size
            clear hb3 hb3w
            go_wp2_with fail
            have hw4 : IntKind.i64.wrap (4 : Int) = 4 := by rw [IntKind.wrap_i64]; omega
            go_region_held3 (fun w' => True) (trivial) ((refine step_push rfl (.tmp 269) (.tmp 272) rfl w.heap.size _ g (by simp [Act.eval, Act.put]) (HO3.out.drew.alloc HLT3.out _) ⟨w3.heap.size, 0, none⟩ 1 1 [bb'] (by simp [Act.eval, Act.put]) rfl (one_bb _ bb' _ (by rw [HY.out]) _) (Nat.le_refl 1) (by have := HX.out.glen; have := HLN.out; omega) (by simp; omega) w (HB3.out.drew.alloc HZ3 _) ?_; intro v' w4 hown' hb'))
            all_goals
              have P := Lib.hid (And.intro hown' hb')
              clear hown' hb'
              go_wp2_with fail
              go_roundw
              case rel => first | exact ⟨k + 4, n - 4, c - 4, g ++ [bb'], slq (by omega) rfl rfl, by have := HKN.out; omega, by omega, by omega, .inr P.out.1, HL.out, by have := HX.out.glen; simp; omega, P.out.2⟩ | ((repeat apply Exists.intro); refine ⟨?_, rfl⟩; exact ⟨k + 4, n - 4, c - 4, g ++ [bb'], slq (by omega) rfl rfl, by have := HKN.out; omega, by omega, by omega, .inr P.out.1, HL.out, by have := HX.out.glen; simp; omega, P.out.2⟩)
              case measure => exact hnm2
    ·
      as_aux_lemma =>
        have HL := Lib.hid hl
        have hcell : wr.cell? ⟨b, o + k, none⟩ = some (.int .u8 ((92 : Nat) : Int)) := by rw [HRR.out k hk, h92]
        have hcell1 : wr.cell? ⟨b, o + k + 1, none⟩ = some (.int .u8 117) := by
          rw [show o + k + 1 = o + (k + 1) from by omega, HRR.out (k + 1) (by omega), h117]; rfl
        obtain ⟨X, hX⟩ : ∃ X, X = m.getD (k + 4) 0 := ⟨_, rfl⟩
        obtain ⟨Y, hY⟩ : ∃ Y, Y = m.getD (k + 5) 0 := ⟨_, rfl⟩
        have h2b : m.getD (k + 2) 0 = 48 := UInt8.toNat_inj.1 (by rw [h48]; rfl)
        have h3b : m.getD (k + 3) 0 = 48 := UInt8.toNat_inj.1 (by rw [h48b]; rfl)
        have cv : (convert 25 9 (.slice (some ⟨b, o + k + 2, none⟩) 4 (c - 2))).run Tryz.prog wr = .ok (.string ⟨#[48, 48, X, Y]⟩) wr := by
          have hRW := HRR.out
          have h := run_convert_bytes_back (P := Tryz.prog) wr 25 9 5 ⟨b, o + k + 2, none⟩ (c - 2) [48, 48, X, Y] Tryz.underlying25 Tryz.underlying5 Tryz.underlying9 (fun j hj => by
            rw [add_pos]
            rcases (by simp at hj; omega : j = 0 ∨ j = 1 ∨ j = 2 ∨ j = 3) with rfl | rfl | rfl | rfl
            · rw [show o + k + 2 + 0 = o + (k + 2) from by omega, hRW (k + 2) (by omega), h2b]; rfl
            · rw [show o + k + 2 + 1 = o + (k + 3) from by omega, hRW (k + 3) (by omega), h3b]; rfl
            · rw [show o + k + 2 + 2 = o + (k + 4) from by omega, hRW (k + 4) (by omega), ← hX]; rfl
            · rw [show o + k + 2 + 3 = o + (k + 5) from by omega, hRW (k + 5) (by omega), ← hY]; rfl)
          exact h
        rw [← hX] at hx1
        rw [← hY] at hx2
        have HPU : Hid (Calls Tryz.prog 85 #[.string ⟨#[48, 48, X, Y]⟩, .int .i64 (16 : Nat), .int .i64 (32 : Nat)] wr fun e w' => pu.EndsU (.ok bb'.toNat false) e ∧ Below wr.heap.size wr w') := Lib.hid (by
          have h := pu.parseUint ⟨#[48, 48, X, Y]⟩ 16 32 (.inr (by omega)) (by omega) (by omega) (by show 4 ≤ _; omega) wr (HE.out wr HX.out.bel).errs
          rw [show (⟨#[48, 48, X, Y]⟩ : ByteArray).data.toList = [48, 48, X, Y] from rfl, pu_hex4 X Y bb'.toNat_lt hx1 hx2] at h
          exact h)
        have cvr := fun W => conv_c1 bb' hb0 hb1 W
        obtain ⟨y, hy⟩ : ∃ y : Nat, bb'.toNat = y := ⟨_, rfl⟩
        have hy160 : y < 160 := by omega
        rw [hy] at HPU cvr
        have HY := Lib.hid hy
        have t1 : ¬ (n : Int) < 6 := by omega
        have t2 : (2 : Int) < (c : Int) := by omega
        have t3 : (1 : Int) < (n : Int) := by omega
        have t4 : (6 : Int) ≤ (n : Int) := by omega
        have t5 : (6 : Int) ≤ (c : Int) := by omega
        have c2 : ¬ c = 6 := by omega
        have hnm2 : n - 6 < n := by omega
        have hyi : (y : Int) < 160 := by omega
        have hw21 : IntKind.i32.wrap (y : Int) = (y : Int) := by rw [IntKind.wrap_i32]; omega
        have hss : (⟨#[194, bb']⟩ : ByteArray).size = 2 := rfl
        obtain ⟨tb, htb⟩ : ∃ tb : ByteArray, tb = ⟨#[194, bb']⟩ := ⟨_, rfl⟩
        rw [← htb] at cvr hss
        have HTB := Lib.hid htb
        have hts1 : 1 ≤ tb.size := by rw [hss]; omega
        clear htb hss hD hl hy h92 h117 h48 h48b hX hY h2b h3b hx1 hx2 hb0 hb1
        go_wp2_with fail
        refine (decode_ascii b (o + k) n c 92 (by omega) (by omega) _ hcell).mono ?_
        rintro e w' ⟨rfl, rfl⟩
        go_wp2_with fail
        refine HPU.out.mono ?_
        rintro e w3 ⟨he, hb3⟩
        rcases he with rfl | ⟨he, _⟩
        rotate_left
        · cases he
        unfold pu.tupU
        have HB3 := Lib.hid (HX.out.bel.trans (hb3.mono hWB))
        have HO := Lib.hid ((HX.out.out.below hb3).cells (HRR.out.below hb3 hbw))
        have hz3 : w.heap.size ≤ w3.heap.size := HB3.out.size
        clear hb3
        have hs0 : ¬ (1114111 : Int) < (y : Int) := by omega
        go_wp2_with fail
        have hs1 : ¬ (55296 : Int) ≤ (y : Int) := by omega
        refine (surr_low y (by omega) w3).mono ?_
        rintro e w' ⟨rfl, rfl⟩
        go_wp2_with (first | (at_builtin; go_loud (refine wpList_pushO_str rfl _ _ rfl w.heap.size _ g rfl HO.out tb rfl hts1 (by have := HX.out.glen; have := HLN.out; rw [HTB.out]; show g.length + 2 ≤ _; omega) hz3 w HB3.out ?_); (intro v' w4 hown' hb'); have P := Lib.hid (And.intro hown' hb'); clear hown' hb'))
        go_roundw
        case rel => first | exact ⟨k + 6, n - 6, c - 6, g ++ [194, bb'], slq (by omega) rfl rfl, by have := HKN.out; omega, by omega, by omega, .inr (by have := P.out.1; rw [HTB.out] at this; exact this), HL.out, by have := HX.out.glen; simp; omega, P.out.2⟩ | ((repeat apply Exists.intro); refine ⟨?_, rfl⟩; exact ⟨k + 6, n - 6, c - 6, g ++ [194, bb'], slq (by omega) rfl rfl, by have := HKN.out; omega, by omega, by omega, .inr (by have := P.out.1; rw [HTB.out] at this; exact this), HL.out, by have := HX.out.glen; simp; omega, P.out.2⟩)
        case measure => exact hnm2

end Go.Proofs.YtpneioocmpagmaaGreatDoor.tx
