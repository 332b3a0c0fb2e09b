/- parseString at a text with C's escapes. -/
import Derived.Test.YtdcgoaikfbbneaaGreatDoorUs0
import Derived.Test.YtdcgoaikfbbneaaGreatDoorUu
import Derived.Test.YtdcgoaikfbbneaaGreatDoorPp
import Derived.Deep.RegionHeld3
namespace Go.Proofs.YtdcgoaikfbbneaaGreatDoor.une
open Go.RowKit
set_option linter.unusedVariables false
set_option linter.unusedSimpArgs false

structure Loops (w : World) (B0 : Nat) (l o : List UInt8) (k : Nat) (v : Value) (g : List UInt8) (wr : World) : Prop where
  out : OutR wr w.heap.size B0 v l g
  left : Left l o k g
  glen : g.length ≤ k
  bel : Below w.heap.size w wr
  row : RowQ wr B0 l

set_option maxHeartbeats 400000000 in
set_option maxRecDepth 100000 in
theorem parse_string (l o : List UInt8) (hcu : Cu l o) (P1 B0 cap : Nat) (hcap : l.length + 2 ≤ cap) (hcap2 : cap ≤ 9223372036854775807) (hl47 : l.length ≤ 140737488355000) (w : World) (hP : P1 < w.heap.size) (hB0 : B0 < P1)
    (hd : w.cell? ⟨P1, 10, none⟩ = some (.slice (some ⟨B0, 0, none⟩) (l.length + 2) cap)) (hf : w.frozen? ⟨P1, 10, none⟩ = false)
    (hrow : RowQ w B0 l) (herr : pu.Errs w) :
    Calls Tryz.prog 61 #[.pointer (some ⟨P1, 0, none⟩)] w fun e w' => e = .returned (.tuple #[.string ⟨o.toArray⟩, .nilIface]) ∧ Below P1 w w' := by
  have h0 : w.cell? ⟨B0, 0, none⟩ = some (.int .u8 34) := hrow 0 (by omega)
  have hlen2 : (1 : Int) < ((l.length + 2 : Nat) : Int) := by omega
  have hcapi : (1 : Int) < (cap : Int) := by omega
  have hne : (((l.length + 2 : Nat) : Int) == 0) = false := by rw [beq_eq_false_iff_ne]; omega
  have NB := need_bytes (((List.range (l.length + 1)).map fun j => quoted l (j + 1))) B0 1 (cap - 1) (l.length + 1) (by simp) (by simp; omega) w (fun j hj => by
    have hj' : j < l.length + 1 := by simpa using hj
    have := hrow (j + 1) (by omega)
    rw [add_pos, Nat.add_comm 1 j, this]
    simp)
  have HNB := Lib.hid NB
  have HR := Lib.hid hrow
  have HCU := Lib.hid hcu
  have HE := Lib.hid herr
  have HD := Lib.hid (And.intro hd hf)
  clear hrow hcu NB hf herr
  go_enter Tryz.func61, Tryz.ntmps61
  go_wp2_with fail
  refine HNB.out.mono ?_
  rintro e w' ⟨⟨i, rfl, hi, hok⟩, rfl⟩
  have HOK := Lib.hid hok
  clear hok
  have hi' : i ≤ l.length := by
    have h1 : i ≤ l.length + 1 := by simpa using hi
    by_cases e : i ≤ l.length
    · exact e
    · have := HOK.out l.length (by omega)
      simp [quoted, Ok] at this
  clear hi
  have b1 : (0 : Int) ≤ (i : Int) ∧ (i : Int) ≤ ((l.length + 1 : Nat) : Int) := by omega
  have b2 : (0 : Int) ≤ (i : Int) ∧ (i : Int) ≤ ((cap - 1 : Nat) : Int) := by omega
  have b3 : i < cap - 1 := by omega
  -- trace "1"
  go_wp2_with fail
  -- trace "2"
  go_region
  -- trace "3"
  have hst : ∃ g : List UInt8, g.length = i ∧ g = l.take i ∧ Left l o i g := by
    refine ⟨l.take i, by simp; omega, rfl, ?_⟩
    have := left_run (n := i) (left_start HCU.out) (by omega) (fun j hj => by
      have := HOK.out j hj
      have e : quoted l (j + 1) = l.getD j 0 := by
        unfold quoted
        rw [if_neg (by omega), if_neg (by omega)]
        simp
      rw [List.getD_eq_getElem?_getD, List.getElem?_map, List.getElem?_range (by omega)] at this
      simp only [Option.map_some, Option.getD_some, e] at this
      simpa using this)
    simpa using this
  obtain ⟨g0, hg0, hg1, hg2⟩ := hst
  have HS := Lib.hid (And.intro hg0 (And.intro hg1 hg2))
  clear hg0 hg1 hg2 b1 b2 h0 hlen2 hcapi hne hd
  -- trace "4"
  go_wp2_with fail
  -- trace "5"
  go_loopw [4, 7] (fun v4 v7 wr => ∃ (k m c : Nat) (g : List UInt8), v4 = .slice (some ⟨B0, 1 + k, none⟩) m c ∧ k + m = l.length + 1 ∧ 1 ≤ m ∧ m ≤ c ∧ c ≤ cap ∧ Loops w B0 l o k v7 g wr) (fun v4 _ _ => lenV v4)
  -- trace "6"
  case atStart => exact ⟨i, l.length + 1 - i, cap - 1 - i, g0, rfl, by omega, by omega, by omega, by omega, .inl ⟨by rw [HS.out.1], by rw [HS.out.1]; exact HS.out.2.1, by rw [HS.out.1]; omega⟩, HS.out.2.2, by rw [HS.out.1]; exact Nat.le_refl _, (Below.refl _ _).drew, HR.out⟩
  case round =>
    obtain ⟨k, m, c, g, rfl, hkm, hm1, hmc, hcc, hx⟩ := hrel
    have HX := Lib.hid hx
    have HKM := Lib.hid hkm
    have hc1 : 1 ≤ c := by omega
    clear hx b3 hi'
    by_cases hk : k < l.length
    · rcases left_cases HX.out.left hk with ho | ⟨hk1, h92, b, hb, hl⟩ | ⟨hk3, h92, hd1, hd2, hd3, b, hb, hl⟩
      · have hoO := Lib.hid ho
        have hcell := HX.out.row.at_ hk
        obtain ⟨x, hx⟩ : ∃ x : Nat, x = (l.getD k 0).toNat := ⟨_, rfl⟩
        rw [← hx] at hcell ho
        have HXX := Lib.hid hx
        unfold Ok at ho
        have t0 : (0 : Int) < (m : Int) := by omega
        have t1 : ((x : Int) == 65533) = false := by rw [beq_eq_false_iff_ne]; omega
        have t2 : ((x : Int) == 0) = false := by rw [beq_eq_false_iff_ne]; omega
        have t3 : ((x : Int) == 10) = false := by rw [beq_eq_false_iff_ne]; omega
        have t4 : ((x : Int) == 34) = false := by rw [beq_eq_false_iff_ne]; omega
        have t5 : ((x : Int) == 92) = false := by rw [beq_eq_false_iff_ne]; omega
        have t6 : (1 : Int) < (c : Int) := by omega
        have t7 : (1 : Int) ≤ (m : Int) := by omega
        have hx128 : x < 128 := by omega
        have NB := need_bytes (((List.range (l.length - k)).map fun j => quoted l (1 + (k + 1 + j)))) B0 (1 + k + 1) (c - 1) (m - 1) (by simp; omega) (by simp; omega) wr (fun j hj => by
          have hj' : j < l.length - k := by simpa using hj
          have := HX.out.row (1 + (k + 1 + j)) (by omega)
          rw [add_pos, show 1 + k + 1 + j = 1 + (k + 1 + j) from by omega, this]
          simp)
        have HNB := Lib.hid NB
        clear hx ho NB
        go_wp2_with fail
        refine (decode_ascii B0 (1 + k) m c x hx128 (by omega) _ hcell).mono ?_
        rintro e w' ⟨rfl, rfl⟩
        go_wp2_with fail
        refine HNB.out.mono ?_
        rintro e w' ⟨⟨i, rfl, hi, hok⟩, rfl⟩
        have hi2 : i < l.length - k := by
          have h1 : i ≤ l.length - k := by simpa using hi
          by_cases e : i < l.length - k
          · exact e
          · have := hok (l.length - k - 1) (by omega)
            rw [List.getD_eq_getElem?_getD, List.getElem?_map, List.getElem?_range (by omega)] at this
            simp only [Option.map_some, Option.getD_some] at this
            rw [show 1 + (k + 1 + (l.length - k - 1)) = 1 + l.length from by omega, quoted_end] at this
            simp [Ok] at this
        have HOK := Lib.hid hok
        clear hi hok t0 t1 t2 t3 t4 t5 t7 hcell
        have b1 : (0 : Int) ≤ 1 + (i : Int) := by omega
        have b2 : ¬ c = 1 + i := by omega
        have b4 : (1 : Int) + (i : Int) ≤ (m : Int) := by omega
        have b5 : (1 : Int) + (i : Int) ≤ (c : Int) := by omega
        have HO := Lib.hid (HX.out.out.cells HX.out.row)
        have HL := Lib.hid (left_run (n := 1 + i) HX.out.left (by omega) (fun j hj => by
          rcases Nat.eq_zero_or_pos j with h0 | h0
          · subst h0; exact hoO.out
          · have h1 := HOK.out (j - 1) (by omega)
            rw [List.getD_eq_getElem?_getD, List.getElem?_map, List.getElem?_range (by omega)] at h1
            simp only [Option.map_some, Option.getD_some] at h1
            rw [show 1 + (k + 1 + (j - 1)) = 1 + (k + j) from by omega, quoted_in (by omega)] at h1
            exact h1))
        have bi : (0 : Int) ≤ (i : Int) := by omega
        have hw1 : IntKind.i64.wrap (1 + (i : Int)) = 1 + (i : Int) := by rw [IntKind.wrap_i64]; omega
        have hw2 : (1 + (i : Int)).toNat = 1 + i := by omega
        go_wp2_with fail
        go_region_law (refine step_push rfl (.tmp 63) (.tmp 68) rfl w.heap.size _ g (by simp [Act.eval, Act.put]) HO.out.drew ⟨B0, 1 + k, none⟩ (1 + i) c ((l.drop k).take (1 + i)) (by simp [Act.eval, Act.put]) (by simp; omega) (HX.out.row.news (by omega)) (by omega) (by have := HX.out.glen; omega) HX.out.bel.size w HX.out.bel.drew ?_; intro v' w1 hown' hb')
        all_goals
          have P := Lib.hid (And.intro hown' hb')
          clear hown' hb' hw1 hw2
          go_wp2_with fail
          go_roundw
          case rel =>
            (repeat apply Exists.intro)
            refine ⟨?_, rfl⟩
            exact ⟨k + (1 + i), m - (1 + i), c - (1 + i), g ++ (l.drop k).take (1 + i), slq (by omega) rfl rfl, by have := HKM.out; omega, by have := HKM.out; omega, by omega, by omega, .inr P.out.1, HL.out, by have := HX.out.glen; simp; omega, P.out.2, HR.out.below P.out.2 (by omega)⟩
          case measure => show m - (1 + i) < m; omega
      ·
        as_aux_lemma =>
          have HO := Lib.hid (HX.out.out.cells HX.out.row)
          have HLT := Lib.hid (fun (b off n c : Nat) (h : _ = Value.slice (some ⟨b, off, none⟩) n c) => HX.out.out.lt (Nat.lt_of_lt_of_le (by omega : B0 < w.heap.size) HX.out.bel.size) h)
          have hcell : wr.cell? ⟨B0, 1 + k, none⟩ = some (.int .u8 ((92 : Nat) : Int)) := by rw [← h92]; exact HX.out.row.at_ hk
          have t0 : (0 : Int) < (m : Int) := by omega
          have t1 : (2 : Int) ≤ (m : Int) := by omega
          have t2 : (2 : Int) < (c : Int) := by omega
          have t3 : (1 : Int) < (m : Int) := by omega
          clear h92

          have hcell1 : wr.cell? ⟨B0, 1 + k + 1, none⟩ = some (.int .u8 ((l.getD (k + 1) 0).toNat : Int)) := by rw [Nat.add_assoc 1 k 1]; exact HX.out.row.at_ hk1
          obtain ⟨x, y, hx, hy, hcs⟩ : ∃ x y : Nat, (l.getD (k + 1) 0).toNat = x ∧ b.toNat = y ∧ ((x = 110 ∧ y = 10) ∨ (x = 114 ∧ y = 13) ∨ (x = 116 ∧ y = 9) ∨ (x = 34 ∧ y = 34) ∨ (x = 39 ∧ y = 39) ∨ (x = 92 ∧ y = 92)) := by
            refine ⟨_, _, rfl, rfl, ?_⟩
            rcases hb with h | h | h | ⟨h, h'⟩
            · exact .inl h
            · exact .inr (.inl h)
            · exact .inr (.inr (.inl h))
            · subst h'
              rcases h with h | h | h
              · exact .inr (.inr (.inr (.inl ⟨h, h⟩)))
              · exact .inr (.inr (.inr (.inr (.inl ⟨h, h⟩))))
              · exact .inr (.inr (.inr (.inr (.inr ⟨h, h⟩))))
          rw [hx] at hcell1
          have HY := Lib.hid hy
          have c2 : ¬ c = 2 := by omega
          have HL := Lib.hid hl
          clear hb hx hy hl
          rcases hcs with ⟨rfl, rfl⟩ | ⟨rfl, rfl⟩ | ⟨rfl, rfl⟩ | ⟨rfl, rfl⟩ | ⟨rfl, rfl⟩ | ⟨rfl, rfl⟩
          all_goals
            as_aux_lemma =>
              go_wp2_with fail
              refine (decode_ascii B0 (1 + k) m c 92 (by omega) (by omega) _ hcell).mono ?_
              rintro e w' ⟨rfl, rfl⟩
              go_wp2_with fail
              go_region_held3 (fun w' => True) (trivial) ((refine step_push rfl _ _ rfl w.heap.size _ g (by simp [Act.eval, Act.put]) (HO.out.drew.alloc HLT.out _) ⟨wr.heap.size, 0, none⟩ 1 1 [b] (by simp [Act.eval, Act.put]) rfl (one_bb _ b _ (by rw [HY.out]; rfl) _) (Nat.le_refl 1) (by have := HX.out.glen; omega) (by have := HX.out.bel.size; simp; omega) w (HX.out.bel.drew.alloc HX.out.bel.size _) ?_; intro v' w1 hown' hb'))
              all_goals
                as_aux_lemma =>
                  have P := Lib.hid (And.intro hown' hb')
                  clear hown' hb'
                  go_wp2_with fail
                  go_roundw
                  case rel => first | exact ⟨k + 2, m - 2, c - 2, g ++ [b], slq (by omega) rfl rfl, by have := HKM.out; omega, by have := HKM.out; omega, by omega, by omega, .inr P.out.1, HL.out, by have := HX.out.glen; simp; omega, P.out.2, HR.out.below P.out.2 (by omega)⟩ | ((repeat apply Exists.intro); refine ⟨?_, rfl⟩; exact ⟨k + 2, m - 2, c - 2, g ++ [b], slq (by omega) rfl rfl, by have := HKM.out; omega, by have := HKM.out; omega, by omega, by omega, .inr P.out.1, HL.out, by have := HX.out.glen; simp; omega, P.out.2, HR.out.below P.out.2 (by omega)⟩)
                  case measure => show m - 2 < m; omega
      ·
        as_aux_lemma =>
          have HO := Lib.hid (HX.out.out.cells HX.out.row)
          have HLT := Lib.hid (fun (b off n c : Nat) (h : _ = Value.slice (some ⟨b, off, none⟩) n c) => HX.out.out.lt (Nat.lt_of_lt_of_le (by omega : B0 < w.heap.size) HX.out.bel.size) h)
          have hcell : wr.cell? ⟨B0, 1 + k, none⟩ = some (.int .u8 ((92 : Nat) : Int)) := by rw [← h92]; exact HX.out.row.at_ hk
          have t0 : (0 : Int) < (m : Int) := by omega
          have t1 : (2 : Int) ≤ (m : Int) := by omega
          have t2 : (2 : Int) < (c : Int) := by omega
          have t3 : (1 : Int) < (m : Int) := by omega
          clear h92

          have hcell1 : wr.cell? ⟨B0, 1 + k + 1, none⟩ = some (.int .u8 ((l.getD (k + 1) 0).toNat : Int)) := by rw [Nat.add_assoc 1 k 1]; exact HX.out.row.at_ (by omega)
          obtain ⟨x, hx, hcs⟩ : ∃ x : Nat, (l.getD (k + 1) 0).toNat = x ∧ (x = 48 ∨ x = 49 ∨ x = 50 ∨ x = 51) := ⟨_, rfl, by omega⟩
          have TL := trim_left B0 (1 + k + 1) (m - 1) (c - 1) (fun j => quoted l (1 + k + 1 + j)) (by omega) (by omega) wr.drew (by have := HX.out.bel.size; show B0 < wr.heap.size; omega)
            (fun j hj => HX.out.row _ (by have := HKM.out; omega)) (by have := HKM.out; omega)
            (fun j hj => by
              rw [show 1 + k + 1 + j = 1 + (k + 1 + j) from by omega, quoted_in (by omega)]
              rcases (by omega : j = 0 ∨ j = 1 ∨ j = 2) with rfl | rfl | rfl
              · have h := hd1
                rw [show k + 1 + 0 = k + 1 from rfl]
                omega
              · exact hd2
              · exact hd3)
            (by
              rw [show 1 + k + 1 + (m - 1 - 1) = 1 + l.length from by have := HKM.out; omega, quoted_end]
              decide)
          unfold octs at TL
          have HTL := Lib.hid TL
          have HDD := Lib.hid (And.intro hd1 (And.intro hd2 hd3))
          have HBB := Lib.hid hb
          have HL := Lib.hid hl
          have t4 : (1 : Int) ≤ (m : Int) := by omega
          have t5 : (1 : Int) < (c : Int) := by omega
          have c1 : ¬ c = 1 := by omega
          rw [hx] at hcell1
          clear hx TL hb hl hd1 hd2 hd3
          rcases hcs with rfl | rfl | rfl | rfl
          all_goals
            as_aux_lemma =>
              go_wp2_with fail
              refine (decode_ascii B0 (1 + k) m c 92 (by omega) (by omega) _ hcell).mono ?_
              rintro e w' ⟨rfl, rfl⟩
              go_wp2_with fail
              go_region_held3 (fun w' => True) (trivial) (first | (go_at_call 71; ((with_reducible refine HTL.out.mono ?_)); rintro e w2 ⟨⟨q, rfl, hq1, hq2⟩, hb2⟩))
              have HB2 := Lib.hid (HX.out.bel.drew.trans (hb2.mono HX.out.bel.size))
              have HR2 := Lib.hid (RowQ.below (w := wr.drew) HX.out.row hb2 (by have := HX.out.bel.size; show B0 < wr.heap.size; omega))
              have HO2 := Lib.hid (OutR.below (w := wr.drew) HX.out.out.drew hb2)
              have HE2 := Lib.hid (HE.out.below HB2.out)
              have HZ2 := HB2.out.size
              clear hb2
              obtain ⟨D, hD⟩ : ∃ D, D = l.getD (k + 1) 0 := ⟨_, rfl⟩
              obtain ⟨E, hE⟩ : ∃ E, E = l.getD (k + 2) 0 := ⟨_, rfl⟩
              obtain ⟨F, hF⟩ : ∃ F, F = l.getD (k + 3) 0 := ⟨_, rfl⟩
              have HDE := HDD.out
              have HBE := HBB.out
              rw [← hD, ← hE, ← hF] at HDE HBE
              have HDE := Lib.hid HDE
              have HBE := Lib.hid HBE
              have HPU := Lib.hid (pu.parseUint ⟨#[D, E, F]⟩ 8 8 (.inr (by omega)) (by omega) (by omega) (by show 3 ≤ _; omega) w2 HE2.out)
              have cv : (convert 38 9 (.slice (some ⟨B0, 1 + k + 1, none⟩) 3 (c - 1))).run Tryz.prog w2 = .ok (.string ⟨#[D, E, F]⟩) w2 := by
                have h := run_convert_bytes_back (P := Tryz.prog) w2 38 9 5 ⟨B0, 1 + k + 1, none⟩ (c - 1) [l.getD (k + 1) 0, l.getD (k + 2) 0, l.getD (k + 3) 0] Tryz.underlying38 Tryz.underlying5 Tryz.underlying9 (fun j hj => by
                  rw [add_pos]
                  rcases (by simp at hj; omega : j = 0 ∨ j = 1 ∨ j = 2) with rfl | rfl | rfl
                  · exact (HR2.out.at_ (k := k + 1) (by omega))
                  · exact (show w2.cell? ⟨B0, 1 + k + 1 + 1, none⟩ = _ from HR2.out.at_ (k := k + 2) (by omega))
                  · exact (show w2.cell? ⟨B0, 1 + k + 1 + 2, none⟩ = _ from HR2.out.at_ (k := k + 3) (by omega)))
                rw [← hD, ← hE, ← hF] at h
                exact h
              clear hD hE hF
              have t6 : (4 : Int) ≤ (m : Int) := by have := HKM.out; omega
              have t7 : (4 : Int) ≤ (c : Int) := by omega
              have c4 : ¬ c = 4 := by have := HKM.out; omega
              have HPB := Lib.hid (pu_oct HDE.out.1 HDE.out.2.1 HDE.out.2.2)
              have hgoal : True := trivial
              rcases Nat.eq_or_lt_of_le hq1 with hq | hq
              · as_aux_lemma =>
                  subst hq
                  have ed : ((m - 1 : Nat) : Int) - ((m - 1 - 3 : Nat) : Int) = 3 := by omega
                  rw [ed, show IntKind.i64.wrap (3 : Int) = 3 from by rw [IntKind.wrap_i64]; omega]
                  clear ed
                  go_wp2_with fail
                  refine HPU.out.mono ?_
                  rintro e w3 ⟨he, hb3⟩
                  rw [HPB.out] at he
                  rcases he with rfl | ⟨he, _⟩
                  rotate_left
                  · cases he
                  unfold pu.tupU
                  have hb3' := hb3.mono HZ2
                  have HB3 := Lib.hid (HB2.out.trans hb3')
                  have HR3 := Lib.hid (HR2.out.below hb3 (by omega))
                  have HO3 := Lib.hid ((HO2.out.below hb3).cells HR3.out)
                  have HLT3 := Lib.hid (fun (b off n c : Nat) (h : _ = Value.slice (some ⟨b, off, none⟩) n c) => (HO2.out.below hb3).lt (Nat.lt_of_lt_of_le (by omega : B0 < w.heap.size) HB3.out.size) h)
                  have HZ3 := HB3.out.size
                  clear hb3 hb3'
                  obtain ⟨n, hn⟩ : ∃ n, n = (D.toNat - 48) * 64 + (E.toNat - 48) * 8 + (F.toNat - 48) := ⟨_, rfl⟩
                  rw [← hn]
                  have hn255 : (n : Int) ≤ 255 := by have := HDE.out; omega
                  have HBN : Hid ((n : Int) = (b.toNat : Int)) := Lib.hid (by rw [HBE.out, hn])
                  have hw8 : IntKind.u8.wrap (n : Int) = (n : Int) := by rw [IntKind.wrap_u8]; omega
                  clear hn
                  go_wp2_with fail
                  have hw4 : IntKind.i64.wrap (4 : Int) = 4 := by rw [IntKind.wrap_i64]; omega
                  have hw5 : IntKind.i64.wrap ((1 : Int) + 3) = 4 := by rw [IntKind.wrap_i64]; omega
                  go_region_held3 (fun w' => True) (trivial) ((refine step_push rfl (.tmp 229) (.tmp 232) rfl w.heap.size _ g (by simp [Act.eval, Act.put]) (HO3.out.drew.alloc HLT3.out _) ⟨w3.heap.size, 0, none⟩ 1 1 [b] (by simp [Act.eval, Act.put]) rfl (one_bb _ b _ HBN.out _) (Nat.le_refl 1) (by have := HX.out.glen; omega) (by simp; omega) w (HB3.out.drew.alloc HZ3 _) ?_; intro v' w4 hown' hb'))
                  all_goals
                    as_aux_lemma =>
                      have P := Lib.hid (And.intro hown' hb')
                      clear hown' hb'
                      go_wp2_with fail
                      go_roundw
                      case rel => first | exact ⟨k + 4, m - 4, c - 4, g ++ [b], slq (by omega) rfl rfl, by have := HKM.out; omega, by have := HKM.out; omega, by omega, by omega, .inr P.out.1, HL.out, by have := HX.out.glen; simp; omega, P.out.2, HR.out.below P.out.2 (by omega)⟩ | ((repeat apply Exists.intro); refine ⟨?_, rfl⟩; exact ⟨k + 4, m - 4, c - 4, g ++ [b], slq (by omega) rfl rfl, by have := HKM.out; omega, by have := HKM.out; omega, by omega, by omega, .inr P.out.1, HL.out, by have := HX.out.glen; simp; omega, P.out.2, HR.out.below P.out.2 (by omega)⟩)
                      case measure => show m - 4 < m; omega
              · as_aux_lemma =>
                  have ed : (3 : Int) < ((m - 1 : Nat) : Int) - ((m - 1 - q : Nat) : Int) := by omega
                  go_wp2_with fail
                  refine HPU.out.mono ?_
                  rintro e w3 ⟨he, hb3⟩
                  rw [HPB.out] at he
                  rcases he with rfl | ⟨he, _⟩
                  rotate_left
                  · cases he
                  unfold pu.tupU
                  have hb3' := hb3.mono HZ2
                  have HB3 := Lib.hid (HB2.out.trans hb3')
                  have HR3 := Lib.hid (HR2.out.below hb3 (by omega))
                  have HO3 := Lib.hid ((HO2.out.below hb3).cells HR3.out)
                  have HLT3 := Lib.hid (fun (b off n c : Nat) (h : _ = Value.slice (some ⟨b, off, none⟩) n c) => (HO2.out.below hb3).lt (Nat.lt_of_lt_of_le (by omega : B0 < w.heap.size) HB3.out.size) h)
                  have HZ3 := HB3.out.size
                  clear hb3 hb3'
                  obtain ⟨n, hn⟩ : ∃ n, n = (D.toNat - 48) * 64 + (E.toNat - 48) * 8 + (F.toNat - 48) := ⟨_, rfl⟩
                  rw [← hn]
                  have hn255 : (n : Int) ≤ 255 := by have := HDE.out; omega
                  have HBN : Hid ((n : Int) = (b.toNat : Int)) := Lib.hid (by rw [HBE.out, hn])
                  have hw8 : IntKind.u8.wrap (n : Int) = (n : Int) := by rw [IntKind.wrap_u8]; omega
                  clear hn
                  go_wp2_with fail
                  have hw4 : IntKind.i64.wrap (4 : Int) = 4 := by rw [IntKind.wrap_i64]; omega
                  have hw5 : IntKind.i64.wrap ((1 : Int) + 3) = 4 := by rw [IntKind.wrap_i64]; omega
                  go_region_held3 (fun w' => True) (trivial) ((refine step_push rfl (.tmp 229) (.tmp 232) rfl w.heap.size _ g (by simp [Act.eval, Act.put]) (HO3.out.drew.alloc HLT3.out _) ⟨w3.heap.size, 0, none⟩ 1 1 [b] (by simp [Act.eval, Act.put]) rfl (one_bb _ b _ HBN.out _) (Nat.le_refl 1) (by have := HX.out.glen; omega) (by simp; omega) w (HB3.out.drew.alloc HZ3 _) ?_; intro v' w4 hown' hb'))
                  all_goals
                    as_aux_lemma =>
                      have P := Lib.hid (And.intro hown' hb')
                      clear hown' hb'
                      go_wp2_with fail
                      go_roundw
                      case rel => first | exact ⟨k + 4, m - 4, c - 4, g ++ [b], slq (by omega) rfl rfl, by have := HKM.out; omega, by have := HKM.out; omega, by omega, by omega, .inr P.out.1, HL.out, by have := HX.out.glen; simp; omega, P.out.2, HR.out.below P.out.2 (by omega)⟩ | ((repeat apply Exists.intro); refine ⟨?_, rfl⟩; exact ⟨k + 4, m - 4, c - 4, g ++ [b], slq (by omega) rfl rfl, by have := HKM.out; omega, by have := HKM.out; omega, by omega, by omega, .inr P.out.1, HL.out, by have := HX.out.glen; simp; omega, P.out.2, HR.out.below P.out.2 (by omega)⟩)
                      case measure => show m - 4 < m; omega
    ·
      have hkl : k = l.length := by omega
      have hm1 : m = 1 := by omega
      have hcell : wr.cell? ⟨B0, 1 + k, none⟩ = some (.int .u8 ((34 : Nat) : Int)) := by rw [hkl]; exact HX.out.row.end_
      have hlen : (0 : Int) < (m : Int) := by omega
      have HG := Lib.hid (left_end HX.out.left (by omega))
      have hd' : wr.cell? ⟨P1, 10, none⟩ = some (.slice (some ⟨B0, 0, none⟩) (l.length + 2) cap) := (HX.out.bel.cell (p := ⟨P1, 10, none⟩) hP).trans HD.out.1
      have hf' : wr.frozen? ⟨P1, 10, none⟩ = false := (HX.out.bel.frozen (p := ⟨P1, 10, none⟩) hP).trans HD.out.2
      have DC := dconsume_end P1 B0 0 cap (l.length + 2) wr (by omega) (by omega) hd' hf'
      rw [show ((l.length + 2 : Nat) : Int) = (l.length : Int) + 2 from by omega] at DC
      have HDC := Lib.hid DC
      have CV := fun v => out_string ((HX.out.out.setCell (a := ⟨P1, 10, none⟩) hP v).cells (HX.out.row.setCell (a := ⟨P1, 10, none⟩) (by simp; omega) v))
      have HCV := Lib.hid CV
      have HBL := Lib.hid (fun v => (HX.out.bel.mono (Nat.le_of_lt hP)).setCell (p := ⟨P1, 10, none⟩) (Nat.le_refl _) v)
      subst hm1
      clear hkl hk hmc DC CV
      have hcc : (1 : Int) ≤ (c : Int) := by omega
      rcases Nat.eq_or_lt_of_le hc1 with hce | hce
      · subst hce
        go_wp2_with fail
        refine (decode_ascii B0 (1 + k) 1 1 34 (by omega) (by omega) _ hcell).mono ?_
        rintro e w' ⟨rfl, rfl⟩
        go_wp2_with fail
        refine HDC.out.mono ?_
        rintro e w' ⟨rfl, v, rfl⟩
        have cv := HCV.out v
        go_wp2_with fail
        go_ret2
        exact ⟨by rw [HG.out]; rfl, HBL.out v⟩
      · have hce' : (1 : Int) < (c : Int) := by omega
        go_wp2_with fail
        refine (decode_ascii B0 (1 + k) 1 c 34 (by omega) (by omega) _ hcell).mono ?_
        rintro e w' ⟨rfl, rfl⟩
        go_wp2_with fail
        refine HDC.out.mono ?_
        rintro e w' ⟨rfl, v, rfl⟩
        have cv := HCV.out v
        go_wp2_with fail
        go_ret2
        exact ⟨by rw [HG.out]; rfl, HBL.out v⟩

end Go.Proofs.YtdcgoaikfbbneaaGreatDoor.une

