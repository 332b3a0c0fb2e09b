/- The reference's reading of C's escapes: CUnescape. -/
import Derived.Test.YtdcgoaikfbbneaaGreatDoorUp
namespace Go.Proofs.YtdcgoaikfbbneaaGreatDoor.une
open Go.RowKit
set_option linter.unusedVariables false
set_option linter.unusedSimpArgs false

theorem info_u8 : (Tryz.prog.info? 5).map (fun i => (i.zero, i.size, i.bytes)) = some (some (.int .u8 0), 1, 1) := by kernel_rfl

def bv (b : UInt8) : Value := .int .u8 (b.toNat : Int)

/-- A slice of the call's own that holds the bytes g. -/
def Own (w : World) (B : Nat) (v : Value) (g : List UInt8) : Prop := w.ownsRow B 5 1 v g.length (g.map bv)

theorem own_push {w wr w1 : World} {B : Nat} {v v' : Value} {g : List UInt8} {b : UInt8} {c : Int} {o : Obj} (hB : B ≤ wr.heap.size) (hbc : c = (b.toNat : Int)) (hown : Own wr B v g) (hnx : Below B w wr)
    (hown' : w1.ownsRow B 5 1 v' (g.length + 1) (g.map bv ++ [.int .u8 c])) (hgrow : (wr.alloc o).grownBy w1 v.ownBlock) : Own w1 B v' (g ++ [b]) ∧ Below B w w1 := by
  subst hbc
  refine ⟨by unfold Own; simpa [bv] using hown', (hnx.alloc (by omega) o).grown hgrow (by simp; omega) (fun j hj => by have := (World.ownsRow.lt hown j hj).1; omega)⟩

def CuSays (l : List UInt8) (w : World) (e : Ending) (w' : World) : Prop :=
  (∃ (v : Value) (told : Int), e = .returned (.tuple #[v, .int .i64 told]) ∧ (told = 1 → ∃ g, Cu l g ∧ g.length ≤ l.length ∧ Own w' w.heap.size v g) ∧ (told ≠ 1 → v = .slice none 0 0)) ∧ Below w.heap.size w w'

theorem oct_bits : ∀ c < 4, ∀ d < 8, ∀ e < 8, bits .or .u8 (bits .or .u8 ((c * 64 : Nat) : Int) ((d * 8 : Nat) : Int)) ((e : Nat) : Int) = ((c * 64 + d * 8 + e : Nat) : Int) := by decide +kernel

/-- The byte of three digits of eight. -/
theorem octArith {x y z : Nat} (hx : 48 ≤ x ∧ x ≤ 51) (hy : 48 ≤ y ∧ y ≤ 55) (hz : 48 ≤ z ∧ z ≤ 55) :
    bits .or .u8 (bits .or .u8 (IntKind.u8.wrap (IntKind.u8.wrap ((x : Int) - 48) * 64)) (IntKind.u8.wrap (IntKind.u8.wrap ((y : Int) - 48) * 8))) (IntKind.u8.wrap ((z : Int) - 48)) = (((x - 48) * 64 + (y - 48) * 8 + (z - 48) : Nat) : Int) := by
  have h := oct_bits (x - 48) (by omega) (y - 48) (by omega) (z - 48) (by omega)
  have e1 : IntKind.u8.wrap (IntKind.u8.wrap ((x : Int) - 48) * 64) = (((x - 48) * 64 : Nat) : Int) := by simp only [IntKind.wrap_u8]; omega
  have e2 : IntKind.u8.wrap (IntKind.u8.wrap ((y : Int) - 48) * 8) = (((y - 48) * 8 : Nat) : Int) := by simp only [IntKind.wrap_u8]; omega
  have e3 : IntKind.u8.wrap ((z : Int) - 48) = ((z - 48 : Nat) : Int) := by simp only [IntKind.wrap_u8]; omega
  rw [e1, e2, e3]
  exact h

def octByte (x y z : Nat) : UInt8 := UInt8.ofNat ((x - 48) * 64 + (y - 48) * 8 + (z - 48))

theorem octByte_nat {x y z : Nat} (hx : 48 ≤ x ∧ x ≤ 51) (hy : 48 ≤ y ∧ y ≤ 55) (hz : 48 ≤ z ∧ z ≤ 55) : (octByte x y z).toNat = (x - 48) * 64 + (y - 48) * 8 + (z - 48) := by
  unfold octByte
  rw [UInt8.toNat_ofNat']
  omega

theorem oct_cells {n : Int} {b : UInt8} (h : n = (b.toNat : Int)) (W : World) (T : TypeId) : ∀ j u, ([b].map bb)[j]? = some u → (W.alloc (.cells #[.int .u8 n] T)).cell? ((⟨W.heap.size, 0, none⟩ : Addr).add j) = some u := by
  subst h
  intro j u hj
  match j, hj with
  | 0, hj => simp at hj; subst hj; simp [Addr.add, bb]

theorem one_cells (W : World) (v : Value) (T : TypeId) : ∀ j u, [v][j]? = some u → (W.alloc (.cells #[v] T)).cell? ((⟨W.heap.size, 0, none⟩ : Addr).add j) = some u := by
  intro j u hj
  match j, hj with
  | 0, hj => simp at hj; subst hj; simp [Addr.add]
theorem one_u8 (n : Int) : ∀ u ∈ [Value.int .u8 n], u.oneCell' = true := by
  intro u hu; simp at hu; subst hu; rfl
theorem len_ok {n k s : Nat} (h : n ≤ k) (hk : k < s) (hm : s ≤ 140737488355328 / 2) : n + 1 ≤ maxLen := by unfold maxLen; omega
theorem len_ok2 {n k s : Nat} (h : n ≤ k) (hk : k < s) (hm : s ≤ 140737488355328 / 2) : (n + 1) * 1 ≤ 140737488355328 := by omega
theorem len_ok3 {n k s : Nat} (h : n ≤ k) (hk : k < s) (hm : s ≤ 140737488355328 / 2) : n + 1 ≤ 140737488355328 := by omega
theorem base_ok {w wr : World} (h : w.heap.size ≤ wr.heap.size) (o : Obj) : w.heap.size ≤ (wr.alloc o).heap.size := by simp; omega

set_option maxHeartbeats 8000000 in
set_option maxRecDepth 100000 in
theorem cunescape (t : ByteArray) (hmax : t.size ≤ 140737488355328 / 2) (w : World) :
    Calls Tryz.prog 15 #[.string t] w fun e w' => CuSays t.data.toList w e w' := by
  obtain ⟨i0, hi, hz0, hz1, hz2⟩ := info_parts info_u8
  have HI := Lib.hid (And.intro hi (And.intro hz0 (And.intro hz1 hz2)))
  clear hi hz0 hz1 hz2
  have HL := Lib.hid (show t.data.toList.length = t.size by simp)
  go_enter Tryz.func15, Tryz.ntmps15
  go_wp2_with fail
  go_loopw [4, 5] (fun v vi wr => ∃ (k : Nat) (g : List UInt8), vi = .int .i64 k ∧ k ≤ t.size ∧ g.length ≤ k ∧ Own wr w.heap.size v g ∧ Far t.data.toList k g ∧ Below w.heap.size w wr) (fun _ vi _ => t.size - (intOf vi).toNat)
  case atStart => exact ⟨0, [], rfl, by omega, Nat.le_refl _, World.ownsRow_nil _ _ _ _, far_nil _, Below.refl _ _⟩
  case round =>
    obtain ⟨k, g, rfl, hk, hgk, hown, hfar, hnx⟩ := hrel
    have HX := Lib.hid (And.intro hown (And.intro hfar hnx))
    have hsz := hnx.size
    clear hown hfar hnx
    by_cases hkn : k < t.size
    · have gk := getD_get t k hkn
      by_cases ho : Ok (t.data.toList.getD k 0).toNat
      · have HO := Lib.hid ho
        have HG := Lib.hid gk
        rw [gk] at ho
        unfold Ok at ho
        have h32 : (32 : Int) ≤ (t[k].toNat : Int) := by omega
        have h127 : (t[k].toNat : Int) < 127 := by omega
        have h34 : ((t[k].toNat : Int) == 34) = false := by rw [beq_eq_false_iff_ne]; omega
        have h39 : ((t[k].toNat : Int) == 39) = false := by rw [beq_eq_false_iff_ne]; omega
        have h92 : ((t[k].toNat : Int) == 92) = false := by rw [beq_eq_false_iff_ne]; omega
        clear ho gk
        go_wp2_with (first | (at_builtin; refine wpList_append_own _ rfl (.tmp 32) (.tmp 34) 38 rfl w.heap.size 5 i0 (.int .u8 0) 1 1 Tryz.underlying38 HI.out.1 HI.out.2.1 HI.out.2.2.1 HI.out.2.2.2 rfl (by decide) _ g.length (g.map bv) rfl (HX.out.1.alloc _) ⟨wr.heap.size, 0, none⟩ 1 1 [.int .u8 (t[k].toNat : Int)] rfl rfl (one_cells _ _ _) (one_u8 _) (len_ok hgk hkn hmax) (len_ok2 hgk hkn hmax) (base_ok hsz _) ?_; intro v' w1 hown' hgrow _; refine Hid.out ?_))
        refine Lib.hid ?_
        have P := own_push (b := t.data.toList.getD k 0) (by omega) (by rw [HG.out]) HX.out.1 HX.out.2.2 hown' hgrow
        have P := Lib.hid P
        clear hown' hgrow
        go_wp2_with fail
        exact ⟨⟨k + 1, g ++ [t.data.toList.getD k 0], by go_num, by omega, by simp; omega, P.out.1, far_plain HX.out.2.1 (by rw [HL.out]; exact hkn) HO.out, P.out.2⟩, by simp [intOf]; omega⟩
      · by_cases h92 : (t.data.toList.getD k 0).toNat = 92
        · have HO := Lib.hid h92
          rw [gk] at h92
          clear gk ho
          have h32 : (32 : Int) ≤ (t[k].toNat : Int) := by omega
          have h127 : (t[k].toNat : Int) < 127 := by omega
          have h34 : ((t[k].toNat : Int) == 34) = false := by rw [beq_eq_false_iff_ne]; omega
          have h39 : ((t[k].toNat : Int) == 39) = false := by rw [beq_eq_false_iff_ne]; omega
          have h92' : ((t[k].toNat : Int) == 92) = true := by rw [h92]; rfl
          clear h92
          by_cases hk1 : k + 1 < t.size
          · have hne1 : ((k : Int) + 1 == (t.size : Int)) = false := by rw [beq_eq_false_iff_ne]; omega
            have gk1 := getD_get t (k + 1) hk1
            by_cases d110 : t[k + 1].toNat = 110
            · have q1 : ((t[k + 1].toNat : Int) == 110) = true := by rw [d110]; rfl
              have HD := Lib.hid (show (t.data.toList.getD (k + 1) 0).toNat = 110 by rw [gk1]; exact d110)
              clear gk1
              go_wp2_with (first | (at_builtin; refine wpList_append_own _ rfl (.tmp 48) (.tmp 49) 38 rfl w.heap.size 5 i0 (.int .u8 0) 1 1 Tryz.underlying38 HI.out.1 HI.out.2.1 HI.out.2.2.1 HI.out.2.2.2 rfl (by decide) _ g.length (g.map bv) rfl (HX.out.1.alloc _) ⟨wr.heap.size, 0, none⟩ 1 1 [.int .u8 (10)] rfl rfl (one_cells _ _ _) (one_u8 _) (len_ok hgk hkn hmax) (len_ok2 hgk hkn hmax) (base_ok hsz _) ?_; intro v' w1 hown' hgrow _; refine Hid.out ?_))
              refine Lib.hid ?_
              have P := own_push (b := 10) (by omega) (by rfl) HX.out.1 HX.out.2.2 hown' hgrow
              have P := Lib.hid P
              clear hown' hgrow
              go_wp2_with fail
              exact ⟨⟨k + 2, g ++ [10], by go_num, by omega, by simp; omega, P.out.1, far_esc HX.out.2.1 (by rw [HL.out]; exact hk1) HO.out (Or.inl ⟨HD.out, rfl⟩), P.out.2⟩, by simp [intOf]; omega⟩
            · have q1 : ((t[k + 1].toNat : Int) == 110) = false := by rw [beq_eq_false_iff_ne]; omega
              by_cases d114 : t[k + 1].toNat = 114
              · have q2 : ((t[k + 1].toNat : Int) == 114) = true := by rw [d114]; rfl
                have HD := Lib.hid (show (t.data.toList.getD (k + 1) 0).toNat = 114 by rw [gk1]; exact d114)
                clear gk1
                go_wp2_with (first | (at_builtin; refine wpList_append_own _ rfl (.tmp 54) (.tmp 55) 38 rfl w.heap.size 5 i0 (.int .u8 0) 1 1 Tryz.underlying38 HI.out.1 HI.out.2.1 HI.out.2.2.1 HI.out.2.2.2 rfl (by decide) _ g.length (g.map bv) rfl (HX.out.1.alloc _) ⟨wr.heap.size, 0, none⟩ 1 1 [.int .u8 (13)] rfl rfl (one_cells _ _ _) (one_u8 _) (len_ok hgk hkn hmax) (len_ok2 hgk hkn hmax) (base_ok hsz _) ?_; intro v' w1 hown' hgrow _; refine Hid.out ?_))
                refine Lib.hid ?_
                have P := own_push (b := 13) (by omega) (by rfl) HX.out.1 HX.out.2.2 hown' hgrow
                have P := Lib.hid P
                clear hown' hgrow
                go_wp2_with fail
                exact ⟨⟨k + 2, g ++ [13], by go_num, by omega, by simp; omega, P.out.1, far_esc HX.out.2.1 (by rw [HL.out]; exact hk1) HO.out (Or.inr (Or.inl ⟨HD.out, rfl⟩)), P.out.2⟩, by simp [intOf]; omega⟩
              · have q2 : ((t[k + 1].toNat : Int) == 114) = false := by rw [beq_eq_false_iff_ne]; omega
                by_cases d116 : t[k + 1].toNat = 116
                · have q3 : ((t[k + 1].toNat : Int) == 116) = true := by rw [d116]; rfl
                  have HD := Lib.hid (show (t.data.toList.getD (k + 1) 0).toNat = 116 by rw [gk1]; exact d116)
                  clear gk1
                  go_wp2_with (first | (at_builtin; refine wpList_append_own _ rfl (.tmp 60) (.tmp 61) 38 rfl w.heap.size 5 i0 (.int .u8 0) 1 1 Tryz.underlying38 HI.out.1 HI.out.2.1 HI.out.2.2.1 HI.out.2.2.2 rfl (by decide) _ g.length (g.map bv) rfl (HX.out.1.alloc _) ⟨wr.heap.size, 0, none⟩ 1 1 [.int .u8 (9)] rfl rfl (one_cells _ _ _) (one_u8 _) (len_ok hgk hkn hmax) (len_ok2 hgk hkn hmax) (base_ok hsz _) ?_; intro v' w1 hown' hgrow _; refine Hid.out ?_))
                  refine Lib.hid ?_
                  have P := own_push (b := 9) (by omega) (by rfl) HX.out.1 HX.out.2.2 hown' hgrow
                  have P := Lib.hid P
                  clear hown' hgrow
                  go_wp2_with fail
                  exact ⟨⟨k + 2, g ++ [9], by go_num, by omega, by simp; omega, P.out.1, far_esc HX.out.2.1 (by rw [HL.out]; exact hk1) HO.out (Or.inr (Or.inr (Or.inl ⟨HD.out, rfl⟩))), P.out.2⟩, by simp [intOf]; omega⟩
                · have q3 : ((t[k + 1].toNat : Int) == 116) = false := by rw [beq_eq_false_iff_ne]; omega
                  by_cases hq : t[k + 1].toNat = 34 ∨ t[k + 1].toNat = 39 ∨ t[k + 1].toNat = 92
                  · have HD := Lib.hid (show (t.data.toList.getD (k + 1) 0).toNat = 34 ∨ (t.data.toList.getD (k + 1) 0).toNat = 39 ∨ (t.data.toList.getD (k + 1) 0).toNat = 92 by rw [gk1]; exact hq)
                    have HG := Lib.hid gk1
                    have q4 : ((t[k + 1].toNat : Int) == 34) = true ∨ (((t[k + 1].toNat : Int) == 34) = false ∧ ((t[k + 1].toNat : Int) == 39) = true) ∨ (((t[k + 1].toNat : Int) == 34) = false ∧ ((t[k + 1].toNat : Int) == 39) = false ∧ ((t[k + 1].toNat : Int) == 92) = true) := by
                      simp only [beq_iff_eq, beq_eq_false_iff_ne]; omega
                    clear gk1 hq d110 d114 d116
                    rcases q4 with q4 | ⟨q4, q5⟩ | ⟨q4, q5, q6⟩
                    all_goals
                      go_wp2_with (first | (at_builtin; refine wpList_append_own _ rfl (.tmp 74) (.tmp 76) 38 rfl w.heap.size 5 i0 (.int .u8 0) 1 1 Tryz.underlying38 HI.out.1 HI.out.2.1 HI.out.2.2.1 HI.out.2.2.2 rfl (by decide) _ g.length (g.map bv) rfl (HX.out.1.alloc _) ⟨wr.heap.size, 0, none⟩ 1 1 [.int .u8 (t[k + 1].toNat : Int)] rfl rfl (one_cells _ _ _) (one_u8 _) (len_ok hgk hkn hmax) (len_ok2 hgk hkn hmax) (base_ok hsz _) ?_; intro v' w1 hown' hgrow _; refine Hid.out ?_))
                      refine Lib.hid ?_
                      have P := own_push (b := t.data.toList.getD (k + 1) 0) (by omega) (by rw [HG.out]) HX.out.1 HX.out.2.2 hown' hgrow
                      have P := Lib.hid P
                      clear hown' hgrow
                      go_wp2_with fail
                      exact ⟨⟨k + 2, g ++ [t.data.toList.getD (k + 1) 0], by go_num, by omega, by simp; omega, P.out.1, far_esc HX.out.2.1 (by rw [HL.out]; exact hk1) HO.out (Or.inr (Or.inr (Or.inr ⟨HD.out, rfl⟩))), P.out.2⟩, by simp [intOf]; omega⟩
                  · have q4 : ((t[k + 1].toNat : Int) == 34) = false := by rw [beq_eq_false_iff_ne]; omega
                    have q5 : ((t[k + 1].toNat : Int) == 39) = false := by rw [beq_eq_false_iff_ne]; omega
                    have q6 : ((t[k + 1].toNat : Int) == 92) = false := by rw [beq_eq_false_iff_ne]; omega
                    clear hq d110 d114 d116
                    by_cases d48 : (48 : Int) ≤ (t[k + 1].toNat : Int)
                    · by_cases d51 : (t[k + 1].toNat : Int) ≤ 51
                      · by_cases hk3 : k + 3 < t.size
                        · have hk3' : (k : Int) + 1 + 2 < (t.size : Int) := by omega
                          have gk2 := getD_get t (k + 1 + 1) (by omega)
                          have gk3 := getD_get t (k + 1 + 2) (by omega)
                          have HG := Lib.hid (And.intro gk1 (And.intro gk2 gk3))
                          clear gk1 gk2 gk3
                          have hk2 : k + 1 + 1 < t.size := by omega
                          have hk3n : k + 1 + 2 < t.size := by omega
                          by_cases e48 : (48 : Int) ≤ (t[k + 1 + 1].toNat : Int)
                          · by_cases e55 : (t[k + 1 + 1].toNat : Int) ≤ 55
                            · by_cases f48 : (48 : Int) ≤ (t[k + 1 + 2].toNat : Int)
                              · by_cases f55 : (t[k + 1 + 2].toNat : Int) ≤ 55
                                · have gk2' : t.data.toList.getD (k + 2) 0 = t[k + 1 + 1] := HG.out.2.1
                                  have gk3' : t.data.toList.getD (k + 3) 0 = t[k + 1 + 2] := HG.out.2.2
                                  have FO := Lib.hid (far_oct (b := octByte t[k + 1].toNat t[k + 1 + 1].toNat t[k + 1 + 2].toNat) HX.out.2.1 (by rw [HL.out]; omega) HO.out (by rw [HG.out.1]; omega) (by rw [gk2']; omega) (by rw [gk3']; omega) (by rw [HG.out.1, gk2', gk3']; exact octByte_nat (by omega) (by omega) (by omega)))
                                  clear gk2' gk3'
                                  have HK := Lib.hid ((octArith (x := t[k + 1].toNat) (y := t[k + 1 + 1].toNat) (z := t[k + 1 + 2].toNat) (by omega) (by omega) (by omega)).trans (by rw [octByte_nat (by omega) (by omega) (by omega)] : _ = ((octByte t[k + 1].toNat t[k + 1 + 1].toNat t[k + 1 + 2].toNat).toNat : Int)))
                                  have hw1 : IntKind.i64.wrap ((k : Int) + 1 + 1) = ((k + 1 + 1 : Nat) : Int) := by rw [IntKind.wrap_i64]; omega
                                  have hw2 : IntKind.i64.wrap ((k : Int) + 1 + 2) = ((k + 1 + 2 : Nat) : Int) := by rw [IntKind.wrap_i64]; omega
                                  have bI0 : (0 : Int) ≤ (k : Int) + 1 ∧ (k : Int) + 1 < (t.size : Int) := by omega
                                  have bI1 : (0 : Int) ≤ (k : Int) + 1 + 1 ∧ (k : Int) + 1 + 1 < (t.size : Int) := by omega
                                  have bI2 : (0 : Int) ≤ (k : Int) + 1 + 2 ∧ (k : Int) + 1 + 2 < (t.size : Int) := by omega
                                  go_wp2_with (first | go_meet | fail)
                                  go_region_law (refine step_push rfl (.tmp 120) (.tmp 137) rfl w.heap.size _ g (by simp [Act.eval, Act.put]) (.inr (HX.out.1.drew.alloc _)) ⟨wr.heap.size, 0, none⟩ 1 1 [octByte t[k + 1].toNat t[k + 1 + 1].toNat t[k + 1 + 2].toNat] (by simp [Act.eval, Act.put]) rfl (oct_cells HK.out _ _) (Nat.le_refl 1) (len_ok3 hgk hkn hmax) (base_ok hsz _) w (HX.out.2.2.drew.alloc hsz _) ?_; intro v' w1 hown' hb')
                                  all_goals
                                    have P := Lib.hid (And.intro hown' hb')
                                    clear hown' hb'
                                    go_wp2_with fail
                                    exact ⟨⟨k + 4, g ++ [octByte t[k + 1].toNat t[k + 1 + 1].toNat t[k + 1 + 2].toNat], by go_num, by omega, by simp; omega, P.out.1, FO.out, P.out.2⟩, by simp [intOf]; omega⟩
                                · have f55' : (55 : Int) < (t[k + 1 + 2].toNat : Int) := by omega
                                  go_wp2_with (first | go_meet | fail)
                                  go_ret2
                                  exact ⟨⟨_, _, rfl, fun h => (by cases h), fun _ => rfl⟩, HX.out.2.2⟩
                              · have f48' : (t[k + 1 + 2].toNat : Int) < 48 := by omega
                                go_wp2_with (first | go_meet | fail)
                                go_ret2
                                exact ⟨⟨_, _, rfl, fun h => (by cases h), fun _ => rfl⟩, HX.out.2.2⟩
                            · have e55' : (55 : Int) < (t[k + 1 + 1].toNat : Int) := by omega
                              go_wp2_with (first | go_meet | fail)
                              go_ret2
                              exact ⟨⟨_, _, rfl, fun h => (by cases h), fun _ => rfl⟩, HX.out.2.2⟩
                          · have e48' : (t[k + 1 + 1].toNat : Int) < 48 := by omega
                            go_wp2_with (first | go_meet | fail)
                            go_ret2
                            exact ⟨⟨_, _, rfl, fun h => (by cases h), fun _ => rfl⟩, HX.out.2.2⟩
                        · have hk3' : (t.size : Int) ≤ (k : Int) + 1 + 2 := by omega
                          clear gk1
                          go_wp2_with (first | go_meet | fail)
                          go_ret2
                          exact ⟨⟨_, _, rfl, fun h => (by cases h), fun _ => rfl⟩, HX.out.2.2⟩
                      · have d51' : (51 : Int) < (t[k + 1].toNat : Int) := by omega
                        clear gk1
                        go_wp2_with (first | go_meet | fail)
                        go_ret2
                        exact ⟨⟨_, _, rfl, fun h => (by cases h), fun _ => rfl⟩, HX.out.2.2⟩
                    · have d48' : (t[k + 1].toNat : Int) < 48 := by omega
                      clear gk1
                      go_wp2_with (first | go_meet | fail)
                      go_ret2
                      exact ⟨⟨_, _, rfl, fun h => (by cases h), fun _ => rfl⟩, HX.out.2.2⟩
          · have hne1 : ((k : Int) + 1 == (t.size : Int)) = true := by rw [beq_iff_eq]; omega
            go_wp2_with (first | go_meet | fail)
            go_ret2
            exact ⟨⟨_, _, rfl, fun h => (by cases h), fun _ => rfl⟩, HX.out.2.2⟩
        · have hn := not_ok ho
          rw [gk] at hn h92
          clear gk ho
          have hc : (t[k].toNat : Int) < 32 ∨ ((32 : Int) ≤ (t[k].toNat : Int) ∧ (127 : Int) ≤ (t[k].toNat : Int)) ∨ ((32 : Int) ≤ (t[k].toNat : Int) ∧ (t[k].toNat : Int) < 127 ∧ ((t[k].toNat : Int) == 34) = true) ∨
              ((32 : Int) ≤ (t[k].toNat : Int) ∧ (t[k].toNat : Int) < 127 ∧ ((t[k].toNat : Int) == 34) = false ∧ ((t[k].toNat : Int) == 39) = true) := by
            simp only [beq_iff_eq, beq_eq_false_iff_ne]
            omega
          clear hn h92
          rcases hc with h0 | ⟨h0, h1⟩ | ⟨h0, h1, h2⟩ | ⟨h0, h1, h2, h3⟩
          all_goals
            go_wp2_with (first | go_meet | fail)
            go_ret2
            exact ⟨⟨_, _, rfl, fun h => (by cases h), fun _ => rfl⟩, HX.out.2.2⟩
    · go_wp2_with fail
      go_ret2
      obtain rfl : k = t.size := by omega
      exact ⟨⟨_, _, rfl, fun _ => ⟨g, far_end HX.out.2.1 (by rw [HL.out]; exact Nat.le_refl _), by rw [HL.out]; exact hgk, HX.out.1⟩, fun h => absurd rfl h⟩, HX.out.2.2⟩

end Go.Proofs.YtdcgoaikfbbneaaGreatDoor.une
