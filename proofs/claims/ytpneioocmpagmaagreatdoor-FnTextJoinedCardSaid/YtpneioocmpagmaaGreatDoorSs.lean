/- laws.FnTextJoined from its row's condition: what is listed, and the walk. -/
import Derived.Test.YtpneioocmpagmaaGreatDoorQm
import Derived.Test.YtpneioocmpagmaaGreatDoorCards
import Derived.Test.YtpneioocmpagmaaGreatDoorTie
import Derived.ProofKit
import Derived.OpenShut
import Derived.LaidMore
import Derived.Lay
import Derived.SevenTiedAt
import Derived.Stop.Joined
import Derived.Stop.LaidErr
import Derived.SliceStrings
import Derived.ChangeSlices
import Derived.Carry
import Derived.SizedLaws
import Derived.Lib.LaidTab
import Derived.Lib.LaidU8T
namespace Go.Proofs.YtpneioocmpagmaaGreatDoor.ts
open Go.ChangeShapes Go.WideShapes Go.ChangeAt Go.RowKit Go.Shelf Go.Lib
open Go.Proofs.YtpneioocmpagmaaGreatDoor.pu Go.Proofs.YtpneioocmpagmaaGreatDoor.tx
set_option linter.unusedVariables false
set_option linter.unusedSimpArgs false

theorem laidMet_drop {P : Program} {w : World} : ∀ (n : Nat) (l : List (String × DataW Unit)), laidMet P l w → laidMet P (l.drop n) w
  | 0, _, h => h
  | _ + 1, [], h => h
  | n + 1, _ :: r, h => laidMet_drop n r h.tail

theorem star : "*" ++ "errors.errorString" = "*errors.errorString" := by decide
theorem rowES (u : TypeId) (h : Tryz.prog.typeName? 3 u = some "*errors.errorString") : u = 254 :=
  typeName_ptr_named (nm := "errors.errorString") (by rw [star]; kernel_rfl) (by kernel_rfl) (by decide) u (by rw [star]; exact h)

theorem errs_of_laid {W : World} (hL : laidMetH Tryz.prog Rows.fnTextJoinedRow.laid W) : Errs W := by
  rw [MakeChecks.laidMetH_plain _ _ _ (by kernel_rfl)] at hL
  have g1 : Tryz.prog.globalNamed "strconv.ErrRange" = some 2 := by kernel_rfl
  have g2 : Tryz.prog.globalNamed "strconv.ErrSyntax" = some 6 := by kernel_rfl
  have t1 : (Tryz.prog.globals[2]?).map (·.type) = some 58 := by kernel_rfl
  have t2 : (Tryz.prog.globals[6]?).map (·.type) = some 58 := by kernel_rfl
  have c1 : Tryz.prog.cellsOf 256 = 1 := by kernel_rfl
  have c2 : Tryz.prog.cellsOf 9 = 1 := by kernel_rfl
  have h1 : laidMet Tryz.prog (("strconv.ErrRange", Rows.laid_strconv_ErrRange) :: Rows.fnTextJoinedRow.laid.drop 11) W := laidMet_drop 10 _ hL
  have h2 : laidMet Tryz.prog (("strconv.ErrSyntax", Rows.laid_strconv_ErrSyntax) :: Rows.fnTextJoinedRow.laid.drop 12) W := laidMet_drop 11 _ hL
  obtain ⟨a0, s0, v0, _, _, _⟩ := laid_sentinel h1 g1 t1 Tryz.underlying58 rowES Tryz.underlying254 Tryz.underlying256 rfl rfl Tryz.underlying9 c1 c2
  obtain ⟨a1, s1, v1, _, _, _⟩ := laid_sentinel h2 g2 t2 Tryz.underlying58 rowES Tryz.underlying254 Tryz.underlying256 rfl rfl Tryz.underlying9 c1 c2
  exact ⟨⟨_, _, by simpa using World.var?_cell g2 v1 0⟩, ⟨_, _, by simpa using World.var?_cell g1 v0 0⟩⟩


def uρ : Ren := ⟨fun n => n, fun | 5 => 5 | 119 => 208 | 138 => 210 | 139 => 211 | n => n, fun | 3 => 3 | 4 => 4 | n => n⟩

theorem uTypes : U8Types Tryz.prog uρ := ⟨Tryz.underlying5, Tryz.underlying208, Tryz.underlying210, Tryz.underlying211⟩
theorem uX1 : Tryz.prog.globalNamed "unicode/utf8.first" = some 3 := by kernel_rfl
theorem uX2 : Tryz.prog.globalNamed "unicode/utf8.acceptRanges" = some 4 := by kernel_rfl
theorem uX3 : (Tryz.prog.globals[3]?).map (·.type) = some 208 := by kernel_rfl
theorem uX4 : (Tryz.prog.globals[4]?).map (·.type) = some 211 := by kernel_rfl
theorem uX5 : Tryz.prog.cellsOf 5 = 1 := by kernel_rfl
theorem uX6 : Tryz.prog.cellsOf 208 = 256 := by kernel_rfl
theorem uX7 : Tryz.prog.cellsOf 210 = 2 := by kernel_rfl
theorem uExtra : U8Extra Tryz.prog uρ := ⟨uX1, uX2, uX3, uX4, uX5, uX6, uX7⟩

theorem first_eq : Rows.laid_unicode_utf8_first = firstData := by kernel_rfl
theorem accept_eq : (Rows.laid_unicode_utf8_acceptRanges : DataW Unit) = acceptData := by kernel_rfl

theorem tabs_of_laid {W : World} (hL : laidMetH Tryz.prog Rows.fnTextJoinedRow.laid W) : Lib.Utf8Tabs 3 4 W := by
  rw [MakeChecks.laidMetH_plain _ _ _ (by kernel_rfl)] at hL
  have h3 := laidMet.reads hL (n := "unicode/utf8.first") (d := Rows.laid_unicode_utf8_first) (List.mem_of_getElem? (i := 16) rfl)
  have h4 := laidMet.reads hL (n := "unicode/utf8.acceptRanges") (d := Rows.laid_unicode_utf8_acceptRanges) (List.mem_of_getElem? (i := 9) rfl)
  rw [first_eq] at h3
  rw [accept_eq] at h4
  exact utf8Tabs_of_readsT uTypes uExtra h3 h4

def dbTab : List Int := [0, 1, 56, 2, 57, 49, 28, 3, 61, 58, 42, 50, 38, 29, 17, 4, 62, 47, 59, 36, 45, 43, 51, 22, 53, 39, 33, 30, 24, 18, 12, 5, 63, 55, 48, 27, 60, 41, 37, 16, 46, 35, 44, 21, 52, 32, 23, 11, 54, 26, 40, 15, 34, 20, 31, 10, 25, 14, 19, 9, 13, 8, 7, 6]

theorem db_eq : (Rows.laid_math_bits_deBruijn64tab : DataW Unit) = tabData .u8 dbTab := by kernel_rfl

theorem db_of_laid {W : World} (hL : laidMetH Tryz.prog Rows.fnTextJoinedRow.laid W) : W.cell? ⟨13, 15, none⟩ = some (.int .u8 4) := by
  rw [MakeChecks.laidMetH_plain _ _ _ (by kernel_rfl)] at hL
  have g1 : Tryz.prog.globalNamed "math/bits.deBruijn64tab" = some 13 := by kernel_rfl
  have t1 : (Tryz.prog.globals[13]?).map (·.type) = some 289 := by kernel_rfl
  have c1 : Tryz.prog.cellsOf 289 = 64 := by kernel_rfl
  have c2 : Tryz.prog.cellsOf 5 = 1 := by kernel_rfl
  have h1 : laidMet Tryz.prog (("math/bits.deBruijn64tab", tabData .u8 dbTab) :: Rows.fnTextJoinedRow.laid.drop 2) W := by
    rw [← db_eq]
    exact laidMet_drop 1 _ hL
  exact (tabIs_of_head g1 t1 Tryz.underlying289 Tryz.underlying5 c2 c1 h1).cell g1 15 (by decide)

theorem DecEnv.below {w w' : World} (h : DecEnv w) (hb : Below w.heap.size w w') : DecEnv w' := ⟨Utf8Tabs_below h.tabs hb, h.errs.below hb⟩
theorem EncEnv.below {w w' : World} (h : EncEnv w) (hb : Below w.heap.size w w') : EncEnv w' := ⟨Utf8Tabs_below h.tabs hb, (hb.cell (tx.cell_lt h.db)).trans h.db⟩

theorem laidOut : laidOutB Tryz.prog = true := by kernel_rfl
theorem cellsStr : Tryz.prog.cellsOf 9 = 1 := by kernel_rfl
theorem cellsU8 : Tryz.prog.cellsOf 5 = 1 := by kernel_rfl
theorem bytesStr : Tryz.prog.bytesOf 9 = 16 := by kernel_rfl

theorem own : ownKnob Tryz.prog.godebug = none := by kernel_rfl

theorem w_layFits (os : Os) : (World.holding Tryz.prog os ⟨#[], #[], []⟩).layFits Tryz.prog Rows.fnTextJoinedRow.laid [] = true := by kernel_rfl
theorem w_layIfaces (os : Os) : (World.holding Tryz.prog os ⟨#[], #[], []⟩).layIfaces Tryz.prog Rows.fnTextJoinedRow.laid (World.laidAll Tryz.prog os Rows.fnTextJoinedRow.laid) = true := by kernel_rfl

set_option maxRecDepth 100000 in
theorem lifted (os : Os) (started : os.Started) (H : Type) (enc : TypeId × Value → H) :
    ReturnsInHanded {} Tryz.checked os 8 .any (fun w args => (Rows.fnTextJoinedSpec.pre enc Tryz.prog Tryz.f8 Rows.fnTextJoinedRow.domain false w args ∧ laidMetH Tryz.prog Rows.fnTextJoinedRow.laid w) ∧ sizedMet enc Tryz.prog Tryz.f8 (OpenSpec.ofChange Rows.fnTextJoinedSpec) false w args)
      (Rows.fnTextJoinedSpec.post enc Tryz.prog Tryz.f8 false true false false) := by
  refine returnsInHanded_of_change_and (C := Tryz.checked) (X := fun w _ => laidMetH Tryz.prog Rows.fnTextJoinedRow.laid w) (fun _ _ _ hh h => h.of_heap hh) own started (by kernel_rfl) Tryz.func8
    (ChangeSpec.witness_shaped (enc := enc) (C := Tryz.checked) (os := os) (X := fun w _ => laidMetH Tryz.prog Rows.fnTextJoinedRow.laid w) false (World.laidAll Tryz.prog os Rows.fnTextJoinedRow.laid) #[.slice none 0 0, .slice none 0 0] 8 (World.laidAll_os _ _ _)
      (World.shaped_of_ZipB (by kernel_rfl) (by kernel_rfl)) (by kernel_rfl) (by kernel_rfl) (by kernel_rfl)
      (by rw [MakeChecks.laidMetH_plain _ _ _ (by kernel_rfl)]; exact laidMet_laidAll _ (w_layFits os) (w_layIfaces os))) ?_
  intro W base args ds gs before hval0 hW hc hsz0 hL _
  have hsz : (DataW.weightsEach Tryz.prog (Tryz.f8.params.toList ++ Rows.fnTextJoinedSpec.plain.varTypes Tryz.prog) (ds ++ gs)).all (· ≤ reachBytes) = true := hsz0
  clear hsz0
  have henv : EncEnv W := ⟨tabs_of_laid hL, db_of_laid hL⟩
  have denv : DecEnv W := ⟨tabs_of_laid hL, errs_of_laid hL⟩
  have hval : ∀ (j : Nat) t v, Tryz.f8.params[j]? = some t → args[j]? = some v → Value.okWide Tryz.prog W .any base t v := hval0
  have hW' := hW
  obtain ⟨p, q, hA0, hV, rfl, _, _⟩ := hW
  have hA : DataW.TrodAll enc Tryz.prog W 0 (fun _ => true) true Tryz.f8.params.toList args.toList ds p := hA0
  rw [Tryz.params8] at hA hval hsz
  obtain ⟨v0, v1, d0, d1, p0, p1, rfl, rfl, rfl, h0, h1⟩ := trodAll_two hA
  obtain ⟨rfl, rfl⟩ := trodVars_none hV
  obtain ⟨a0, n0, c0, rfl⟩ := okWide_slice Tryz.underlying50 (hval 0 50 v0 rfl rfl)
  obtain ⟨a1, n1, c1, rfl⟩ := okWide_slice Tryz.underlying25 (hval 1 25 v1 rfl rfl)
  clear hA0 hval0
  have h0k := h0
  have h1k := h1
  obtain ⟨fuel0, hf0⟩ := h0
  obtain ⟨fuel1, hf1⟩ := h1
  simp only [List.append_nil] at hW'
  have hlt0 : ∀ x ∈ p0, x.block < W.heap.size := fun x hx => hW'.lt x (by simp [hx])
  have hlt1 : ∀ x ∈ p1, x.block < W.heap.size := fun x hx => hW'.lt x (by simp [hx])
  have hback0 : ∀ (W' : World), Below W.heap.size W W' → DataW.Trod enc Tryz.prog W' 0 (fun b => decide (b < W.heap.size)) true 50 (.slice a0 n0 c0) d0 p0 :=
    fun W' hn => Below.trod laidOut (by kernel_rfl) (of_decide_eq_true (by kernel_rfl)) h0k hn hlt0
  have hback1 : ∀ (W' : World), Below W.heap.size W W' → DataW.Trod enc Tryz.prog W' 0 (fun b => decide (b < W.heap.size)) true 25 (.slice a1 n1 c1) d1 p1 :=
    fun W' hn => Below.trod laidOut (by kernel_rfl) (of_decide_eq_true (by kernel_rfl)) h1k hn hlt1
  have hS : ∃ l : List ByteArray, l.length = n0 ∧ l.length ≤ 9223372036854770000 ∧ Strs W a0 l := by
    rcases open_strings Tryz.underlying50 Tryz.underlying9 cellsStr hf0 with ⟨hcs, hx⟩ | ⟨a, len', cap', zs, hcs, _, hl, hm, hz, hx, hcell, hwz⟩
    · simp [Value.cells] at hcs
      obtain ⟨rfl, rfl, rfl⟩ := hcs
      exact ⟨[], rfl, by simp, fun j x hj => by simp at hj⟩
    · simp [Value.cells] at hcs
      obtain ⟨rfl, rfl, rfl⟩ := hcs
      simp only [Prod.mk.injEq] at hx
      obtain ⟨rfl, rfl⟩ := hx
      simp only [if_true] at hz
      have hr : n0 * 16 ≤ 140737488351232 := by
        have := sized_slice hsz (j := 0) (t := 50) (e := 9) rfl rfl Tryz.underlying50
        rw [bytesStr] at this
        simp only [strs, List.length_map, List.length_take, List.length_drop, reachBytes] at this
        omega
      have hlen : (zs.take n0).length = n0 := by simp; omega
      refine ⟨zs.take n0, hlen, by omega, fun j x hj => ⟨a, rfl, ?_⟩⟩
      have hj' : j < n0 := by have := (List.getElem?_eq_some_iff.1 hj).1; omega
      rw [List.getElem?_take, if_pos hj'] at hj
      rw [hcell j (by omega), List.getD_eq_getElem?_getD, hj]
      rfl
  have hI : ∃ zs : List Int, zs.length = n1 ∧ U8s W a1 zs ∧ ∀ z ∈ zs, 0 ≤ z ∧ z < 256 := by
    rcases open_ints Tryz.underlying25 Tryz.underlying5 cellsU8 hf1 with ⟨hcs, hx⟩ | ⟨a, len', cap', zs, hcs, _, hl, hm, hz, hx, hcell, hwz⟩
    · simp [Value.cells] at hcs
      obtain ⟨rfl, rfl, rfl⟩ := hcs
      exact ⟨[], rfl, fun j x hj => by simp at hj, fun z hz => by cases hz⟩
    · simp [Value.cells] at hcs
      obtain ⟨rfl, rfl, rfl⟩ := hcs
      simp only [if_true] at hz
      have hlen : (zs.take n1).length = n1 := by simp; omega
      refine ⟨zs.take n1, hlen, fun j x hj => ⟨a, rfl, ?_⟩, fun z hzm => ?_⟩
      · have hj' : j < n1 := by have := (List.getElem?_eq_some_iff.1 hj).1; omega
        rw [List.getElem?_take, if_pos hj'] at hj
        rw [hcell j (by omega), List.getD_eq_getElem?_getD, hj]
        rfl
      · have := hwz z (List.mem_of_mem_take hzm)
        have h2 : (decide ((0 : Int) ≤ z) && decide (z ≤ 255)) = true := this
        simp at h2
        omega
  obtain ⟨l, rfl, hlm, hst⟩ := hS
  obtain ⟨zs, rfl, hu8, hzr⟩ := hI
  refine (joined_walk a0 a1 l zs c0 c1 hlm W hst hu8 hzr (fun w' hb => ⟨EncEnv.below henv hb, DecEnv.below denv hb⟩)).mono fun e W' ⟨he, hb⟩ => ?_
  subst he
  refine ⟨_, rfl, _, _, _, [], _, [], hW', ?_, trodAll_mk2 (hback0 W' hb) (hback1 W' hb), rfl, hb.frame _, fun h => by cases h⟩
  exact trodAll_mk1 (shut_bool Tryz.underlying4 _)

end Go.Proofs.YtpneioocmpagmaaGreatDoor.ts
