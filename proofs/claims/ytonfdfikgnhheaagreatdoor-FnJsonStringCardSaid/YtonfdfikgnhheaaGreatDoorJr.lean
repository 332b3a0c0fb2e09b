/- laws.FnJsonString returns true for every text, and leaves its argument as it was; the listed variables hold what the program's text lays. -/
import Derived.Test.YtonfdfikgnhheaaGreatDoorJm
import Derived.Test.YtonfdfikgnhheaaGreatDoorJq
import Derived.Test.YtonfdfikgnhheaaGreatDoorCards
import Derived.Test.YtonfdfikgnhheaaGreatDoorTie
import Derived.ProofKit
import Derived.OpenShut
import Derived.LaidMore
import Derived.Lay
import Derived.SevenTiedAt
import Derived.Stop.Joined
import Derived.Stop.LaidErr
import Derived.Lib.LaidTab
import Derived.Lib.LaidU8T
namespace Go.Proofs.YtonfdfikgnhheaaGreatDoor.js
open Go.ChangeShapes Go.WideShapes Go.ChangeAt Go.RowKit Go.Shelf Go.Lib
open Go.ChangeMaps (open_string shut_string)
open Go.Proofs.YtonfdfikgnhheaaGreatDoor.pu

theorem laidMet_drop {P : Program} {w : World} : ∀ (n : Nat) (l : List (String × DataW Unit)), laidMet P l w → laidMet P (l.drop n) w
  | 0, _, h => h
  | _ + 1, [], h => h
  | n + 1, _ :: r, h => laidMet_drop n r h.tail

theorem star : "*" ++ "errors.errorString" = "*errors.errorString" := by decide
theorem rowES (u : TypeId) (h : Tryz.prog.typeName? 3 u = some "*errors.errorString") : u = 273 :=
  typeName_ptr_named (nm := "errors.errorString") (by rw [star]; kernel_rfl) (by kernel_rfl) (by decide) u (by rw [star]; exact h)

theorem errs_of_laid {W : World} (hL : laidMetH Tryz.prog Rows.fnJsonStringRow.laid W) : Errs W := by
  rw [MakeChecks.laidMetH_plain _ _ _ (by kernel_rfl)] at hL
  have g1 : Tryz.prog.globalNamed "strconv.ErrRange" = some 4 := by kernel_rfl
  have g2 : Tryz.prog.globalNamed "strconv.ErrSyntax" = some 3 := by kernel_rfl
  have t1 : (Tryz.prog.globals[4]?).map (·.type) = some 66 := by kernel_rfl
  have t2 : (Tryz.prog.globals[3]?).map (·.type) = some 66 := by kernel_rfl
  have c1 : Tryz.prog.cellsOf 275 = 1 := by kernel_rfl
  have c2 : Tryz.prog.cellsOf 9 = 1 := by kernel_rfl
  have h1 : laidMet Tryz.prog (("strconv.ErrRange", Rows.laid_strconv_ErrRange) :: Rows.fnJsonStringRow.laid.drop 6) W := laidMet_drop 5 _ hL
  have h2 : laidMet Tryz.prog (("strconv.ErrSyntax", Rows.laid_strconv_ErrSyntax) :: Rows.fnJsonStringRow.laid.drop 7) W := laidMet_drop 6 _ hL
  obtain ⟨a0, s0, v0, _, _, _⟩ := laid_sentinel h1 g1 t1 Tryz.underlying66 rowES Tryz.underlying273 Tryz.underlying275 rfl rfl Tryz.underlying9 c1 c2
  obtain ⟨a1, s1, v1, _, _, _⟩ := laid_sentinel h2 g2 t2 Tryz.underlying66 rowES Tryz.underlying273 Tryz.underlying275 rfl rfl Tryz.underlying9 c1 c2
  exact ⟨⟨_, _, by simpa using World.var?_cell g2 v1 0⟩, ⟨_, _, by simpa using World.var?_cell g1 v0 0⟩⟩

def uρ : Ren := ⟨fun n => n, fun | 5 => 5 | 119 => 267 | 138 => 269 | 139 => 270 | n => n, fun | 3 => 8 | 4 => 9 | n => n⟩

theorem uTypes : U8Types Tryz.prog uρ := ⟨Tryz.underlying5, Tryz.underlying267, Tryz.underlying269, Tryz.underlying270⟩
theorem uX1 : Tryz.prog.globalNamed "unicode/utf8.first" = some 8 := by kernel_rfl
theorem uX2 : Tryz.prog.globalNamed "unicode/utf8.acceptRanges" = some 9 := by kernel_rfl
theorem uX3 : (Tryz.prog.globals[8]?).map (·.type) = some 267 := by kernel_rfl
theorem uX4 : (Tryz.prog.globals[9]?).map (·.type) = some 270 := by kernel_rfl
theorem uX5 : Tryz.prog.cellsOf 5 = 1 := by kernel_rfl
theorem uX6 : Tryz.prog.cellsOf 267 = 256 := by kernel_rfl
theorem uX7 : Tryz.prog.cellsOf 269 = 2 := by kernel_rfl
theorem uExtra : U8Extra Tryz.prog uρ := ⟨uX1, uX2, uX3, uX4, uX5, uX6, uX7⟩

theorem first_eq : Rows.laid_unicode_utf8_first = firstData := by kernel_rfl
theorem accept_eq : (Rows.laid_unicode_utf8_acceptRanges : DataW Unit) = acceptData := by kernel_rfl

theorem tabs_of_laid {W : World} (hL : laidMetH Tryz.prog Rows.fnJsonStringRow.laid W) : Lib.Utf8Tabs 8 9 W := by
  rw [MakeChecks.laidMetH_plain _ _ _ (by kernel_rfl)] at hL
  have h3 := laidMet.reads hL (n := "unicode/utf8.first") (d := Rows.laid_unicode_utf8_first) (List.mem_of_getElem? (i := 11) rfl)
  have h4 := laidMet.reads hL (n := "unicode/utf8.acceptRanges") (d := Rows.laid_unicode_utf8_acceptRanges) (List.mem_of_getElem? (i := 4) rfl)
  rw [first_eq] at h3
  rw [accept_eq] at h4
  exact utf8Tabs_of_readsT uTypes uExtra h3 h4

def dbTab : List Int := [0, 1, 56, 2, 57, 49, 28, 3, 61, 58, 42, 50, 38, 29, 17, 4, 62, 47, 59, 36, 45, 43, 51, 22, 53, 39, 33, 30, 24, 18, 12, 5, 63, 55, 48, 27, 60, 41, 37, 16, 46, 35, 44, 21, 52, 32, 23, 11, 54, 26, 40, 15, 34, 20, 31, 10, 25, 14, 19, 9, 13, 8, 7, 6]

theorem db_eq : (Rows.laid_math_bits_deBruijn64tab : DataW Unit) = tabData .u8 dbTab := by kernel_rfl

theorem db_of_laid {W : World} (hL : laidMetH Tryz.prog Rows.fnJsonStringRow.laid W) : W.cell? ⟨16, 15, none⟩ = some (.int .u8 4) := by
  rw [MakeChecks.laidMetH_plain _ _ _ (by kernel_rfl)] at hL
  have g1 : Tryz.prog.globalNamed "math/bits.deBruijn64tab" = some 16 := by kernel_rfl
  have t1 : (Tryz.prog.globals[16]?).map (·.type) = some 312 := by kernel_rfl
  have c1 : Tryz.prog.cellsOf 312 = 64 := by kernel_rfl
  have c2 : Tryz.prog.cellsOf 5 = 1 := by kernel_rfl
  have h1 : laidMet Tryz.prog (("math/bits.deBruijn64tab", tabData .u8 dbTab) :: Rows.fnJsonStringRow.laid.drop 2) W := by
    rw [← db_eq]
    exact laidMet_drop 1 _ hL
  exact (tabIs_of_head g1 t1 Tryz.underlying312 Tryz.underlying5 c2 c1 h1).cell g1 15 (by decide)

theorem bad_of_laid {W : World} (hL : laidMetH Tryz.prog Rows.fnJsonStringRow.laid W) : ∃ T p, W.cell? ⟨2, 0, none⟩ = some (.iface T p) := by
  rw [MakeChecks.laidMetH_plain _ _ _ (by kernel_rfl)] at hL
  have g1 : Tryz.prog.globalNamed "pub-codicil/pub/protobuf/inner/encoding/json.errInvalidUTF8" = some 2 := by kernel_rfl
  have t1 : (Tryz.prog.globals[2]?).map (·.type) = some 66 := by kernel_rfl
  have c1 : Tryz.prog.cellsOf 275 = 1 := by kernel_rfl
  have c2 : Tryz.prog.cellsOf 9 = 1 := by kernel_rfl
  have h1 : laidMet Tryz.prog (("pub-codicil/pub/protobuf/inner/encoding/json.errInvalidUTF8", Rows.laid_pub_codicil_pub_protobuf_inner_encoding_json_errInvalidUTF8) :: Rows.fnJsonStringRow.laid.drop 9) W := laidMet_drop 8 _ hL
  obtain ⟨a0, s0, v0, _, _, _⟩ := laid_sentinel h1 g1 t1 Tryz.underlying66 rowES Tryz.underlying273 Tryz.underlying275 rfl rfl Tryz.underlying9 c1 c2
  exact ⟨_, _, by simpa using World.var?_cell g1 v0 0⟩

theorem cell_lt {w : World} {b o : Nat} {v : Value} (h : w.cell? ⟨b, o, none⟩ = some v) : b < w.heap.size := by
  unfold World.cell? at h
  rcases Nat.lt_or_ge b w.heap.size with hl | hl
  · exact hl
  · rw [Array.getElem?_eq_none_iff.2 hl] at h; simp at h

theorem EncEnv.below {w w' : World} (h : EncEnv w) (hb : Below w.heap.size w w') : EncEnv w' :=
  ⟨Utf8Tabs_below h.tabs hb, (hb.cell (cell_lt h.db)).trans h.db, by obtain ⟨T, p, e⟩ := h.err; exact ⟨T, p, (hb.cell (cell_lt e)).trans e⟩⟩
theorem DecEnv.below {w w' : World} (h : DecEnv w) (hb : Below w.heap.size w w') : DecEnv w' := ⟨Utf8Tabs_below h.tabs hb, h.errs.below hb⟩

theorem own : ownKnob Tryz.prog.godebug = none := by kernel_rfl

theorem w_layFits (os : Os) : (World.holding Tryz.prog os ⟨#[], #[], []⟩).layFits Tryz.prog Rows.fnJsonStringRow.laid [] = true := by kernel_rfl
theorem w_layIfaces (os : Os) : (World.holding Tryz.prog os ⟨#[], #[], []⟩).layIfaces Tryz.prog Rows.fnJsonStringRow.laid (World.laidAll Tryz.prog os Rows.fnJsonStringRow.laid) = true := by kernel_rfl

set_option maxRecDepth 100000 in
theorem lifted (os : Os) (started : os.Started) (H : Type) (enc : TypeId × Value → H) :
    ReturnsInHanded {} Tryz.checked os 5 .any (fun w args => (Rows.fnJsonStringSpec.pre enc Tryz.prog Tryz.f5 Rows.fnJsonStringRow.domain false w args ∧ laidMetH Tryz.prog Rows.fnJsonStringRow.laid w) ∧ sizedMet enc Tryz.prog Tryz.f5 (OpenSpec.ofChange Rows.fnJsonStringSpec) false w args)
      (Rows.fnJsonStringSpec.post enc Tryz.prog Tryz.f5 false true false false) := by
  refine returnsInHanded_of_change_and (C := Tryz.checked) (X := fun w _ => laidMetH Tryz.prog Rows.fnJsonStringRow.laid w) (fun _ _ _ hh h => h.of_heap hh) own started (by kernel_rfl) Tryz.func5
    (ChangeSpec.witness_shaped (enc := enc) (C := Tryz.checked) (os := os) (X := fun w _ => laidMetH Tryz.prog Rows.fnJsonStringRow.laid w) false (World.laidAll Tryz.prog os Rows.fnJsonStringRow.laid) #[.string ⟨#[]⟩] 8 (World.laidAll_os _ _ _)
      (World.shaped_of_ZipB (by kernel_rfl) (by kernel_rfl)) (by kernel_rfl) (by kernel_rfl) (by kernel_rfl)
      (by rw [MakeChecks.laidMetH_plain _ _ _ (by kernel_rfl)]; exact laidMet_laidAll _ (w_layFits os) (w_layIfaces os))) ?_
  intro W base args ds gs before hval0 hW hc _ hL _
  have henv : EncEnv W := ⟨tabs_of_laid hL, db_of_laid hL, bad_of_laid hL⟩
  have denv : DecEnv W := ⟨tabs_of_laid hL, errs_of_laid hL⟩
  have hval : ∀ (j : Nat) t v, Tryz.f5.params[j]? = some t → args[j]? = some v → Value.okWide Tryz.prog W .any base t v := hval0
  have hW' := hW
  obtain ⟨p, q, hA0, hV, rfl, _, _⟩ := hW
  have hA : DataW.TrodAll enc Tryz.prog W 0 (fun _ => true) true Tryz.f5.params.toList args.toList ds p := hA0
  rw [Tryz.params5] at hA hval
  obtain ⟨v0, d0, rfl, rfl, h0⟩ := trodAll_one hA
  obtain ⟨rfl, rfl⟩ := trodVars_none hV
  obtain ⟨s, rfl, rfl, rfl, hs⟩ := open_string Tryz.underlying9 (hval 0 9 v0 rfl rfl) h0
  clear hA0
  simp only [List.append_nil] at hW'
  refine (law_all s W (fun w' hb => henv.below hb) (fun w' hb => denv.below hb)).mono fun e W' ⟨he, hb⟩ => ?_
  subst he
  refine ⟨_, rfl, _, _, _, [], [], [], hW', ?_, ?_, rfl, hb.frame _, fun h => by cases h⟩
  · exact trodAll_mk1 (shut_bool Tryz.underlying4 _)
  · exact trodAll_mk1 (shut_string Tryz.underlying9 hs)

theorem closed : joinedFacts Tryz.pinned.checked.prog 5 Tryz.f5 Rows.fnJsonStringSpec Rows.fnJsonStringRow = true := by
  unfold joinedFacts
  exact andt (andt (andt (andt (andt (andt (andt (andt (andt (andt (andt (andt (andt (andt (andt (andt (andt (andt (andt (andt (andt (andt (andt (andt (andt (andt (andt (andt (andt (andt (andt (by kernel_rfl) (by kernel_rfl)) (by kernel_rfl)) (by kernel_rfl)) (by kernel_rfl)) (by kernel_rfl)) (by kernel_rfl)) (by kernel_rfl)) (by kernel_rfl)) pf10) pf11) pf12) pf13) (by kernel_rfl)) (by kernel_rfl)) (by kernel_rfl)) (by kernel_rfl)) (by kernel_rfl)) (by kernel_rfl)) (by kernel_rfl)) (by kernel_rfl)) (by kernel_rfl)) pf23) (by kernel_rfl)) pf25) pf26) pf27) pf28) (by kernel_rfl)) (by kernel_rfl)) (by kernel_rfl)) (by kernel_rfl)

theorem said : Rows.FnJsonStringSaid :=
  OpenClaim.holds_of_wide 5 Tryz.f5 rfl rfl rfl rfl rfl rfl rfl ⟨rfl, rfl, rfl, rfl, rfl⟩ rfl rfl rfl rfl rfl (by kernel_rfl) Tryz.func5 closed
    (of_decide_eq_true (by kernel_rfl)) (by unfold Func.isWrapper; first | (rw [if_pos (by decide +kernel)]; kernel_rfl) | (rw [if_neg (by decide +kernel)]; exact ⟨rfl, rfl⟩))
    (fun os started H enc _ => lifted os started H enc)

theorem card : Rows.FnJsonStringCardSaid :=
  Claim7.holds_tied_plain_at .later [] _ _ _ _ said (fun _ h => by cases h) (by kernel_rfl) (fun _ h => by cases h) fnJsonString_row_tie rfl ⟨rfl, rfl⟩ (by kernel_rfl) rfl
    (fun f fn hf hfn => by
      obtain rfl : f = 5 := Option.some.inj ((show Tryz.prog.funcNamed "pub-codicil/laws.FnJsonString" = some 5 by kernel_rfl).symm.trans hf) |>.symm
      obtain rfl : fn = Tryz.f5 := (Option.some.inj (Tryz.func5.symm.trans hfn)).symm
      exact ⟨by kernel_rfl, fun j t ht => by
        rw [Tryz.params5] at ht
        have hm : t ∈ [9] := by simpa using Array.mem_of_getElem? ht
        have hall : ([9].all fun u => !Tryz.prog.wantsStandIn u) = true := by kernel_rfl
        exact (show Tryz.prog.wantsStandIn t = false by simpa using List.all_eq_true.1 hall t hm)⟩)
    (by kernel_rfl)

end Go.Proofs.YtonfdfikgnhheaaGreatDoor.js
