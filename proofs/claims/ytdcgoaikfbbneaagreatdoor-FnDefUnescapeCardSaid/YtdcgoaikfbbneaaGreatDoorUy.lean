/- laws.FnDefUnescape returns true for every text and either form, and leaves its arguments as they were; the listed variables hold what the program's text lays. -/
import Derived.Test.YtdcgoaikfbbneaaGreatDoorUx
import Derived.Test.YtdcgoaikfbbneaaGreatDoorCards
import Derived.Test.YtdcgoaikfbbneaaGreatDoorTie
import Derived.ProofKit
import Derived.OpenShut
import Derived.LaidMore
import Derived.Lay
import Derived.SevenTiedAt
import Derived.Stop.Joined
import Derived.Stop.LaidErr
namespace Go.Proofs.YtdcgoaikfbbneaaGreatDoor.une
open Go.ChangeShapes Go.WideShapes Go.ChangeAt Go.RowKit
open Go.ChangeMaps (open_string shut_string)
open Go.Proofs.YtdcgoaikfbbneaaGreatDoor.pu

theorem laidMet_drop {P : Program} {w : World} : ∀ (n : Nat) (l : List (String × DataW Unit)), laidMet P l w → laidMet P (l.drop n) w
  | 0, _, h => h
  | _ + 1, [], h => h
  | n + 1, _ :: r, h => laidMet_drop n r h.tail

theorem star : "*" ++ "errors.errorString" = "*errors.errorString" := by decide
theorem rowES (u : TypeId) (h : Tryz.prog.typeName? 3 u = some "*errors.errorString") : u = 142 :=
  typeName_ptr_named (nm := "errors.errorString") (by rw [star]; kernel_rfl) (by kernel_rfl) (by decide) u (by rw [star]; exact h)

theorem errs_of_laid {W : World} (hL : laidMetH Tryz.prog Rows.fnDefUnescapeRow.laid W) : Errs W := by
  rw [MakeChecks.laidMetH_plain _ _ _ (by kernel_rfl)] at hL
  have g1 : Tryz.prog.globalNamed "strconv.ErrRange" = some 2 := by kernel_rfl
  have g2 : Tryz.prog.globalNamed "strconv.ErrSyntax" = some 1 := by kernel_rfl
  have t1 : (Tryz.prog.globals[2]?).map (·.type) = some 44 := by kernel_rfl
  have t2 : (Tryz.prog.globals[1]?).map (·.type) = some 44 := by kernel_rfl
  have c1 : Tryz.prog.cellsOf 144 = 1 := by kernel_rfl
  have c2 : Tryz.prog.cellsOf 9 = 1 := by kernel_rfl
  have h1 : laidMet Tryz.prog (("strconv.ErrRange", Rows.laid_strconv_ErrRange) :: Rows.fnDefUnescapeRow.laid.drop 11) W := laidMet_drop 10 _ hL
  have h2 : laidMet Tryz.prog (("strconv.ErrSyntax", Rows.laid_strconv_ErrSyntax) :: Rows.fnDefUnescapeRow.laid.drop 12) W := laidMet_drop 11 _ hL
  obtain ⟨a0, s0, v0, _, _, _⟩ := laid_sentinel h1 g1 t1 Tryz.underlying44 rowES Tryz.underlying142 Tryz.underlying144 rfl rfl Tryz.underlying9 c1 c2
  obtain ⟨a1, s1, v1, _, _, _⟩ := laid_sentinel h2 g2 t2 Tryz.underlying44 rowES Tryz.underlying142 Tryz.underlying144 rfl rfl Tryz.underlying9 c1 c2
  exact ⟨⟨_, _, by simpa using World.var?_cell g2 v1 0⟩, ⟨_, _, by simpa using World.var?_cell g1 v0 0⟩⟩

theorem own : ownKnob Tryz.prog.godebug = none := by kernel_rfl

theorem w_layFits (os : Os) : (World.holding Tryz.prog os ⟨#[], #[], []⟩).layFits Tryz.prog Rows.fnDefUnescapeRow.laid [] = true := by kernel_rfl
theorem w_layIfaces (os : Os) : (World.holding Tryz.prog os ⟨#[], #[], []⟩).layIfaces Tryz.prog Rows.fnDefUnescapeRow.laid (World.laidAll Tryz.prog os Rows.fnDefUnescapeRow.laid) = true := by kernel_rfl

set_option maxRecDepth 100000 in
theorem lifted (os : Os) (started : os.Started) (H : Type) (enc : TypeId × Value → H) :
    ReturnsInHanded {} Tryz.checked os 4 .any (fun w args => (Rows.fnDefUnescapeSpec.pre enc Tryz.prog Tryz.f4 Rows.fnDefUnescapeRow.domain false w args ∧ laidMetH Tryz.prog Rows.fnDefUnescapeRow.laid w) ∧ sizedMet enc Tryz.prog Tryz.f4 (OpenSpec.ofChange Rows.fnDefUnescapeSpec) false w args)
      (Rows.fnDefUnescapeSpec.post enc Tryz.prog Tryz.f4 false true false false) := by
  refine returnsInHanded_of_change_and (C := Tryz.checked) (X := fun w _ => laidMetH Tryz.prog Rows.fnDefUnescapeRow.laid w) (fun _ _ _ hh h => h.of_heap hh) own started (by kernel_rfl) Tryz.func4
    (ChangeSpec.witness_shaped (enc := enc) (C := Tryz.checked) (os := os) (X := fun w _ => laidMetH Tryz.prog Rows.fnDefUnescapeRow.laid w) false (World.laidAll Tryz.prog os Rows.fnDefUnescapeRow.laid) #[.string ⟨#[]⟩, .bool false] 8 (World.laidAll_os _ _ _)
      (World.shaped_of_ZipB (by kernel_rfl) (by kernel_rfl)) (by kernel_rfl) (by kernel_rfl) (by kernel_rfl)
      (by rw [MakeChecks.laidMetH_plain _ _ _ (by kernel_rfl)]; exact laidMet_laidAll _ (w_layFits os) (w_layIfaces os))) ?_
  intro W base args ds gs before hval0 hW hc _ hL _
  have herr : Errs W := errs_of_laid hL
  have hval : ∀ (j : Nat) t v, Tryz.f4.params[j]? = some t → args[j]? = some v → Value.okWide Tryz.prog W .any base t v := hval0
  have hW' := hW
  obtain ⟨p, q, hA0, hV, rfl, _, _⟩ := hW
  have hA : DataW.TrodAll enc Tryz.prog W 0 (fun _ => true) true Tryz.f4.params.toList args.toList ds p := hA0
  rw [Tryz.params4] at hA hval
  obtain ⟨v0, v1, d0, d1, p0, p1, rfl, rfl, rfl, h0, h1⟩ := trodAll_two hA
  obtain ⟨rfl, rfl⟩ := trodVars_none hV
  obtain ⟨s, rfl, rfl, rfl, hs⟩ := open_string Tryz.underlying9 (hval 0 9 v0 rfl rfl) h0
  obtain ⟨tag, rfl, rfl, rfl⟩ := open_bool Tryz.underlying4 (hval 1 4 v1 rfl rfl) h1
  clear hA0
  simp only [List.append_nil] at hW'
  refine (law_all s tag W herr).mono fun e W' ⟨he, hb⟩ => ?_
  subst he
  refine ⟨_, rfl, _, _, _, [], [], [], hW', ?_, ?_, rfl, hb.frame _, fun h => by cases h⟩
  · exact trodAll_mk1 (shut_bool Tryz.underlying4 _)
  · exact trodAll_mk2 (shut_string Tryz.underlying9 hs) (shut_bool Tryz.underlying4 _)

theorem said : Rows.FnDefUnescapeSaid :=
  OpenClaim.holds_of_wide 4 Tryz.f4 rfl rfl rfl rfl rfl rfl rfl ⟨rfl, rfl, rfl, rfl, rfl⟩ rfl rfl rfl rfl rfl (by kernel_rfl) Tryz.func4 (by kernel_rfl)
    (of_decide_eq_true (by kernel_rfl)) (by unfold Func.isWrapper; first | (rw [if_pos (by decide +kernel)]; kernel_rfl) | (rw [if_neg (by decide +kernel)]; exact ⟨rfl, rfl⟩))
    (fun os started H enc _ => lifted os started H enc)

theorem card : Rows.FnDefUnescapeCardSaid :=
  Claim7.holds_tied_plain_at .later [] _ _ _ _ said (fun _ h => by cases h) (by kernel_rfl) (fun _ h => by cases h) fnDefUnescape_row_tie rfl ⟨rfl, rfl⟩ (by kernel_rfl) rfl
    (fun f fn hf hfn => by
      obtain rfl : f = 4 := Option.some.inj ((show Tryz.prog.funcNamed "pub-codicil/laws.FnDefUnescape" = some 4 by kernel_rfl).symm.trans hf) |>.symm
      obtain rfl : fn = Tryz.f4 := (Option.some.inj (Tryz.func4.symm.trans hfn)).symm
      exact ⟨by kernel_rfl, fun j t ht => by
        rw [Tryz.params4] at ht
        have hm : t ∈ [9, 4] := by simpa using Array.mem_of_getElem? ht
        have hall : ([9, 4].all fun u => !Tryz.prog.wantsStandIn u) = true := by kernel_rfl
        exact (show Tryz.prog.wantsStandIn t = false by simpa using List.all_eq_true.1 hall t hm)⟩)
    (by kernel_rfl)

end Go.Proofs.YtdcgoaikfbbneaaGreatDoor.une
