/- laws.FnDefEnums returns true for every slices of names and numbers, place and form, and leaves its arguments as they were; the listed variables hold what the program's text lays. -/
import Derived.Test.YtonfdfikgnhheaaGreatDoorEh
import Derived.Test.YtonfdfikgnhheaaGreatDoorEz
import Derived.Test.YtonfdfikgnhheaaGreatDoorCards
import Derived.Test.YtonfdfikgnhheaaGreatDoorTie
import Derived.ProofKit
import Derived.OpenShut
import Derived.LaidMore
import Derived.Lay
import Derived.SevenTiedAt
import Derived.Stop.Joined
import Derived.Stop.LaidErr
import Derived.SliceStrings
import Derived.ChangeSlices
import Derived.Carry
import Derived.SizedLaws
import Derived.Lib.LaidTab
namespace Go.Proofs.YtonfdfikgnhheaaGreatDoor.enums
open Go.ChangeShapes Go.WideShapes Go.ChangeAt Go.RowKit
open Go.ChangeMaps (open_string shut_string)
open Go.Proofs.YtonfdfikgnhheaaGreatDoor.pu

theorem laidMet_drop {P : Program} {w : World} : ∀ (n : Nat) (l : List (String × DataW Unit)), laidMet P l w → laidMet P (l.drop n) w
  | 0, _, h => h
  | _ + 1, [], h => h
  | n + 1, _ :: r, h => laidMet_drop n r h.tail

theorem star : "*" ++ "errors.errorString" = "*errors.errorString" := by decide
theorem rowES (u : TypeId) (h : Tryz.prog.typeName? 3 u = some "*errors.errorString") : u = 273 :=
  typeName_ptr_named (nm := "errors.errorString") (by rw [star]; kernel_rfl) (by kernel_rfl) (by decide) u (by rw [star]; exact h)

theorem errs_of_laid {W : World} (hL : laidMetH Tryz.prog Rows.fnDefEnumsRow.laid W) : Errs W := by
  rw [MakeChecks.laidMetH_plain _ _ _ (by kernel_rfl)] at hL
  have g1 : Tryz.prog.globalNamed "strconv.ErrRange" = some 4 := by kernel_rfl
  have g2 : Tryz.prog.globalNamed "strconv.ErrSyntax" = some 3 := by kernel_rfl
  have t1 : (Tryz.prog.globals[4]?).map (·.type) = some 66 := by kernel_rfl
  have t2 : (Tryz.prog.globals[3]?).map (·.type) = some 66 := by kernel_rfl
  have c1 : Tryz.prog.cellsOf 275 = 1 := by kernel_rfl
  have c2 : Tryz.prog.cellsOf 9 = 1 := by kernel_rfl
  have h1 : laidMet Tryz.prog (("strconv.ErrRange", Rows.laid_strconv_ErrRange) :: Rows.fnDefEnumsRow.laid.drop 11) W := laidMet_drop 10 _ hL
  have h2 : laidMet Tryz.prog (("strconv.ErrSyntax", Rows.laid_strconv_ErrSyntax) :: Rows.fnDefEnumsRow.laid.drop 12) W := laidMet_drop 11 _ hL
  obtain ⟨a0, s0, v0, _, _, _⟩ := laid_sentinel h1 g1 t1 Tryz.underlying66 rowES Tryz.underlying273 Tryz.underlying275 rfl rfl Tryz.underlying9 c1 c2
  obtain ⟨a1, s1, v1, _, _, _⟩ := laid_sentinel h2 g2 t2 Tryz.underlying66 rowES Tryz.underlying273 Tryz.underlying275 rfl rfl Tryz.underlying9 c1 c2
  exact ⟨⟨_, _, by simpa using World.var?_cell g2 v1 0⟩, ⟨_, _, by simpa using World.var?_cell g1 v0 0⟩⟩

theorem laidOut : laidOutB Tryz.prog = true := by kernel_rfl
theorem cellsStr : Tryz.prog.cellsOf 9 = 1 := by kernel_rfl
theorem cellsI32 : Tryz.prog.cellsOf 21 = 1 := by kernel_rfl
theorem bytesStr : Tryz.prog.bytesOf 9 = 16 := by kernel_rfl

theorem tab_of_laid {W : World} (hL : laidMetH Tryz.prog Rows.fnDefEnumsRow.laid W) : Lib.TabIs Tryz.prog W "internal/strconv.uint64pow10" .u64 Lib.pow10Tab := by
  rw [MakeChecks.laidMetH_plain _ _ _ (by kernel_rfl)] at hL
  have g1 : Tryz.prog.globalNamed "internal/strconv.uint64pow10" = some 5 := by kernel_rfl
  have t1 : (Tryz.prog.globals[5]?).map (·.type) = some 243 := by kernel_rfl
  have c1 : Tryz.prog.cellsOf 243 = 20 := by kernel_rfl
  have c2 : Tryz.prog.cellsOf 22 = 1 := by kernel_rfl
  have h1 : laidMet Tryz.prog (("internal/strconv.uint64pow10", Lib.tabData .u64 Lib.pow10Tab) :: Rows.fnDefEnumsRow.laid.drop (9)) W := laidMet_drop 8 _ hL
  exact Lib.tabIs_of_head g1 t1 Tryz.underlying243 Tryz.underlying22 c2 c1 h1

theorem own : ownKnob Tryz.prog.godebug = none := by kernel_rfl

theorem w_layFits (os : Os) : (World.holding Tryz.prog os ⟨#[], #[], []⟩).layFits Tryz.prog Rows.fnDefEnumsRow.laid [] = true := by kernel_rfl
theorem w_layIfaces (os : Os) : (World.holding Tryz.prog os ⟨#[], #[], []⟩).layIfaces Tryz.prog Rows.fnDefEnumsRow.laid (World.laidAll Tryz.prog os Rows.fnDefEnumsRow.laid) = true := by kernel_rfl

set_option maxRecDepth 100000 in
theorem lifted (os : Os) (started : os.Started) (H : Type) (enc : TypeId × Value → H) :
    ReturnsInHanded {} Tryz.checked os 9 .any (fun w args => (Rows.fnDefEnumsSpec.pre enc Tryz.prog Tryz.f9 Rows.fnDefEnumsRow.domain false w args ∧ laidMetH Tryz.prog Rows.fnDefEnumsRow.laid w) ∧ sizedMet enc Tryz.prog Tryz.f9 (OpenSpec.ofChange Rows.fnDefEnumsSpec) false w args)
      (Rows.fnDefEnumsSpec.post enc Tryz.prog Tryz.f9 false true false false) := by
  refine returnsInHanded_of_change_and (C := Tryz.checked) (X := fun w _ => laidMetH Tryz.prog Rows.fnDefEnumsRow.laid w) (fun _ _ _ hh h => h.of_heap hh) own started (by kernel_rfl) Tryz.func9
    (ChangeSpec.witness_shaped (enc := enc) (C := Tryz.checked) (os := os) (X := fun w _ => laidMetH Tryz.prog Rows.fnDefEnumsRow.laid w) false (World.laidAll Tryz.prog os Rows.fnDefEnumsRow.laid) #[.slice none 0 0, .slice none 0 0, .int .i64 0, .bool false] 8 (World.laidAll_os _ _ _)
      (World.shaped_of_ZipB (by kernel_rfl) (by kernel_rfl)) (by kernel_rfl) (by kernel_rfl) (by kernel_rfl)
      (by rw [MakeChecks.laidMetH_plain _ _ _ (by kernel_rfl)]; exact laidMet_laidAll _ (w_layFits os) (w_layIfaces os))) ?_
  intro W base args ds gs before hval0 hW hc hsz0 hL _
  have hsz : (DataW.weightsEach Tryz.prog (Tryz.f9.params.toList ++ Rows.fnDefEnumsSpec.plain.varTypes Tryz.prog) (ds ++ gs)).all (· ≤ reachBytes) = true := hsz0
  clear hsz0
  have herr : Errs W := errs_of_laid hL
  have htab := tab_of_laid hL
  have hval : ∀ (j : Nat) t v, Tryz.f9.params[j]? = some t → args[j]? = some v → Value.okWide Tryz.prog W .any base t v := hval0
  have hW' := hW
  obtain ⟨p, q, hA0, hV, rfl, _, _⟩ := hW
  have hA : DataW.TrodAll enc Tryz.prog W 0 (fun _ => true) true Tryz.f9.params.toList args.toList ds p := hA0
  rw [Tryz.params9] at hA hval hsz
  obtain ⟨v0, v1, v2, v3, d0, d1, d2, d3, p0, p1, p2, p3, rfl, rfl, rfl, h0, h1, h2, h3⟩ := trodAll_four hA
  obtain ⟨rfl, rfl⟩ := trodVars_none hV
  obtain ⟨a0, n0, c0, rfl⟩ := okWide_slice Tryz.underlying40 (hval 0 40 v0 rfl rfl)
  obtain ⟨a1, n1, c1, rfl⟩ := okWide_slice Tryz.underlying52 (hval 1 52 v1 rfl rfl)
  obtain ⟨k, rfl, rfl, rfl, hk⟩ := open_int Tryz.underlying3 (hval 2 3 v2 rfl rfl) h2
  obtain ⟨tag, rfl, rfl, rfl⟩ := open_bool Tryz.underlying4 (hval 3 4 v3 rfl rfl) h3
  clear hA0 hval0
  have h0k := h0
  have h1k := h1
  obtain ⟨fuel0, hf0⟩ := h0
  obtain ⟨fuel1, hf1⟩ := h1
  simp only [List.append_nil] at hW'
  have hlt0 : ∀ x ∈ p0, x.block < W.heap.size := fun x hx => hW'.lt x (by simp [hx])
  have hlt1 : ∀ x ∈ p1, x.block < W.heap.size := fun x hx => hW'.lt x (by simp [hx])
  have hback0 : ∀ (W' : World), Below W.heap.size W W' → DataW.Trod enc Tryz.prog W' 0 (fun b => decide (b < W.heap.size)) true 40 (.slice a0 n0 c0) d0 p0 :=
    fun W' hn => Below.trod laidOut (by kernel_rfl) (of_decide_eq_true (by kernel_rfl)) h0k hn hlt0
  have hback1 : ∀ (W' : World), Below W.heap.size W W' → DataW.Trod enc Tryz.prog W' 0 (fun b => decide (b < W.heap.size)) true 52 (.slice a1 n1 c1) d1 p1 :=
    fun W' hn => Below.trod laidOut (by kernel_rfl) (of_decide_eq_true (by kernel_rfl)) h1k hn hlt1
  have hS : ∃ l : List ByteArray, l.length = n0 ∧ n0 ≤ c0 ∧ l.length ≤ 9223372036854770000 ∧ Strs W a0 l := by
    rcases open_strings Tryz.underlying40 Tryz.underlying9 cellsStr hf0 with ⟨hcs, hx⟩ | ⟨a, len', cap', zs, hcs, _, hl, hm, hz, hx, hcell, hwz⟩
    · simp [Value.cells] at hcs
      obtain ⟨rfl, rfl, rfl⟩ := hcs
      exact ⟨[], rfl, Nat.le_refl _, by simp, strs_nil W⟩
    · simp [Value.cells] at hcs
      obtain ⟨rfl, rfl, rfl⟩ := hcs
      simp only [Prod.mk.injEq] at hx
      obtain ⟨rfl, rfl⟩ := hx
      simp only [if_true] at hz
      have hr : n0 * 16 ≤ 140737488351232 := by
        have := sized_slice hsz (j := 0) (t := 40) (e := 9) rfl rfl Tryz.underlying40
        rw [bytesStr] at this
        simp only [strs, List.length_map, List.length_take, List.length_drop, reachBytes] at this
        omega
      have hlen : (zs.take n0).length = n0 := by simp; omega
      refine ⟨zs.take n0, hlen, hl, by omega, strs_mk (by omega) fun j hj => ?_⟩
      rw [hcell j (by omega), List.getElem_take, List.getD_eq_getElem?_getD, List.getElem?_eq_getElem (by omega)]
      rfl
  have hI : ∃ zs : List Int, zs.length = n1 ∧ n1 ≤ c1 ∧ I32s W a1 zs ∧ ∀ z ∈ zs, -2147483648 ≤ z ∧ z ≤ 2147483647 := by
    rcases open_ints Tryz.underlying52 Tryz.underlying21 cellsI32 hf1 with ⟨hcs, hx⟩ | ⟨a, len', cap', zs, hcs, _, hl, hm, hz, hx, hcell, hwz⟩
    · simp [Value.cells] at hcs
      obtain ⟨rfl, rfl, rfl⟩ := hcs
      exact ⟨[], rfl, Nat.le_refl _, i32s_nil W, fun z hz => by cases hz⟩
    · simp [Value.cells] at hcs
      obtain ⟨rfl, rfl, rfl⟩ := hcs
      simp only [if_true] at hz
      have hlen : (zs.take n1).length = n1 := by simp; omega
      refine ⟨zs.take n1, hlen, hl, i32s_mk (by unfold maxLen at hm; omega) fun j hj => ?_, fun z hzm => ?_⟩
      · rw [hcell j (by omega), List.getElem_take, List.getD_eq_getElem?_getD, List.getElem?_eq_getElem (by omega)]
        rfl
      · have := hwz z (List.mem_of_mem_take hzm)
        have h2 : (decide ((-2147483648 : Int) ≤ z) && decide (z ≤ 2147483647)) = true := this
        simpa using h2
  obtain ⟨l, rfl, hc0, hlm, hst⟩ := hS
  obtain ⟨zs, rfl, hc1, hi32, hzr⟩ := hI
  refine (law_all l zs a0 a1 c0 c1 k tag W hst hc0 hi32 hc1 hlm hzr htab herr).mono fun e W' ⟨he, hb⟩ => ?_
  subst he
  refine ⟨_, rfl, _, _, _, [], _, [], hW', ?_, trodAll_mk4 (hback0 W' hb) (hback1 W' hb) (shut_int Tryz.underlying3 hk) (shut_bool Tryz.underlying4 _), rfl, hb.frame _, fun h => by cases h⟩
  exact trodAll_mk1 (shut_bool Tryz.underlying4 _)

theorem closed : joinedFacts Tryz.pinned.checked.prog 9 Tryz.f9 Rows.fnDefEnumsSpec Rows.fnDefEnumsRow = true := by
  unfold joinedFacts
  exact andt (andt (andt (andt (andt (andt (andt (andt (andt (andt (andt (andt (andt (andt (andt (andt (andt (andt (andt (andt (andt (andt (andt (andt (andt (andt (andt (andt (andt (andt (andt (by kernel_rfl) (by kernel_rfl)) (by kernel_rfl)) (by kernel_rfl)) (by kernel_rfl)) (by kernel_rfl)) (by kernel_rfl)) (by kernel_rfl)) (by kernel_rfl)) pf10) pf11) pf12) pf13) (by kernel_rfl)) (by kernel_rfl)) (by kernel_rfl)) (by kernel_rfl)) (by kernel_rfl)) (by kernel_rfl)) (by kernel_rfl)) (by kernel_rfl)) (by kernel_rfl)) pf23) (by kernel_rfl)) pf25) pf26) pf27) pf28) (by kernel_rfl)) (by kernel_rfl)) (by kernel_rfl)) (by kernel_rfl)

theorem said : Rows.FnDefEnumsSaid :=
  OpenClaim.holds_of_wide 9 Tryz.f9 rfl rfl rfl rfl rfl rfl rfl ⟨rfl, rfl, rfl, rfl, rfl⟩ rfl rfl rfl rfl rfl (by kernel_rfl) Tryz.func9 closed
    (of_decide_eq_true (by kernel_rfl)) (by unfold Func.isWrapper; first | (rw [if_pos (by decide +kernel)]; kernel_rfl) | (rw [if_neg (by decide +kernel)]; exact ⟨rfl, rfl⟩))
    (fun os started H enc _ => lifted os started H enc)

theorem card : Rows.FnDefEnumsCardSaid :=
  Claim7.holds_tied_plain_at .later [] _ _ _ _ said (fun _ h => by cases h) (by kernel_rfl) (fun _ h => by cases h) fnDefEnums_row_tie rfl ⟨rfl, rfl⟩ (by kernel_rfl) rfl
    (fun f fn hf hfn => by
      obtain rfl : f = 9 := Option.some.inj ((show Tryz.prog.funcNamed "pub-codicil/laws.FnDefEnums" = some 9 by kernel_rfl).symm.trans hf) |>.symm
      obtain rfl : fn = Tryz.f9 := (Option.some.inj (Tryz.func9.symm.trans hfn)).symm
      exact ⟨by kernel_rfl, fun j t ht => by
        rw [Tryz.params9] at ht
        have hm : t ∈ [40, 52, 3, 4] := by simpa using Array.mem_of_getElem? ht
        have hall : ([40, 52, 3, 4].all fun u => !Tryz.prog.wantsStandIn u) = true := by kernel_rfl
        exact (show Tryz.prog.wantsStandIn t = false by simpa using List.all_eq_true.1 hall t hm)⟩)
    (by kernel_rfl)

end Go.Proofs.YtonfdfikgnhheaaGreatDoor.enums
