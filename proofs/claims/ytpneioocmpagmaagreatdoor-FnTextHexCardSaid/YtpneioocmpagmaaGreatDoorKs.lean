/- laws.FnTextHex from its row's condition: what is listed, and the walk. -/
import Derived.Test.YtpneioocmpagmaaGreatDoorWn
import Derived.Test.YtpneioocmpagmaaGreatDoorHh
import Derived.Test.YtpneioocmpagmaaGreatDoorCards
import Derived.Test.YtpneioocmpagmaaGreatDoorTie
import Derived.ProofKit
import Derived.OpenShut
import Derived.LaidMore
import Derived.Lay
import Derived.SevenTiedAt
import Derived.Stop.Joined
import Derived.Stop.LaidErr
import Derived.Lib.LaidTab
import Derived.Lib.LaidU8T
namespace Go.Proofs.YtpneioocmpagmaaGreatDoor.wh
open Go.ChangeShapes Go.WideShapes Go.ChangeAt Go.RowKit Go.Shelf Go.Lib
open Go.Proofs.YtpneioocmpagmaaGreatDoor.pu Go.Proofs.YtpneioocmpagmaaGreatDoor.fl Go.Proofs.YtpneioocmpagmaaGreatDoor.jn Go.Proofs.YtpneioocmpagmaaGreatDoor.dc Go.Proofs.YtpneioocmpagmaaGreatDoor.hx
set_option linter.unusedVariables false
set_option linter.unusedSimpArgs false

theorem laidMet_drop {P : Program} {w : World} : ∀ (n : Nat) (l : List (String × DataW Unit)), laidMet P l w → laidMet P (l.drop n) w
  | 0, _, h => h
  | _ + 1, [], h => h
  | n + 1, _ :: r, h => laidMet_drop n r h.tail

theorem star : "*" ++ "errors.errorString" = "*errors.errorString" := by decide
theorem rowES (u : TypeId) (h : Tryz.prog.typeName? 3 u = some "*errors.errorString") : u = 254 :=
  typeName_ptr_named (nm := "errors.errorString") (by rw [star]; kernel_rfl) (by kernel_rfl) (by decide) u (by rw [star]; exact h)

theorem laid_sentinel_blk {P : Program} {n nm : String} {text : List UInt8} {r : List (String × DataW Unit)} {W : World} {g : Nat} {ti tp te ts : TypeId} {ms : Array (String × TypeId)} {f : Field}
    (h : laidMet P ((n, .iface nm (.ptr (.agg [.lit (.string text)]))) :: r) W)
    (hg : P.globalNamed n = some g) (ht : (P.globals[g]?).map (·.type) = some ti) (hi : P.underlying ti = some (.interface ms)) (hrow : ∀ u, P.typeName? 3 u = some nm → u = tp)
    (hp : P.underlying tp = some (.pointer te)) (he : P.underlying te = some (.struct #[f])) (hft : f.type = ts) (hfo : f.offset = 0) (hs : P.underlying ts = some .string) (hc : P.cellsOf te = 1) (hcs : P.cellsOf ts = 1) :
    ∃ (a : Addr) (cs : Array Value) (t : TypeId), W.var? P n = some #[.iface tp (.pointer (some a))] ∧ W.heap[a.block]? = some (.cells cs t (0, 0)) := by
  obtain ⟨ps, ⟨g0, t0, cs0, f0, p0, q0, hg0, ht0, hv0, hd0, _, e0⟩, _, hrows⟩ := h
  obtain rfl := Option.some.inj (hg.symm.trans hg0)
  obtain rfl := Option.some.inj (ht.symm.trans ht0)
  subst e0
  obtain ⟨l0⟩ := cs0
  have ok0 : ∀ u v, l0 = [.iface u v] → Value.okWide P W .any 0 u v := fun u v e => by
    subst e
    exact (hrows g 0 (by simp [MemPlace.row])).2 u v (by simpa using World.var?_cell hg0 hv0 0)
  obtain ⟨a0, s0, rfl, hc0, hs0, hz0, rfl⟩ := errorString_of_trod hi hrow hp he hft hfo hs hc hcs hd0 ok0
  obtain ⟨c0, t0, hb0⟩ := (hrows a0.block a0.off (by simp [MemPlace.row])).1
  exact ⟨a0, c0, t0, hv0, hb0⟩

theorem errs_of_laid {W : World} (hL : laidMetH Tryz.prog Rows.fnTextHexRow.laid W) : ErrsB W := by
  rw [MakeChecks.laidMetH_plain _ _ _ (by kernel_rfl)] at hL
  have g1 : Tryz.prog.globalNamed "strconv.ErrRange" = some 2 := by kernel_rfl
  have g2 : Tryz.prog.globalNamed "strconv.ErrSyntax" = some 6 := by kernel_rfl
  have t1 : (Tryz.prog.globals[2]?).map (·.type) = some 58 := by kernel_rfl
  have t2 : (Tryz.prog.globals[6]?).map (·.type) = some 58 := by kernel_rfl
  have c1 : Tryz.prog.cellsOf 256 = 1 := by kernel_rfl
  have c2 : Tryz.prog.cellsOf 9 = 1 := by kernel_rfl
  have h1 : laidMet Tryz.prog (("strconv.ErrRange", Rows.laid_strconv_ErrRange) :: Rows.fnTextHexRow.laid.drop 11) W := laidMet_drop 10 _ hL
  have h2 : laidMet Tryz.prog (("strconv.ErrSyntax", Rows.laid_strconv_ErrSyntax) :: Rows.fnTextHexRow.laid.drop 12) W := laidMet_drop 11 _ hL
  obtain ⟨a0, s0, u0, v0, k0⟩ := laid_sentinel_blk h1 g1 t1 Tryz.underlying58 rowES Tryz.underlying254 Tryz.underlying256 rfl rfl Tryz.underlying9 c1 c2
  obtain ⟨a1, s1, u1, v1, k1⟩ := laid_sentinel_blk h2 g2 t2 Tryz.underlying58 rowES Tryz.underlying254 Tryz.underlying256 rfl rfl Tryz.underlying9 c1 c2
  exact ⟨⟨a1, s1, u1, by simpa using World.var?_cell g2 v1 0, k1⟩, ⟨a0, s0, u0, by simpa using World.var?_cell g1 v0 0, k0⟩⟩


theorem fenv_of_laid {W : World} (hL : laidMetH Tryz.prog Rows.fnTextHexRow.laid W) : FEnv W := by
  rw [MakeChecks.laidMetH_plain _ _ _ (by kernel_rfl)] at hL
  have g1 : Tryz.prog.globalNamed "internal/strconv.float64info" = some 11 := by kernel_rfl
  have g2 : Tryz.prog.globalNamed "internal/strconv.float64pow10" = some 16 := by kernel_rfl
  have g3 : Tryz.prog.globalNamed "internal/strconv.float32pow10" = some 14 := by kernel_rfl
  have g4 : Tryz.prog.globalNamed "internal/strconv.optimize" = some 8 := by kernel_rfl
  have g5 : Tryz.prog.globalNamed "internal/strconv.pow10Tab" = some 17 := by kernel_rfl
  have t1 : (Tryz.prog.globals[11]?).map (·.type) = some 267 := by kernel_rfl
  have t2 : (Tryz.prog.globals[16]?).map (·.type) = some 300 := by kernel_rfl
  have t3 : (Tryz.prog.globals[14]?).map (·.type) = some 297 := by kernel_rfl
  have t4 : (Tryz.prog.globals[8]?).map (·.type) = some 4 := by kernel_rfl
  have t5 : (Tryz.prog.globals[17]?).map (·.type) = some 304 := by kernel_rfl
  have c64 : Tryz.prog.cellsOf 93 = 1 := by kernel_rfl
  have c32 : Tryz.prog.cellsOf 98 = 1 := by kernel_rfl
  have cu : Tryz.prog.cellsOf 39 = 1 := by kernel_rfl
  have cuu : Tryz.prog.cellsOf 182 = 1 := by kernel_rfl
  have cp : Tryz.prog.cellsOf 303 = 2 := by kernel_rfl
  have r1 := laidMet.reads hL (n := "internal/strconv.float64info") (d := Rows.laid_internal_strconv_float64info) (List.mem_of_getElem? (i := 3) rfl)
  have r2 := laidMet.reads hL (n := "internal/strconv.float64pow10") (d := Rows.laid_internal_strconv_float64pow10) (List.mem_of_getElem? (i := 6) rfl)
  have r3 := laidMet.reads hL (n := "internal/strconv.float32pow10") (d := Rows.laid_internal_strconv_float32pow10) (List.mem_of_getElem? (i := 7) rfl)
  have r4 := laidMet.reads hL (n := "internal/strconv.optimize") (d := Rows.laid_internal_strconv_optimize) (List.mem_of_getElem? (i := 4) rfl)
  have r5 := laidMet.reads hL (n := "internal/strconv.pow10Tab") (d := Rows.laid_internal_strconv_pow10Tab) (List.mem_of_getElem? (i := 14) rfl)
  rw [f64_eq] at r2
  rw [f32_eq] at r3
  rw [pow_eq] at r5
  have hp : TabP W := by
    intro i hi
    obtain ⟨g, t, cs, fuel, p, hg, hty, hvar, hd⟩ := r5
    obtain rfl := Option.some.inj (g5.symm.trans hg)
    obtain rfl := Option.some.inj (t5.symm.trans hty)
    obtain ⟨fuel', d, q, hdi, he⟩ := array_elem Tryz.underlying304 hd i hi
    simp only [List.getElem?_map, List.getElem?_range hi, Option.map_some, Option.some.injEq] at hdi
    subst hdi
    rw [cp] at he
    have hcs := ints_of_struct Tryz.underlying303 (fun j f hj => by
      match j, hj with
      | 0, hj => simp at hj; subst hj; exact ⟨Tryz.underlying39, rfl, cu⟩
      | 1, hj => simp at hj; subst hj; exact ⟨Tryz.underlying39, rfl, cu⟩
      | j + 2, hj => simp at hj) (by rw [cp]; rfl) he
    have e0 := congrArg (·[0]?) hcs
    have e1 := congrArg (·[1]?) hcs
    simp only [List.getElem?_take, List.getElem?_drop] at e0 e1
    constructor
    · rw [World.var?_cell hg hvar (i * 2), ← Array.getElem?_toList]
      simpa using e0
    · rw [World.var?_cell hg hvar (i * 2 + 1), ← Array.getElem?_toList]
      simpa using e1
  refine ⟨bool_var true Tryz.underlying4 g4 t4 r4, ⟨?_, ?_, ?_⟩, hp, cell_in (hp 0 (by decide)).1⟩
  · exact struct_first 52 _ Tryz.underlying267 rfl rfl Tryz.underlying182 cuu g1 t1 r1
  · obtain ⟨a, ha, hk⟩ := float_slice bs64 Tryz.underlying300 Tryz.underlying93 c64 g2 t2 r2
    exact ⟨a, ha, fun k hk' => ⟨_, hk k hk', good_of (good64 k hk')⟩⟩
  · obtain ⟨a, ha, hk⟩ := float_slice bs32 Tryz.underlying297 Tryz.underlying98 c32 g3 t3 r3
    exact ⟨a, ha, fun k hk' => ⟨_, hk k hk', good_of (good32 k hk')⟩⟩

/-- What the walk reads of the listed variables. -/
structure SEnvW (w : World) : Prop where
  few : FEnv w
  pe : PEnv w
  inf : Info w 11 52 11 (-1023)

theorem info_of_laid {W : World} (hL : laidMetH Tryz.prog Rows.fnTextHexRow.laid W) : Info W 11 52 11 (-1023) := by
  rw [MakeChecks.laidMetH_plain _ _ _ (by kernel_rfl)] at hL
  have g1 : Tryz.prog.globalNamed "internal/strconv.float64info" = some 11 := by kernel_rfl
  have t1 : (Tryz.prog.globals[11]?).map (·.type) = some 267 := by kernel_rfl
  have cuu : Tryz.prog.cellsOf 182 = 1 := by kernel_rfl
  have cii : Tryz.prog.cellsOf 3 = 1 := by kernel_rfl
  have r1 := laidMet.reads hL (n := "internal/strconv.float64info") (d := Rows.laid_internal_strconv_float64info) (List.mem_of_getElem? (i := 3) rfl)
  exact ⟨struct_at 0 52 _ Tryz.underlying267 rfl rfl Tryz.underlying182 cuu rfl g1 t1 r1,
    struct_at 1 11 _ Tryz.underlying267 rfl rfl Tryz.underlying182 cuu rfl g1 t1 r1,
    struct_at 2 (-1023) _ Tryz.underlying267 rfl rfl Tryz.underlying3 cii rfl g1 t1 r1, .inl ⟨rfl, rfl, rfl⟩⟩

theorem powtab_eq : (Rows.laid_internal_strconv_powtab : DataW Unit) = .slice (([1, 3, 6, 9, 13, 16, 19, 23, 26] : List Int).map fun b => .lit (.int .i64 b)) [] := rfl

theorem cheats_eq : Rows.laid_internal_strconv_leftcheats = .slice (Go.Pinned.cheatRows.map fun x => .agg [.lit (.int .i64 x.1), .lit (.string x.2)]) [] := rfl

theorem cheat_at (i z : Nat) (s : List UInt8) (h : Go.Pinned.cheatRows[i]? = some (z, s)) : (Go.Pinned.cheatRows.map fun x => (DataW.agg [.lit (.int .i64 x.1), .lit (.string x.2)] : DataW Unit))[i]? = some (.agg [.lit (.int .i64 (z : Int)), .lit (.string s)]) := by
  rw [List.getElem?_map, h]; rfl

theorem penv_of_laid {W : World} (hL : laidMetH Tryz.prog Rows.fnTextHexRow.laid W) : PEnv W := by
  rw [MakeChecks.laidMetH_plain _ _ _ (by kernel_rfl)] at hL
  have g1 : Tryz.prog.globalNamed "internal/strconv.powtab" = some 15 := by kernel_rfl
  have g2 : Tryz.prog.globalNamed "internal/strconv.leftcheats" = some 18 := by kernel_rfl
  have t1 : (Tryz.prog.globals[15]?).map (·.type) = some 299 := by kernel_rfl
  have t2 : (Tryz.prog.globals[18]?).map (·.type) = some 310 := by kernel_rfl
  have cii : Tryz.prog.cellsOf 3 = 1 := by kernel_rfl
  have cst : Tryz.prog.cellsOf 9 = 1 := by kernel_rfl
  have cle : Tryz.prog.cellsOf 309 = 2 := by kernel_rfl
  have r1 := laidMet.reads hL (n := "internal/strconv.powtab") (d := Rows.laid_internal_strconv_powtab) (List.mem_of_getElem? (i := 5) rfl)
  have r2 := laidMet.reads hL (n := "internal/strconv.leftcheats") (d := Rows.laid_internal_strconv_leftcheats) (List.mem_of_getElem? (i := 13) rfl)
  rw [powtab_eq] at r1
  rw [cheats_eq] at r2
  obtain ⟨pa, hpa, hpk⟩ := int_slice _ Tryz.underlying299 Tryz.underlying3 cii g1 t1 r1
  obtain ⟨ca, hca, hck⟩ := pair_slice (k := .i64) _ Tryz.underlying310 Tryz.underlying309 cle rfl rfl Tryz.underlying3 cii rfl rfl Tryz.underlying9 cst g2 t2 r2
  have hlen : (Go.Pinned.cheatRows.map fun x => (DataW.agg [.lit (.int .i64 x.1), .lit (.string x.2)] : DataW Unit)).length = 61 := by rw [List.length_map]; rfl
  rw [hlen] at hca
  have mk : ∀ (i z : Nat) (s : List UInt8) (S : ByteArray), Go.Pinned.cheatRows[i]? = some (z, s) → S = ⟨s.toArray⟩ → Cheat W i z S := by
    intro i z s S h hS
    subst hS
    have := hck i z s (cheat_at i z s h)
    exact ⟨ca, 61, hca, this.1, this.2⟩
  have hp9 : ∀ j : Fin 9, (([1, 3, 6, 9, 13, 16, 19, 23, 26] : List Int).getD j.1 0) = (pw j.1 : Int) := by decide
  refine ⟨⟨pa, 9, hpa, fun j hj => ?_⟩, mk 1 1 [53] _ rfl rfl, mk 24 8 _ _ rfl (by decide), mk 53 16 _ _ rfl (by decide)⟩
  have := hpk j hj
  rw [hp9 ⟨j, hj⟩] at this
  exact this

theorem SEnvW.below {w w' : World} (h : SEnvW w) (hb : Below w.heap.size w w') : SEnvW w' := by
  have hc : ∀ {k d : Nat} {S : ByteArray}, Cheat w k d S → Cheat w' k d S := fun ⟨a, c, h1, h2, h3⟩ => ⟨a, c, (hb.cell (cell_in h1)).trans h1, (hb.cell (cell_in h2)).trans h2, (hb.cell (cell_in h3)).trans h3⟩
  refine ⟨FEnv.below h.few hb, ⟨?_, hc h.pe.c1, hc h.pe.c24, hc h.pe.c53⟩, ?_⟩
  · obtain ⟨a, c, h1, h2⟩ := h.pe.pow
    exact ⟨a, c, (hb.cell (cell_in h1)).trans h1, fun j hj => (hb.cell (cell_in (h2 j hj))).trans (h2 j hj)⟩
  · obtain ⟨h1, h2, h3, h4⟩ := h.inf
    exact ⟨(hb.cell (cell_in h1)).trans h1, (hb.cell (cell_in h2)).trans h2, (hb.cell (cell_in h3)).trans h3, h4⟩

theorem own : ownKnob Tryz.prog.godebug = none := by kernel_rfl

theorem w_layFits (os : Os) : (World.holding Tryz.prog os ⟨#[], #[], []⟩).layFits Tryz.prog Rows.fnTextHexRow.laid [] = true := by kernel_rfl
theorem w_layIfaces (os : Os) : (World.holding Tryz.prog os ⟨#[], #[], []⟩).layIfaces Tryz.prog Rows.fnTextHexRow.laid (World.laidAll Tryz.prog os Rows.fnTextHexRow.laid) = true := by kernel_rfl

/-- The walk, as this text asks for it. -/
def LawAll : Prop := ∀ (u : Nat) (oct up : Bool) (h1 : u ≤ 18446744073709551615) (w : World) (EB : ∀ w', Below w.heap.size w w' → SEnvW w' ∧ ErrsB w'),
    Calls Tryz.prog 5 #[.int .u64 (u : Int), .bool oct, .bool up] w fun e w' => e = .returned (.bool true) ∧ Below w.heap.size w w'

set_option maxRecDepth 100000 in
theorem lifted (LA : LawAll) (os : Os) (started : os.Started) (H : Type) (enc : TypeId × Value → H) :
    ReturnsInHanded {} Tryz.checked os 5 .any (fun w args => (Rows.fnTextHexSpec.pre enc Tryz.prog Tryz.f5 Rows.fnTextHexRow.domain false w args ∧ laidMetH Tryz.prog Rows.fnTextHexRow.laid w) ∧ sizedMet enc Tryz.prog Tryz.f5 (OpenSpec.ofChange Rows.fnTextHexSpec) false w args)
      (Rows.fnTextHexSpec.post enc Tryz.prog Tryz.f5 false true false false) := by
  refine returnsInHanded_of_change_and (C := Tryz.checked) (X := fun w _ => laidMetH Tryz.prog Rows.fnTextHexRow.laid w) (fun _ _ _ hh h => h.of_heap hh) own started (by kernel_rfl) Tryz.func5
    (ChangeSpec.witness_shaped (enc := enc) (C := Tryz.checked) (os := os) (X := fun w _ => laidMetH Tryz.prog Rows.fnTextHexRow.laid w) false (World.laidAll Tryz.prog os Rows.fnTextHexRow.laid) #[.int .u64 0, .bool false, .bool false] 8 (World.laidAll_os _ _ _)
      (World.shaped_of_ZipB (by kernel_rfl) (by kernel_rfl)) (by kernel_rfl) (by kernel_rfl) (by kernel_rfl)
      (by rw [MakeChecks.laidMetH_plain _ _ _ (by kernel_rfl)]; exact laidMet_laidAll _ (w_layFits os) (w_layIfaces os))) ?_
  intro W base args ds gs before hval0 hW hc _ hL _
  have fenv : SEnvW W := ⟨fenv_of_laid hL, penv_of_laid hL, info_of_laid hL⟩
  have errs : ErrsB W := errs_of_laid hL
  have hval : ∀ (j : Nat) t v, Tryz.f5.params[j]? = some t → args[j]? = some v → Value.okWide Tryz.prog W .any base t v := hval0
  have hW' := hW
  obtain ⟨p, q, hA0, hV, rfl, _, _⟩ := hW
  have hA : DataW.TrodAll enc Tryz.prog W 0 (fun _ => true) true Tryz.f5.params.toList args.toList ds p := hA0
  rw [Tryz.params5] at hA hval
  obtain ⟨v0, v1, v2, d0, d1, d2, p0, p1, p2, rfl, rfl, rfl, h0, h1, h2⟩ := trodAll_three hA
  obtain ⟨rfl, rfl⟩ := trodVars_none hV
  obtain ⟨n, rfl, rfl, rfl, hn⟩ := open_int Tryz.underlying39 (hval 0 39 v0 rfl rfl) h0
  obtain ⟨oct, rfl, rfl, rfl⟩ := open_bool Tryz.underlying4 (hval 1 4 v1 rfl rfl) h1
  obtain ⟨up, rfl, rfl, rfl⟩ := open_bool Tryz.underlying4 (hval 2 4 v2 rfl rfl) h2
  clear hA0
  simp only [List.append_nil] at hW'
  have hn' := hn
  simp [Lit.wf, IntKind.min, IntKind.max, IntKind.signed, IntKind.bits] at hn'
  obtain ⟨u, rfl⟩ : ∃ u : Nat, n = (u : Int) := ⟨n.toNat, by omega⟩
  refine (LA u oct up (by omega) W (fun w' hb => ⟨fenv.below hb, errs.below hb⟩)).mono fun e W' ⟨he, hb⟩ => ?_
  subst he
  refine ⟨_, rfl, _, _, _, [], [], [], hW', ?_, ?_, rfl, hb.frame _, fun h => by cases h⟩
  · exact trodAll_mk1 (shut_bool Tryz.underlying4 _)
  · exact trodAll_mk3 (shut_int Tryz.underlying39 hn) (shut_bool Tryz.underlying4 _) (shut_bool Tryz.underlying4 _)

end Go.Proofs.YtpneioocmpagmaaGreatDoor.wh

