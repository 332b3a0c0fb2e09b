/- What the listed variables of the slow decimal way hold. -/
import Derived.Test.YtpneioocmpagmaaGreatDoorGn
import Derived.Test.YtpneioocmpagmaaGreatDoorVd
namespace Go.Proofs.YtpneioocmpagmaaGreatDoor.dc
open Go.ChangeShapes Go.WideShapes Go.ChangeAt Go.RowKit Go.Shelf Go.Lib
open Go.Proofs.YtpneioocmpagmaaGreatDoor.pu Go.Proofs.YtpneioocmpagmaaGreatDoor.fl Go.Proofs.YtpneioocmpagmaaGreatDoor.jn Go.Proofs.YtpneioocmpagmaaGreatDoor Go.Deep
set_option linter.unusedVariables false
set_option linter.unusedSimpArgs false

theorem add_nil (a : Addr) : a.add 0 = a := by unfold Addr.add; split <;> simp_all

theorem int_slice {P : Program} {W : World} {k : IntKind} {t e : TypeId} {name : String} {g : Nat} (bs : List Int) (ht : P.underlying t = some (.slice e)) (he : P.underlying e = some (.int k)) (hc : P.cellsOf e = 1)
    (hg : P.globalNamed name = some g) (hty : (P.globals[g]?).map (·.type) = some t) (h : VarReads P W name (.slice (bs.map fun b => .lit (.int k b)) [])) :
    ∃ a : Addr, W.cell? ⟨g, 0, none⟩ = some (.slice (some a) bs.length bs.length) ∧ ∀ i, i < bs.length → W.cell? (a.add i) = some (.int k (bs.getD i 0)) := by
  obtain ⟨g', t', cs, fuel, p, h1, h2, h3, h4⟩ := h
  obtain rfl := Option.some.inj (hg.symm.trans h1)
  obtain rfl := Option.some.inj (hty.symm.trans h2)
  rcases open_slice1 ht hc h4 with ⟨_, hx⟩ | ⟨a, len, cap, m, n, V, D, Pl, hcs, hb, hl, hm, hmm, hx, hall⟩
  · cases hx
  · have hd := congrArg Prod.fst hx
    simp only [DataW.slice.injEq] at hd
    obtain ⟨hd1, hd2⟩ := hd
    have hlen : bs.length = len := by
      have := congrArg List.length hd1
      simpa using this
    have hml : m - len = 0 := by
      have := congrArg List.length hd2
      simpa using this.symm
    have hmc : m = cap := by simpa using hmm
    have hcap : cap = len := by omega
    refine ⟨a, ?_, fun i hi => ?_⟩
    · rw [World.var?_cell hg h3 0, ← Array.getElem?_toList, hcs, hcap, hlen]
      rfl
    · obtain ⟨hv, hr⟩ := hall i (by omega)
      obtain ⟨b, hb1, hb2, _⟩ := DataW.trod_int he hr
      have hV : V i = .int k b := by simpa using hb1
      have hi2 := congrArg (·[i]?) hd1
      simp only [List.getElem?_map, List.getElem?_range (show i < len by omega), List.getElem?_eq_getElem hi, Option.map_some, Option.some.injEq] at hi2
      have hDi : D i = .lit (.int k b) := congrArg Prod.fst hb2
      rw [hDi] at hi2
      have hbb : bs[i] = b := by simpa using hi2
      rw [hv, hV, ← hbb, List.getD_eq_getElem?_getD, List.getElem?_eq_getElem hi]
      rfl

/-- A listed struct of integers: each of its cells. -/
theorem struct_at {P : Program} {W : World} {t : TypeId} {fs : Array Field} {f0 : Field} {k : IntKind} {name : String} {g : Nat} (i : Nat) (z : Int) (ds : List (DataW Unit)) (ht : P.underlying t = some (.struct fs)) (hf : fs[i]? = some f0) (ho : f0.offset = i) (hk : P.underlying f0.type = some (.int k)) (hc : P.cellsOf f0.type = 1)
    (hd : ds[i]? = some (.lit (.int k z))) (hg : P.globalNamed name = some g) (hty : (P.globals[g]?).map (·.type) = some t) (h : VarReads P W name (.agg ds)) :
    W.cell? ⟨g, i, none⟩ = some (.int k z) := by
  obtain ⟨g', t', cs, fuel, p, h1, h2, h3, h4⟩ := h
  obtain rfl := Option.some.inj (hg.symm.trans h1)
  obtain rfl := Option.some.inj (hty.symm.trans h2)
  obtain ⟨xs, n, _, hx, hl, hxl, hall⟩ := DataW.trod_struct ht h4
  have h5 := hall i f0 hf
  have hxs : xs.map (·.1) = ds := by
    have := congrArg Prod.fst hx
    simpa using this.symm
  cases hxi : xs[i]? with
  | none => rw [← hxs, List.getElem?_map, hxi] at hd; simp at hd
  | some b =>
    rw [hxi, ho, hc] at h5
    obtain ⟨z', hz, hb, _⟩ := DataW.trod_int hk h5
    have hzz : z' = z := by
      rw [← hxs, List.getElem?_map, hxi, hb] at hd
      simpa using hd
    have h6 : cs.toList[i]? = some (.int k z) := by
      have := congrArg (·[0]?) hz
      rw [hzz] at this
      simpa [List.getElem?_take, List.getElem?_drop] using this
    rw [World.var?_cell hg h3 i, ← Array.getElem?_toList, h6]

/-- A listed slice of structs of an integer and a string. -/
theorem pair_slice {P : Program} {W : World} {k : IntKind} {t e : TypeId} {fs : Array Field} {f0 f1 : Field} {name : String} {g : Nat} (l : List (DataW Unit)) (ht : P.underlying t = some (.slice e)) (he : P.underlying e = some (.struct fs)) (hc : P.cellsOf e = 2)
    (hf0 : fs[0]? = some f0) (ho0 : f0.offset = 0) (hk0 : P.underlying f0.type = some (.int k)) (hc0 : P.cellsOf f0.type = 1)
    (hf1 : fs[1]? = some f1) (ho1 : f1.offset = 1) (hk1 : P.underlying f1.type = some .string) (hc1 : P.cellsOf f1.type = 1)
    (hg : P.globalNamed name = some g) (hty : (P.globals[g]?).map (·.type) = some t) (h : VarReads P W name (.slice l [])) :
    ∃ a : Addr, W.cell? ⟨g, 0, none⟩ = some (.slice (some a) l.length l.length) ∧ ∀ i z s, l[i]? = some (.agg [.lit (.int k z), .lit (.string s)]) → W.cell? (a.add (i * 2)) = some (.int k z) ∧ W.cell? ((a.add (i * 2)).add 1) = some (.string ⟨s.toArray⟩) := by
  obtain ⟨g', t', cs, fuel, p, h1, h2, h3, h4⟩ := h
  obtain rfl := Option.some.inj (hg.symm.trans h1)
  obtain rfl := Option.some.inj (hty.symm.trans h2)
  rcases open_slice ht h4 with ⟨_, hx⟩ | ⟨a, len, cap, m, n, D, Pl, hcs, hb, hl, hm, hmm, hx, hall⟩
  · cases hx
  · have hd := congrArg Prod.fst hx
    simp only [DataW.slice.injEq] at hd
    obtain ⟨hd1, hd2⟩ := hd
    have hlen : l.length = len := by
      have := congrArg List.length hd1
      simpa using this
    have hml : m - len = 0 := by
      have := congrArg List.length hd2
      simpa using this.symm
    have hmc : m = cap := by simpa using hmm
    have hcap : cap = len := by omega
    refine ⟨a, ?_, fun i z s hi => ?_⟩
    · rw [World.var?_cell hg h3 0, ← Array.getElem?_toList, hcs, hcap, hlen]
      rfl
    · have hil : i < l.length := (List.getElem?_eq_some_iff.1 hi).1
      obtain ⟨cs', hv, hr⟩ := hall i (by omega)
      rw [hc] at hv
      obtain ⟨xs, n', _, hx', hl', hxl, hall'⟩ := DataW.trod_struct he hr
      have hi2 := congrArg (·[i]?) hd1
      simp only [List.getElem?_map, List.getElem?_range (show i < len by omega), Option.map_some] at hi2
      have hDi : D i = .agg (xs.map (·.1)) := congrArg Prod.fst hx'
      rw [hi, hDi] at hi2
      have hxs : xs.map (·.1) = [.lit (.int k z), .lit (.string s)] := by simpa using hi2.symm
      have a0 := hall' 0 f0 hf0
      have a1 := hall' 1 f1 hf1
      cases xs with
      | nil => simp at hxs
      | cons b0 r =>
        cases r with
        | nil => simp at hxs
        | cons b1 r =>
          rw [List.getElem?_cons_zero, ho0, hc0] at a0
          rw [List.getElem?_cons_succ, List.getElem?_cons_zero, ho1, hc1] at a1
          obtain ⟨z', hz, hb0, _⟩ := DataW.trod_int hk0 a0
          obtain ⟨s', hs, hb1, _⟩ := DataW.trod_string hk1 a1
          rw [hb0, hb1] at hxs
          simp only [List.map_cons, List.cons.injEq] at hxs
          have hzz : z' = z := by simpa using hxs.1
          have hss : s'.data.toList = s := by simpa using hxs.2.1
          have hss' : s' = ⟨s.toArray⟩ := by rw [← hss]
          subst hzz
          rw [hss'] at hs
          have e0 : cs'[0]? = some (.int k z') := by
            have := congrArg (·[0]?) hz
            simpa [List.getElem?_take, List.getElem?_drop] using this
          have e1 : cs'[1]? = some (.string ⟨s.toArray⟩) := by
            have := congrArg (·[0]?) hs
            simpa [List.getElem?_take, List.getElem?_drop] using this
          obtain ⟨_, hlen', hcell⟩ := World.cells?_some hv
          have q0 := hcell 0 (by omega)
          have q1 := hcell 1 (by omega)
          rw [e0] at q0
          rw [e1] at q1
          rw [add_nil] at q0
          exact ⟨q0, q1⟩

end Go.Proofs.YtpneioocmpagmaaGreatDoor.dc

