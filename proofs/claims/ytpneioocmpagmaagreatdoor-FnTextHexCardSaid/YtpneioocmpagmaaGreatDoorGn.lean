/- What FnJsonInts's listed variables hold. -/
import Derived.Test.YtpneioocmpagmaaGreatDoorFj
import Derived.Test.YtpneioocmpagmaaGreatDoorPp
import Derived.Test.YtpneioocmpagmaaGreatDoorRows
import Derived.OpenShut
import Derived.LaidMore
import Derived.Lay
import Derived.Stop.LaidErr
import Derived.Lib.LaidTab
import Derived.Lib.LaidU8T
import Derived.Deep.Slices
namespace Go.Proofs.YtpneioocmpagmaaGreatDoor.jn
open Go.ChangeShapes Go.WideShapes Go.ChangeAt Go.RowKit Go.Shelf Go.Lib
open Go.Proofs.YtpneioocmpagmaaGreatDoor.pu Go.Proofs.YtpneioocmpagmaaGreatDoor.fl Go.Proofs.YtpneioocmpagmaaGreatDoor Go.Deep
set_option linter.unusedVariables false
set_option linter.unusedSimpArgs false

theorem cell_in {w : World} {p : Addr} {v : Value} (h : w.cell? p = some v) : p.block < w.heap.size := by
  unfold World.cell? at h
  rcases Nat.lt_or_ge p.block w.heap.size with hl | hl
  · exact hl
  · rw [Array.getElem?_eq_none_iff.2 hl] at h; simp at h

theorem trod_float {H : Type} {enc : TypeId × Value → H} {P : Program} {w : World} {base : Nat} {spare : Nat → Bool} {held : Bool} {fuel : Nat} {t : TypeId} {cs : List Value} {x : DataW H × List MemPlace} {k : FloatKind}
    (ht : P.underlying t = some (.float k)) (h : DataW.trod enc P w base spare held fuel t cs = some x) : ∃ b, cs = [.float k b] ∧ x.1 = .lit (.float k b) := by
  cases fuel with
  | zero => simp [DataW.trod] at h
  | succ n =>
    unfold DataW.trod at h
    rw [ht] at h
    split at h <;> simp_all
    exact h.2 ▸ rfl

theorem float_slice {P : Program} {W : World} {k : FloatKind} {t e : TypeId} {name : String} {g : Nat} (bs : List Nat) (ht : P.underlying t = some (.slice e)) (he : P.underlying e = some (.float k)) (hc : P.cellsOf e = 1)
    (hg : P.globalNamed name = some g) (hty : (P.globals[g]?).map (·.type) = some t) (h : VarReads P W name (.slice (bs.map fun b => .lit (.float k b)) [])) :
    ∃ a : Addr, W.cell? ⟨g, 0, none⟩ = some (.slice (some a) bs.length bs.length) ∧ ∀ i, i < bs.length → W.cell? (a.add i) = some (.float k (bs.getD i 0)) := by
  obtain ⟨g', t', cs, fuel, p, h1, h2, h3, h4⟩ := h
  obtain rfl := Option.some.inj (hg.symm.trans h1)
  obtain rfl := Option.some.inj (hty.symm.trans h2)
  rcases open_slice1 ht hc h4 with ⟨_, hx⟩ | ⟨a, len, cap, m, n, V, D, Pl, hcs, hb, hl, hm, hmm, hx, hall⟩
  · cases hx
  · have hd := congrArg Prod.fst hx
    simp only [DataW.slice.injEq] at hd
    obtain ⟨hd1, hd2⟩ := hd
    have hlen : bs.length = len := by
      have := congrArg List.length hd1
      simpa using this
    have hml : m - len = 0 := by
      have := congrArg List.length hd2
      simpa using this.symm
    have hmc : m = cap := by simpa using hmm
    have hcap : cap = len := by omega
    refine ⟨a, ?_, fun i hi => ?_⟩
    · rw [World.var?_cell hg h3 0, ← Array.getElem?_toList, hcs, hcap, hlen]
      rfl
    · obtain ⟨hv, hr⟩ := hall i (by omega)
      obtain ⟨b, hb1, hb2⟩ := trod_float he hr
      have hV : V i = .float k b := by simpa using hb1
      have hi2 := congrArg (·[i]?) hd1
      simp only [List.getElem?_map, List.getElem?_range (show i < len by omega), List.getElem?_eq_getElem hi, Option.map_some, Option.some.injEq] at hi2
      simp only at hb2
      rw [hb2] at hi2
      have hbb : bs[i] = b := by simpa using hi2
      rw [hv, hV, ← hbb, List.getD_eq_getElem?_getD, List.getElem?_eq_getElem hi]
      rfl

theorem bool_var {P : Program} {W : World} {t : TypeId} {name : String} {g : Nat} (b : Bool) (ht : P.underlying t = some .bool) (hg : P.globalNamed name = some g) (hty : (P.globals[g]?).map (·.type) = some t) (h : VarReads P W name (.lit (.bool b))) :
    W.cell? ⟨g, 0, none⟩ = some (.bool b) := by
  obtain ⟨g', t', cs, fuel, p, h1, h2, h3, h4⟩ := h
  obtain rfl := Option.some.inj (hg.symm.trans h1)
  obtain rfl := Option.some.inj (hty.symm.trans h2)
  obtain ⟨b', hcs, hx⟩ := DataW.trod_bool ht h4
  have hbb : b = b' := by
    have := congrArg Prod.fst hx
    simpa using this
  rw [World.var?_cell hg h3 0, ← Array.getElem?_toList, hcs, hbb]
  rfl

theorem struct_first {P : Program} {W : World} {t : TypeId} {fs : Array Field} {f0 : Field} {k : IntKind} {name : String} {g : Nat} (z : Int) (ds : List (DataW Unit)) (ht : P.underlying t = some (.struct fs)) (hf : fs[0]? = some f0) (ho : f0.offset = 0) (hk : P.underlying f0.type = some (.int k)) (hc : P.cellsOf f0.type = 1)
    (hg : P.globalNamed name = some g) (hty : (P.globals[g]?).map (·.type) = some t) (h : VarReads P W name (.agg (.lit (.int k z) :: ds))) :
    W.cell? ⟨g, 0, none⟩ = some (.int k z) := by
  obtain ⟨g', t', cs, fuel, p, h1, h2, h3, h4⟩ := h
  obtain rfl := Option.some.inj (hg.symm.trans h1)
  obtain rfl := Option.some.inj (hty.symm.trans h2)
  obtain ⟨xs, n, _, hx, hl, hxl, hall⟩ := DataW.trod_struct ht h4
  have h5 := hall 0 f0 hf
  have hxs : xs.map (·.1) = .lit (.int k z) :: ds := by
    have := congrArg Prod.fst hx
    simpa using this.symm
  cases xs with
  | nil => simp at hxs
  | cons b r =>
    rw [List.getElem?_cons_zero, ho, hc] at h5
    obtain ⟨z', hz, hb, _⟩ := DataW.trod_int hk h5
    have hzz : z' = z := by
      rw [hb] at hxs
      simpa using (List.cons.inj hxs).1
    have h6 : cs.toList[0]? = some (.int k z) := by
      have := congrArg (·[0]?) hz
      rw [hzz] at this
      simpa [List.getElem?_take, List.getElem?_drop] using this
    rw [World.var?_cell hg h3 0, ← Array.getElem?_toList, h6]

def goodB (k : FloatKind) (b : Nat) : Bool := match k.decode b with
  | .number _ m _ => m != 0
  | _ => false
theorem good_of {k : FloatKind} {b : Nat} (h : goodB k b = true) : fl.Good k b := by
  unfold goodB at h
  unfold fl.Good
  split at h
  · rename_i s m e hd
    exact ⟨s, m, e, hd, by simpa using h⟩
  · cases h

def bs64 : List Nat := [4607182418800017408, 4621819117588971520, 4636737291354636288, 4652007308841189376, 4666723172467343360, 4681608360884174848, 4696837146684686336, 4711630319722168320, 4726483295884279808, 4741671816366391296, 4756540486875873280, 4771362005757984768, 4786511204640096256, 4801453603149578240, 4816244402031689728, 4831355200913801216, 4846369599423283200, 4861130398305394688, 4876203697187506176, 4891288408196988160, 4906019910204099648, 4921056587992461136, 4936209963552724370]
def bs32 : List Nat := [1065353216, 1092616192, 1120403456, 1148846080, 1176256512, 1203982336, 1232348160, 1259902592, 1287568416, 1315859240, 1343554297]
theorem f64_eq : (Rows.laid_internal_strconv_float64pow10 : DataW Unit) = .slice (bs64.map fun b => .lit (.float .f64 b)) [] := by kernel_rfl
theorem f32_eq : (Rows.laid_internal_strconv_float32pow10 : DataW Unit) = .slice (bs32.map fun b => .lit (.float .f32 b)) [] := by kernel_rfl
theorem good64 : ∀ i, i < 23 → goodB .f64 (bs64.getD i 0) = true := by decide +kernel
theorem good32 : ∀ i, i < 11 → goodB .f32 (bs32.getD i 0) = true := by decide +kernel

set_option maxRecDepth 100000 in
theorem rows_eq : Go.Pinned.pow10Rows = (List.range 696).map fun i => (tHi i, tLo i) := by decide +kernel

theorem pow_eq : Rows.laid_internal_strconv_pow10Tab = .agg ((List.range 696).map fun i => .agg ([(tHi i : Int), (tLo i : Int)].map fun z => .lit (.int .u64 z))) := by
  unfold Rows.laid_internal_strconv_pow10Tab Go.Pinned.pow10Tab
  rw [rows_eq, List.map_map]
  rfl

theorem FEnv.below {w w' : World} (h : FEnv w) (hb : Below w.heap.size w w') : FEnv w' := by
  refine ⟨(hb.cell (cell_in h.opt)).trans h.opt, ⟨(hb.cell (cell_in h.tabs.m64)).trans h.tabs.m64, ?_, ?_⟩, fun i hi => ?_, Nat.lt_of_lt_of_le h.lt hb.size⟩
  · obtain ⟨a, ha, hk⟩ := h.tabs.t64
    exact ⟨a, (hb.cell (cell_in ha)).trans ha, fun k hk' => by obtain ⟨x, hx, hg⟩ := hk k hk'; exact ⟨x, (hb.cell (cell_in hx)).trans hx, hg⟩⟩
  · obtain ⟨a, ha, hk⟩ := h.tabs.t32
    exact ⟨a, (hb.cell (cell_in ha)).trans ha, fun k hk' => by obtain ⟨x, hx, hg⟩ := hk k hk'; exact ⟨x, (hb.cell (cell_in hx)).trans hx, hg⟩⟩
  · obtain ⟨h1, h2⟩ := h.pows i hi
    exact ⟨(hb.cell (cell_in h1)).trans h1, (hb.cell (cell_in h2)).trans h2⟩

end Go.Proofs.YtpneioocmpagmaaGreatDoor.jn

