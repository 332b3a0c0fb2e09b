/- impl.given, defval.Marshal at enums. -/
import Derived.Test.YtonfdfikgnhheaaGreatDoorEa
import Derived.Test.YtonfdfikgnhheaaGreatDoorShelf
import Derived.Lib.AppendIntMem
import Derived.BigQuiet
import Derived.Deep.QuietTactic
import Derived.Deep.RegionWith
import Derived.Deep.RegionHeld3
namespace Go.Proofs.YtonfdfikgnhheaaGreatDoor.enums
open Go.RowKit
set_option linter.unusedVariables false
set_option linter.unusedSimpArgs false

theorem bdn {B : Nat} {a w : World} (h : Below B a w) (n : Nat) : Below B a (w.drewN n) := ⟨h.os, h.tape, h.output, h.size, h.block⟩

/-- Behind a call that began when a block had just been laid: the block. -/
theorem after_box {w w2 : World} {o : Obj} (hb : Below (w.alloc o).heap.size (w.alloc o) w2) :
    w2.heap[w.heap.size]? = some o ∧ w.heap.size < w2.heap.size ∧ Below w.heap.size w w2 := by
  have hs : (w.alloc o).heap.size = w.heap.size + 1 := by simp
  exact ⟨(hb.block _ (by omega)).trans (heap_alloc_new w o), by have := hb.size; omega, ((Below.refl _ _).alloc (Nat.le_refl _) _).trans (hb.mono (by omega))⟩

theorem alloc_old {w : World} {o o' : Obj} {k : Nat} (h : w.heap[k]? = some o') : (w.alloc o).heap[k]? = some o' := by
  have hk := (Array.getElem?_eq_some_iff.1 h).1
  rw [Below.heap_alloc _ _ _ hk]; exact h

theorem cell_blk {w : World} {b : Nat} {cs : Array Value} {T : TypeId} {z : Nat × Nat} (h : w.heap[b]? = some (.cells cs T z)) {j : Nat} {v : Value} (hj : cs[j]? = some v) : w.cell? ⟨b, j, none⟩ = some v := by
  rw [cell_of_row w b j cs T z h]; exact hj

theorem grown_below {w : World} (k : Nat) (os : Array Obj) : Below w.heap.size w (Sort.grow (w.drewN k) os) := by
  refine ⟨rfl, rfl, rfl, ?_, fun i hi => ?_⟩
  · show w.heap.size ≤ (w.heap ++ os).size
    simp
  · show (w.heap ++ os)[i]? = w.heap[i]?
    rw [Array.getElem?_append_left hi]

/-- An enum's value, as the package has it. -/
def valE (n : Int) : Value := .agg #[.int .i64 10, .int .u64 (IntKind.u64.wrap n), .string ⟨#[]⟩, .slice none 0 0]

/-- impl.Value at an enum. -/
def inE (n : Int) (s : ByteArray) : Value := .agg #[.int .i64 14, .bool false, .int .i64 n, .int .u64 0, .int .u64 0, .string ⟨#[]⟩, .string s]

theorem wrap_back {n : Int} (h0 : -2147483648 ≤ n) (h1 : n ≤ 2147483647) : IntKind.i32.wrap (IntKind.u64.wrap n) = n := by
  rw [IntKind.wrap_i32, IntKind.wrap_u64]; omega

set_option maxHeartbeats 4000000 in
set_option maxRecDepth 100000 in
theorem givenE (n : Int) (s : ByteArray) (h0 : -2147483648 ≤ n) (h1 : n ≤ 2147483647) (w : World) :
    Calls Tryz.prog 46 #[inE n s] w fun e w' => e = .returned (valE n) ∧ Below w.heap.size w w' := by
  have hw : IntKind.i32.wrap n = n := by rw [IntKind.wrap_i32]; omega
  unfold inE valE
  go_enter Tryz.func46, Tryz.ntmps46
  go_wp2
  go_returns
  exact ⟨rfl, by go_grown⟩

theorem name_method (x : ByteArray × Int) (w : World) : (method 157 104 (.agg #[.string x.1, .int .i32 x.2]) "Name").run Tryz.prog w = .ok (270, .agg #[.string x.1, .int .i32 x.2]) w := by kernel_rfl

set_option maxHeartbeats 4000000 in
set_option maxRecDepth 100000 in
theorem dmarshal_name (n : Int) (x : ByteArray × Int) (w : World) :
    Calls Tryz.prog 45 #[valE n, ifaceE x, .int .i8 14, .int .i64 1] w
      fun e w' => e = .returned (.tuple #[.string x.1, .nilIface]) ∧ Below w.heap.size w w' := by
  unfold valE ifaceE
  go_enter Tryz.func45, Tryz.ntmps45
  go_wp2
  go_returns
  exact ⟨rfl, by go_grown⟩

set_option maxHeartbeats 4000000 in
set_option maxRecDepth 100000 in
theorem dmarshal_tag (n : Int) (h0 : -2147483648 ≤ n) (h1 : n ≤ 2147483647) (ev : Value) (w : World) (htab : Lib.TabIs Tryz.prog w "internal/strconv.uint64pow10" .u64 Lib.pow10Tab) :
    Calls Tryz.prog 45 #[valE n, ev, .int .i8 14, .int .i64 2] w
      fun e w' => e = .returned (.tuple #[.string ⟨(Lib.itoa n).toArray⟩, .nilIface]) ∧ Below w.heap.size w w' := by
  have hw : IntKind.i32.wrap (IntKind.u64.wrap n) = n := wrap_back h0 h1
  have HF := Lib.hid (fun W hW => Tryz.strconv_FormatInt_10 n (by omega) (by omega) W hW)
  have HT := Lib.hid (Lib.tabBelow_of_tabIs htab)
  clear htab
  unfold valE
  go_enter Tryz.func45, Tryz.ntmps45
  go_wp2_with (go_at_call 78; go_in)
  refine (HF.out _ (HT.out _ (by go_grown))).mono ?_
  rintro e w' ⟨rfl, k, os, rfl⟩
  go_wp2_with fail
  go_ret2
  refine ⟨rfl, Below.trans ?_ ((grown_below k os).mono ?_)⟩
  · go_grown
  · simp; omega

/-- An enum's row behind a call that makes it. -/
def MadeE (w w' : World) (v : Value) (es : List (ByteArray × Int)) : Prop := ∃ g c, v = .slice (some ⟨g, 0, none⟩) es.length c ∧ ERow w' g es ∧ Below w.heap.size w w'

theorem q_below {P : Program} {f : FuncId} {args : Array Value} {w : World} {Q : Ending → World → Prop} (h : Calls P f args w Q) : Calls P f args w Q := h

set_option maxHeartbeats 4000000 in
set_option maxRecDepth 100000 in
theorem defMarshal (n : Int) (x : ByteArray × Int) (f : Int) (out : ByteArray) (es : List (ByteArray × Int)) (nv uv : Value) (hx : x.2 = n) (h0 : -2147483648 ≤ n) (h1 : n ≤ 2147483647) (w : World)
    (EN : ∀ W, Below w.heap.size w W → Calls Tryz.prog 43 #[nv, uv] W fun e w' => ∃ v, e = .returned v ∧ MadeE W w' v es)
    (BN : ∀ W g c, ERow W g es → Calls Tryz.prog 44 #[.slice (some ⟨g, 0, none⟩) es.length c, .int .i32 n] W fun e w' => e = .returned (ifaceE x) ∧ Below W.heap.size W w')
    (DM : ∀ W, Below w.heap.size w W → Calls Tryz.prog 45 #[valE n, ifaceE x, .int .i8 14, .int .i64 f] W fun e w' => e = .returned (.tuple #[.string out, .nilIface]) ∧ Below W.heap.size W w') :
    Calls Tryz.prog 23 #[inE n x.1, .int .i64 f, nv, uv] w fun e w' => e = .returned (.tuple #[.string out, .bool true]) ∧ Below w.heap.size w w' := by
  have HEN := Lib.hid EN
  have HBN := Lib.hid BN
  have HDM := Lib.hid DM
  have HXE := Lib.hid hx
  have hw32 : IntKind.i32.wrap n = n := by rw [IntKind.wrap_i32]; omega
  clear EN BN DM hx
  unfold inE
  go_enter Tryz.func23, Tryz.ntmps23
  go_wp2_with fail
  obtain ⟨W1, hW1⟩ : ∃ W1, W1 = w.alloc (.cells #[.int .i64 14, .bool false, .int .i64 n, .int .u64 0, .int .u64 0, .string ⟨#[]⟩, .string x.1] 56) := ⟨_, rfl⟩
  have hb1 : Below w.heap.size w W1 := by rw [hW1]; exact (Below.refl _ _).alloc (Nat.le_refl _) _
  have hs1 : W1.heap.size = w.heap.size + 1 := by rw [hW1]; simp
  have HBL : W1.heap[w.heap.size]? = some (.cells #[.int .i64 14, .bool false, .int .i64 n, .int .u64 0, .int .u64 0, .string ⟨#[]⟩, .string x.1] 56 (0, 0)) := by rw [hW1]; exact heap_alloc_new w _
  have K : ∀ w' : World, Below W1.heap.size W1 w' → w'.cell? ⟨w.heap.size, 0, none⟩ = some (.int .i64 14) ∧ w'.cell? ⟨w.heap.size, 1, none⟩ = some (.bool false) ∧ w'.cell? ⟨w.heap.size, 2, none⟩ = some (.int .i64 n) ∧ w'.cell? ⟨w.heap.size, 3, none⟩ = some (.int .u64 0) ∧ w'.cell? ⟨w.heap.size, 4, none⟩ = some (.int .u64 0) ∧ w'.cell? ⟨w.heap.size, 5, none⟩ = some (.string ⟨#[]⟩) ∧ w'.cell? ⟨w.heap.size, 6, none⟩ = some (.string x.1) := fun w' hb => by
    have h := (hb.block w.heap.size (by omega)).trans HBL
    exact ⟨cell_blk h rfl, cell_blk h rfl, cell_blk h rfl, cell_blk h rfl, cell_blk h rfl, cell_blk h rfl, cell_blk h rfl⟩
  rw [← hW1]
  clear hW1
  have HK := Lib.hid K
  have HB1 := Lib.hid hb1
  clear K HBL hb1
  go_region_held3 (fun w' => w'.cell? ⟨w.heap.size, 0, none⟩ = some (.int .i64 14) ∧ w'.cell? ⟨w.heap.size, 1, none⟩ = some (.bool false) ∧ w'.cell? ⟨w.heap.size, 2, none⟩ = some (.int .i64 n) ∧ w'.cell? ⟨w.heap.size, 3, none⟩ = some (.int .u64 0) ∧ w'.cell? ⟨w.heap.size, 4, none⟩ = some (.int .u64 0) ∧ w'.cell? ⟨w.heap.size, 5, none⟩ = some (.string ⟨#[]⟩) ∧ w'.cell? ⟨w.heap.size, 6, none⟩ = some (.string x.1))
    (first | exact HK.out _ (Below.refl _ _).drew | exact HK.out _ (Below.refl _ _) | exact HK.out _ hb2' | exact HK.out _ hb3')
    (first
      | (go_at_call 43; refine (HEN.out _ HB1.out.drew).mono ?_; rintro e w2 ⟨v, rfl, g, c, rfl, hrow, hb2⟩; have hb2' : Below W1.heap.size W1 w2 := ((Below.refl _ _).drew).trans hb2)
      | (go_at_call 44; refine (HBN.out _ _ _ hrow).mono ?_; rintro e w3 ⟨rfl, hb3⟩; have hb3' : Below W1.heap.size W1 w3 := hb2'.trans (hb3.mono hb2'.size)))
  have HB3 := Lib.hid hb3'
  have HG := Lib.hid (fun W => givenE n x.1 h0 h1 W)
  unfold valE ifaceE at HDM
  unfold inE valE at HG
  clear hb2' hb3' hb2 hb3 hrow
  unfold ifaceE
  go_wp2_with fail
  go_region_held3 (fun w' => w'.cell? ⟨w.heap.size, 0, none⟩ = some (.int .i64 14) ∧ w'.cell? ⟨w.heap.size, 1, none⟩ = some (.bool false) ∧ w'.cell? ⟨w.heap.size, 2, none⟩ = some (.int .i64 n) ∧ w'.cell? ⟨w.heap.size, 3, none⟩ = some (.int .u64 0) ∧ w'.cell? ⟨w.heap.size, 4, none⟩ = some (.int .u64 0) ∧ w'.cell? ⟨w.heap.size, 5, none⟩ = some (.string ⟨#[]⟩) ∧ w'.cell? ⟨w.heap.size, 6, none⟩ = some (.string x.1))
    (first | exact HK.out _ HB3.out.drew | exact HK.out _ HB3.out | exact HK.out _ hb4' | exact HK.out _ hb5')
    (first
      | (go_at_call 46; ((with_reducible refine (HG.out _).mono ?_)); rintro e w4 ⟨rfl, hb4⟩; have hb4' : Below W1.heap.size W1 w4 := HB3.out.drew.trans (hb4.mono HB3.out.size); have hb4w := HB1.out.trans (hb4'.mono HB1.out.size))
      | (go_at_call 45; refine (HDM.out _ hb4w).mono ?_; rintro e w5 ⟨rfl, hb5⟩; have hb5' : Below W1.heap.size W1 w5 := hb4'.trans (hb5.mono hb4'.size)))
  have HB5 := Lib.hid (HB1.out.trans (hb5'.mono HB1.out.size))
  clear hb4' hb5' hb4 hb5 hb4w
  go_wp2_with fail
  go_ret2
  exact ⟨rfl, HB5.out⟩

end Go.Proofs.YtonfdfikgnhheaaGreatDoor.enums
