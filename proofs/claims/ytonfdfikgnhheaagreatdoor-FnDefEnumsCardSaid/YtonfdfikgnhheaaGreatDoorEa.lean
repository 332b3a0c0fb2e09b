/- (impl.enumValues).ByNumber and ByName: the first value of a number, of a name. -/
import Derived.Test.YtonfdfikgnhheaaGreatDoorProg
import Derived.WalkKit
import Derived.WalkSpells
import Derived.WalkLawsBesides
import Derived.Below
import Derived.OwnWalk
import Derived.Lib.Hide
import Derived.Handy
import Derived.Deep.LoopGhost
namespace Go.Proofs.YtonfdfikgnhheaaGreatDoor.enums
open Go.RowKit
set_option linter.unusedVariables false
set_option linter.unusedSimpArgs false

def encE (x : ByteArray × Int) : List Value := [.string x.1, .int .i32 x.2]
def ifaceE (x : ByteArray × Int) : Value := .iface 104 (.agg #[.string x.1, .int .i32 x.2])

/-- The values of an enum, at the head of a block. -/
def ERow (w : World) (g : Nat) (es : List (ByteArray × Int)) : Prop := g < w.heap.size ∧ ∀ (j : Nat) (x : ByteArray × Int), es[j]? = some x → w.cell? ⟨g, j * 2, none⟩ = some (.string x.1) ∧ w.cell? ⟨g, j * 2 + 1, none⟩ = some (.int .i32 x.2)

theorem ERow.below {w w' : World} {g : Nat} {es : List (ByteArray × Int)} (h : ERow w g es) (hb : Below w.heap.size w w') : ERow w' g es :=
  ⟨Nat.lt_of_lt_of_le h.1 hb.size, fun j x hj => ⟨(hb.cell (p := ⟨g, j * 2, none⟩) h.1).trans (h.2 j x hj).1, (hb.cell (p := ⟨g, j * 2 + 1, none⟩) h.1).trans (h.2 j x hj).2⟩⟩

set_option maxHeartbeats 4000000 in
set_option maxRecDepth 100000 in
theorem by_number (es : List (ByteArray × Int)) (g c : Nat) (at_ : Nat) (x : ByteArray × Int) (hat : es[at_]? = some x) (hfirst : ∀ j y, j < at_ → es[j]? = some y → y.2 ≠ x.2) (hlen : es.length ≤ 1000000) (w : World) (hr : ERow w g es) :
    Calls Tryz.prog 44 #[.slice (some ⟨g, 0, none⟩) es.length c, .int .i32 x.2] w fun e w' => e = .returned (ifaceE x) ∧ Below w.heap.size w w' := by
  have hlt : at_ < es.length := (List.getElem?_eq_some_iff.1 hat).1
  have HF := Lib.hid hfirst
  have HA := Lib.hid hat
  have HR := Lib.hid hr
  clear hfirst hat hr
  obtain ⟨xs, xn⟩ := x
  unfold ifaceE
  go_enter Tryz.func44, Tryz.ntmps44
  go_wp2_with fail
  go_loopw [9] (fun v wr => ∃ k : Nat, v = .int .i64 k ∧ k ≤ at_ ∧ Below w.heap.size w wr) (fun v _ => es.length - (intOf v).toNat)
  case atStart => exact ⟨0, rfl, by omega, Below.refl _ _⟩
  case round =>
    obtain ⟨k, rfl, hk, hb⟩ := hrel
    have HB := Lib.hid hb
    have HRW := Lib.hid (HR.out.below hb)
    have hsz := hb.size
    clear hb
    have hkl : (k : Int) < (es.length : Int) := by omega
    by_cases hka : k = at_
    · subst hka
      have hc1 := (HRW.out.2 k _ HA.out).1
      have hc2 := (HRW.out.2 k _ HA.out).2
      go_wp2_with fail
      go_ret
      exact ⟨rfl, HB.out.alloc hsz _⟩
    · obtain ⟨y, hy⟩ : ∃ y, es[k]? = some y := ⟨_, List.getElem?_eq_getElem (by omega)⟩
      have hne : (y.2 == xn) = false := by rw [beq_eq_false_iff_ne]; exact HF.out k y (by omega) hy
      have hc1 := (HRW.out.2 k _ hy).1
      have hc2 := (HRW.out.2 k _ hy).2
      have HY := Lib.hid hy
      obtain ⟨ys, yn⟩ := y
      clear hy
      go_wp2_with fail
      go_roundw
      case rel => exact ⟨k + 1, by go_num, by omega, (HB.out.alloc hsz _)⟩
      case measure => simp [intOf]; omega

set_option maxHeartbeats 4000000 in
set_option maxRecDepth 100000 in
theorem by_name (es : List (ByteArray × Int)) (g c : Nat) (at_ : Nat) (x : ByteArray × Int) (hat : es[at_]? = some x) (hfirst : ∀ j y, j < at_ → es[j]? = some y → y.1 ≠ x.1) (hlen : es.length ≤ 1000000) (w : World) (hr : ERow w g es) :
    Calls Tryz.prog 268 #[.slice (some ⟨g, 0, none⟩) es.length c,   .string x.1] w fun e w' => e = .returned (ifaceE x) ∧ Below w.heap.size w w' := by
  have hlt : at_ < es.length := (List.getElem?_eq_some_iff.1 hat).1
  have HF := Lib.hid hfirst
  have HA := Lib.hid hat
  have HR := Lib.hid hr
  clear hfirst hat hr
  obtain ⟨xs, xn⟩ := x
  unfold ifaceE
  go_enter Tryz.func268, Tryz.ntmps268
  go_wp2_with fail
  go_loopw [9] (fun v wr => ∃ k : Nat, v = .int .i64 k ∧ k ≤ at_ ∧ Below w.heap.size w wr) (fun v _ => es.length - (intOf v).toNat)
  case atStart => exact ⟨0, rfl, by omega, Below.refl _ _⟩
  case round =>
    obtain ⟨k, rfl, hk, hb⟩ := hrel
    have HB := Lib.hid hb
    have HRW := Lib.hid (HR.out.below hb)
    have hsz := hb.size
    clear hb
    have hkl : (k : Int) < (es.length : Int) := by omega
    by_cases hka : k = at_
    · subst hka
      have heq2 : (xs.toList == xs.toList) = true := by simp
      have hc1 := (HRW.out.2 k _ HA.out).1
      have hc2 := (HRW.out.2 k _ HA.out).2
      go_wp2_with fail
      go_ret
      exact ⟨rfl, HB.out.alloc hsz _⟩
    · obtain ⟨y, hy⟩ : ∃ y, es[k]? = some y := ⟨_, List.getElem?_eq_getElem (by omega)⟩
      have hn0 : y.1 ≠ xs := HF.out k y (by omega) hy
      have hne2 : (y.1.toList == xs.toList) = false := by
        rw [beq_eq_false_iff_ne]; intro h; apply hn0; rw [ByteArray.toList_eq, ByteArray.toList_eq] at h; exact ByteArray.ext (Array.toList_inj.1 h)
      clear hn0
      have hc1 := (HRW.out.2 k _ hy).1
      have hc2 := (HRW.out.2 k _ hy).2
      have HY := Lib.hid hy
      obtain ⟨ys, yn⟩ := y
      clear hy
      go_wp2_with fail
      go_roundw
      case rel => exact ⟨k + 1, by go_num, by omega, (HB.out.alloc hsz _)⟩
      case measure => simp [intOf]; omega

end Go.Proofs.YtonfdfikgnhheaaGreatDoor.enums
