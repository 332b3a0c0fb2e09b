/- bytes.TrimLeft with the digits of eight. -/
import Derived.Test.YtdcgoaikfbbneaaGreatDoorPu0
import Derived.Lib.AsciiSet
import Derived.Laws.Tables
import Derived.Laws.Rows
import Derived.Laws.ResultCell
import Derived.Deep.WholeRow
import Derived.Deep.LoopGhost
namespace Go.Proofs.YtdcgoaikfbbneaaGreatDoor.une
open Go.RowKit
set_option linter.unusedVariables false
set_option linter.unusedSimpArgs false

theorem infoSet : (Tryz.prog.info? 171).map (fun i => (i.zero, i.size)) = some (some (.agg (Array.replicate 256 (.bool false))), 256) := by kernel_rfl

theorem sizeSet : (Tryz.prog.info? 171).map (·.size) = some 256 := by kernel_rfl

/-- '01234567'. -/
def octs : ByteArray := ⟨#[48, 49, 50, 51, 52, 53, 54, 55]⟩

def SetIs (cs : Array Value) : Prop := cs.size = 256 ∧ ∀ x : UInt8, cs[x.toNat]? = some (.bool (octs.data.toList.contains x))

theorem setIs : SetIs (Lib.setCells octs.data.toList) := ⟨Lib.setCells_size _, fun x => Lib.setCells_at _ x⟩

theorem set_one (l : List UInt8) : (Lib.setCells l).toList.all (·.oneCell') = true := by
  have := Lib.setCells_one l
  simpa using this

theorem alloc_row (w : World) (c : Array Value) (T : TypeId) : (w.alloc (.cells c T)).heap[w.heap.size]? = some (.cells c T (0, 0)) := heap_alloc_new w _

set_option maxHeartbeats 4000000 in
set_option maxRecDepth 1000000 in
theorem make_set (w : World) :
    Calls Tryz.prog 93 #[.string octs] w fun e w' => e = .returned (.tuple #[.agg (Lib.setCells octs.data.toList), .bool true]) ∧ Below w.heap.size w w' := by
  obtain ⟨chars, hch⟩ : ∃ c, c = octs := ⟨_, rfl⟩
  have hsz8 : chars.size = 8 := by rw [hch]; rfl
  have hascii : ∀ (j : Nat) b, chars.data.toList[j]? = some b → b.toNat < 128 := by
    rw [hch]
    intro j b hj
    have hb : b ∈ octs.data.toList := List.mem_of_getElem? hj
    have hall : ∀ b ∈ octs.data.toList, b.toNat < 128 := by decide
    exact hall b hb
  rw [← hch]
  have HA := Lib.hid hascii
  clear hascii hch
  go_enter Tryz.func93, Tryz.ntmps93
  go_wp2_with fail
  go_loopg [4] chars.size (fun g s4 wx => ∃ i : Nat, i + g = chars.size ∧ s4 = .int .i64 i ∧ wx = w.alloc (.cells (Lib.setCells (chars.data.toList.take i)) 171))
  case atStart => exact ⟨0, by omega, rfl, rfl⟩
  case round =>
    obtain ⟨i, hig, rfl, rfl⟩ := hrel
    cases gk with
    | zero =>
      obtain rfl : i = chars.size := by omega
      have hiz : ¬ ((chars.size : Int) < (chars.size : Int)) := by omega
      rw [show chars.data.toList.take chars.size = chars.data.toList from List.take_of_length_le (by simp)]
      obtain ⟨cs, hcs⟩ : ∃ cs, cs = Lib.setCells chars.data.toList := ⟨_, rfl⟩
      have hsize : cs.size = 256 := by rw [hcs]; exact Lib.setCells_size _
      have hone : cs.all (·.oneCell') = true := by rw [hcs]; exact Lib.setCells_one _
      have hi : (Tryz.prog.info? 171).map (·.size) = some cs.size := by rw [hsize]; exact sizeSet
      rw [← hcs]
      have HI := Lib.hid hi
      have HO := Lib.hid hone
      have HCS := Lib.hid hcs
      clear hcs hone hi hsize
      go_wp2_with (first | ((with_reducible refine wpList_load_row ?_ 171 (.tmp 2) ?_ w.heap.size ?_ 171 cs (0, 0) _ (alloc_row _ _ _) Tryz.underlying171 ?_ HI.out ?_); rfl; rfl; rfl; rfl) | ((with_reducible refine wpList_store_row ?_ 171 (.tmp 2) (.tmp 20) ?_ w.heap.size cs ?_ ?_ 171 cs (alloc_row _ _ _) HI.out ?_ HO.out ?_); rfl; rfl; rfl; rfl; rfl; rw [World.setRow_alloc_new]))
      refine bodyPost_ret (v := .tuple #[.agg cs, .bool true]) ?_ rfl ⟨by rw [HCS.out], (Below.refl _ _).alloc (Nat.le_refl _) _⟩
      rw [results_cell_tmp rfl]
      have hld := run_loadVar_new (P := Tryz.prog) w 171 cs 256 4 Tryz.underlying171 HI.out
      simp [asAddr, Result.andThen, hld]
    | succ g =>
      have hi : i < chars.size := by omega
      have hiz : (i : Int) < (chars.size : Int) := by omega
      obtain ⟨x, hx⟩ : ∃ x : UInt8, chars[i]'hi = x := ⟨_, rfl⟩
      have hxl : chars.data.toList[i]? = some x := by rw [← hx]; simp [ByteArray.getElem_eq_getElem_data]
      have hx128 : (x.toNat : Int) < 128 := by have := HA.out i x hxl; omega
      have hx256 : (x.toNat : Int) < 256 := by omega
      have hcell := Lib.setCells_at (chars.data.toList.take i) x
      have Hx := Lib.hid hxl
      clear hxl
      go_wp2_with fail
      go_roundg g
      case measure => omega
      case rel => exact ⟨i + 1, by omega, by first | rfl | simp, by rw [List.take_add_one, Hx.out]; simp only [Option.toList]; rw [Lib.setCells_snoc]⟩

end Go.Proofs.YtdcgoaikfbbneaaGreatDoor.une
