/- bytes.TrimLeft with the digits of base 16. -/
import Derived.Test.YtpneioocmpagmaaGreatDoorPu0
import Derived.Lib.AsciiSet
import Derived.Laws.Tables
import Derived.Laws.Rows
import Derived.Laws.ResultCell
import Derived.Deep.WholeRow
import Derived.Deep.LoopGhost
import Derived.Deep.DeepCutAuto
import Derived.WalkKit
import Derived.Below
namespace Go.Proofs.YtpneioocmpagmaaGreatDoor.txh
open Go.RowKit
set_option linter.unusedVariables false
set_option linter.unusedSimpArgs false

theorem infoSet : (Tryz.prog.info? 249).map (fun i => (i.zero, i.size)) = some (some (.agg (Array.replicate 256 (.bool false))), 256) := by kernel_rfl

theorem sizeSet : (Tryz.prog.info? 249).map (·.size) = some 256 := by kernel_rfl

/-- The digits of base 16. -/
def octs : ByteArray := ⟨#[48, 49, 50, 51, 52, 53, 54, 55, 56, 57, 97, 98, 99, 100, 101, 102, 65, 66, 67, 68, 69, 70]⟩

/-- A digit of base 16. -/
def HexC (x : Nat) : Prop := (48 ≤ x ∧ x ≤ 57) ∨ (97 ≤ x ∧ x ≤ 102) ∨ (65 ≤ x ∧ x ≤ 70)

instance (x : Nat) : Decidable (HexC x) := inferInstanceAs (Decidable ((48 ≤ x ∧ x ≤ 57) ∨ (97 ≤ x ∧ x ≤ 102) ∨ (65 ≤ x ∧ x ≤ 70)))

def SetIs (cs : Array Value) : Prop := cs.size = 256 ∧ ∀ x : UInt8, cs[x.toNat]? = some (.bool (octs.data.toList.contains x))

theorem setIs : SetIs (Lib.setCells octs.data.toList) := ⟨Lib.setCells_size _, fun x => Lib.setCells_at _ x⟩

theorem set_one (l : List UInt8) : (Lib.setCells l).toList.all (·.oneCell') = true := by
  have := Lib.setCells_one l
  simpa using this

theorem alloc_row (w : World) (c : Array Value) (T : TypeId) : (w.alloc (.cells c T)).heap[w.heap.size]? = some (.cells c T (0, 0)) := heap_alloc_new w _

set_option maxHeartbeats 4000000 in
set_option maxRecDepth 1000000 in
theorem make_set (w : World) :
    Calls Tryz.prog 193 #[.string octs] w fun e w' => e = .returned (.tuple #[.agg (Lib.setCells octs.data.toList), .bool true]) ∧ Below w.heap.size w w' := by
  obtain ⟨chars, hch⟩ : ∃ c, c = octs := ⟨_, rfl⟩
  have hsz8 : chars.size = 22 := by rw [hch]; rfl
  have hascii : ∀ (j : Nat) b, chars.data.toList[j]? = some b → b.toNat < 128 := by
    rw [hch]
    intro j b hj
    have hb : b ∈ octs.data.toList := List.mem_of_getElem? hj
    have hall : ∀ b ∈ octs.data.toList, b.toNat < 128 := by decide
    exact hall b hb
  rw [← hch]
  have HA := Lib.hid hascii
  clear hascii hch
  go_enter Tryz.func193, Tryz.ntmps193
  go_wp2_with fail
  go_loopg [4] chars.size (fun g s4 wx => ∃ i : Nat, i + g = chars.size ∧ s4 = .int .i64 i ∧ wx = w.alloc (.cells (Lib.setCells (chars.data.toList.take i)) 249))
  case atStart => exact ⟨0, by omega, rfl, rfl⟩
  case round =>
    obtain ⟨i, hig, rfl, rfl⟩ := hrel
    cases gk with
    | zero =>
      obtain rfl : i = chars.size := by omega
      have hiz : ¬ ((chars.size : Int) < (chars.size : Int)) := by omega
      rw [show chars.data.toList.take chars.size = chars.data.toList from List.take_of_length_le (by simp)]
      obtain ⟨cs, hcs⟩ : ∃ cs, cs = Lib.setCells chars.data.toList := ⟨_, rfl⟩
      have hsize : cs.size = 256 := by rw [hcs]; exact Lib.setCells_size _
      have hone : cs.all (·.oneCell') = true := by rw [hcs]; exact Lib.setCells_one _
      have hi : (Tryz.prog.info? 249).map (·.size) = some cs.size := by rw [hsize]; exact sizeSet
      rw [← hcs]
      have HI := Lib.hid hi
      have HO := Lib.hid hone
      have HCS := Lib.hid hcs
      clear hcs hone hi hsize
      go_wp2_with (first | ((with_reducible refine wpList_load_row ?_ 249 (.tmp 2) ?_ w.heap.size ?_ 249 cs (0, 0) _ (alloc_row _ _ _) Tryz.underlying249 ?_ HI.out ?_); rfl; rfl; rfl; rfl) | ((with_reducible refine wpList_store_row ?_ 249 (.tmp 2) (.tmp 20) ?_ w.heap.size cs ?_ ?_ 249 cs (alloc_row _ _ _) HI.out ?_ HO.out ?_); rfl; rfl; rfl; rfl; rfl; rw [World.setRow_alloc_new]))
      refine bodyPost_ret (v := .tuple #[.agg cs, .bool true]) ?_ rfl ⟨by rw [HCS.out], (Below.refl _ _).alloc (Nat.le_refl _) _⟩
      rw [results_cell_tmp rfl]
      have hld := run_loadVar_new (P := Tryz.prog) w 249 cs 256 4 Tryz.underlying249 HI.out
      simp [asAddr, Result.andThen, hld]
    | succ g =>
      have hi : i < chars.size := by omega
      have hiz : (i : Int) < (chars.size : Int) := by omega
      obtain ⟨x, hx⟩ : ∃ x : UInt8, chars[i]'hi = x := ⟨_, rfl⟩
      have hxl : chars.data.toList[i]? = some x := by rw [← hx]; simp [ByteArray.getElem_eq_getElem_data]
      have hx128 : (x.toNat : Int) < 128 := by have := HA.out i x hxl; omega
      have hx256 : (x.toNat : Int) < 256 := by omega
      have hcell := Lib.setCells_at (chars.data.toList.take i) x
      have Hx := Lib.hid hxl
      clear hxl
      go_wp2_with fail
      go_roundg g
      case measure => omega
      case rel => exact ⟨i + 1, by omega, by first | rfl | simp, by rw [List.take_add_one, Hx.out]; simp only [Option.toList]; rw [Lib.setCells_snoc]⟩

/-- A whole row stored into a block of the call's own; what lay below stands. -/
theorem store_blk {P : Program} {ops : Array Oper} {rest : List Oper} {o : Oper} {a : Act} {w : World} {Q : Exit → Act → World → Prop} (hgd : o.guard = none) (ty : TypeId) (x y : Operand) (ho : o.op = .store ty x y)
    (g : Nat) (cells : Array Value) (hx : a.eval x = .pointer (some ⟨g, 0, none⟩)) (hy : a.eval y = .agg cells)
    (t : TypeId) (old : Array Value) (hg : w.heap[g]? = some (.cells old t (0, 0))) (n : Nat) (hi : (P.info? ty).map (·.size) = some n) (hn : cells.size = n) (ho' : old.size = n) (h1 : cells.toList.all (·.oneCell') = true)
    (W : World) (B : Nat) (hB : B ≤ g) (hw : Below B W w)
    (h : ∀ w', w'.heap[g]? = some (.cells cells t (0, 0)) → (∀ (j : Nat) (v : Value), cells[j]? = some v → w'.cell? ⟨g, j, none⟩ = some v) → (∀ k, k ≠ g → w'.heap[k]? = w.heap[k]?) → w'.heap.size = w.heap.size → Below B W w' → wpList P ops Q rest (a.put o.dst undef) w') :
    wpList P ops Q (o :: rest) a w := by
  refine wpList_store_row hgd ty x y ho g cells hx hy t old hg (by rw [hi, hn]) (by omega) (by simpa using h1) (h _ (setRow_heap w g old cells t (0, 0) hg) (fun j v hj => ?_) (fun k hk => setRow_other w g k cells hk) (by simp [World.setRow]) ?_)
  · rw [cell_setRow_same w g j old cells t (0, 0) hg]; exact hj
  · exact hw.trans ⟨rfl, rfl, rfl, by simp [World.setRow], fun k hk => setRow_other _ _ _ _ (by omega)⟩

theorem oct_mem (x : UInt8) : octs.data.toList.contains x = decide (HexC x.toNat) := by
  have h : ∀ n : Fin 256, octs.data.toList.contains (UInt8.ofNat n.val) = decide (HexC n.val) := by decide +kernel
  have := h ⟨x.toNat, x.toNat_lt⟩
  simpa using this

theorem contains_any (g : Nat) (x : UInt8) (v : Bool) (w : World) (hc : w.cell? ⟨g, x.toNat, none⟩ = some (.bool v)) :
    Calls Tryz.prog 229 #[.pointer (some ⟨g, 0, none⟩), .int .u8 x.toNat] w fun e w' => e = .returned (.bool v) ∧ w = w' := by
  have hx256 : (x.toNat : Int) < 256 := by have := UInt8.toNat_lt x; omega
  go_enter Tryz.func229, Tryz.ntmps229
  go_wp2
  go_ret
  exact ⟨rfl, rfl⟩

def lenV : Value → Nat
  | .slice _ n _ => n
  | _ => 0

set_option maxHeartbeats 4000000 in
set_option maxRecDepth 100000 in
theorem trim_ascii (b off m c g : Nat) (B : Nat → UInt8) (hm : m ≤ c) (hc : c ≤ 9223372036854775807) (w : World)
    (hB : ∀ j, j < m → w.cell? ⟨b, off + j, none⟩ = some (.int .u8 ((B j).toNat : Int)))
    (hS : ∀ x : UInt8, w.cell? ⟨g, x.toNat, none⟩ = some (.bool (decide (HexC x.toNat))))
    (h3 : 2 < m) (hd : ∀ j, j < 2 → HexC (B j).toNat) (sp : Nat) (hsp : sp < m) (hl : ¬ (HexC (B sp).toNat)) :
    Calls Tryz.prog 194 #[.slice (some ⟨b, off, none⟩) m c, .pointer (some ⟨g, 0, none⟩)] w fun e w' => (∃ q, e = .returned (.slice (some ⟨b, off + q, none⟩) (m - q) (c - q)) ∧ 2 ≤ q ∧ q < m) ∧ w = w' := by
  have HB := Lib.hid hB
  have HS := Lib.hid hS
  have HD := Lib.hid (And.intro hd hl)
  clear hB hS hd hl
  go_enter Tryz.func194, Tryz.ntmps194
  go_wp2_with fail
  go_loop [0] (fun v0 => ∃ q : Nat, v0 = .slice (some ⟨b, off + q, none⟩) (m - q) (c - q) ∧ q ≤ sp) (fun v0 => lenV v0)
  case atStart => exact ⟨0, rfl, by omega⟩
  case round =>
    obtain ⟨q, rfl, hqs⟩ := hrel
    have hq : q < m := by omega
    have hcell := HB.out q hq
    have hset := HS.out (B q)
    obtain ⟨x, hx⟩ : ∃ x, x = B q := ⟨_, rfl⟩
    rw [← hx] at hcell hset
    have HX := Lib.hid hx
    clear hx
    have hpos : (0 : Int) < ((m - q : Nat) : Int) := by omega
    have hpos2 : 0 < m - q := by omega
    have hcq : m - q ≤ c - q := by omega
    by_cases ho : HexC x.toNat
    · rw [decide_eq_true ho] at hset
      have hq1 : q + 1 ≤ sp := by
        have h2 := HD.out.2
        by_cases e : q + 1 ≤ sp
        · exact e
        · have e' : sp = q := by omega
          rw [e', ← HX.out] at h2
          exact absurd ho h2
      have hcap : (1 : Int) < ((c - q : Nat) : Int) := by omega
      clear ho
      go_wp2_with (first | go_meet | (go_at_call 229; refine (contains_any g x true _ hset).mono ?_; rintro e w' ⟨rfl, rfl⟩))
      exact ⟨⟨q + 1, by rw [Nat.add_assoc, Nat.sub_sub, Nat.sub_sub], hq1⟩, by simp [lenV]; omega⟩
    · rw [decide_eq_false ho] at hset
      have hq3 : 2 ≤ q := by
        by_cases e : q < 2
        · have := HD.out.1 q e
          rw [← HX.out] at this
          exact absurd this ho
        · omega
      clear ho
      go_wp2_with (first | go_meet | (go_at_call 229; refine (contains_any g x false _ hset).mono ?_; rintro e w' ⟨rfl, rfl⟩))
      go_ret
      exact ⟨⟨q, rfl, hq3, hq⟩, rfl⟩

set_option maxHeartbeats 4000000 in
set_option maxRecDepth 1000000 in
theorem trim_left (b off m c : Nat) (B : Nat → UInt8) (hm : m ≤ c) (hc : c ≤ 9223372036854775807) (w : World) (hb : b < w.heap.size)
    (hB : ∀ j, j < m → w.cell? ⟨b, off + j, none⟩ = some (.int .u8 ((B j).toNat : Int)))
    (h3 : 2 < m) (hd : ∀ j, j < 2 → HexC (B j).toNat) (sp : Nat) (hsp : sp < m) (hl : ¬ (HexC (B sp).toNat)) :
    Calls Tryz.prog 165 #[.slice (some ⟨b, off, none⟩) m c, .string octs] w fun e w' => (∃ q, e = .returned (.slice (some ⟨b, off + q, none⟩) (m - q) (c - q)) ∧ 2 ≤ q ∧ q < m) ∧ Below w.heap.size w w' := by
  have HB := Lib.hid hB
  have HD := Lib.hid (And.intro hd hl)
  clear hB hd hl
  have hpos : ((m : Int) == 0) = false := by rw [beq_eq_false_iff_ne]; omega
  obtain ⟨cs, hcs⟩ : ∃ cs, cs = Lib.setCells octs.data.toList := ⟨_, rfl⟩
  have MS : ∀ w, _ := fun w => make_set w
  have hset := setIs
  rw [← hcs] at MS hset
  have hone : cs.toList.all (·.oneCell') = true := by rw [hcs]; exact set_one _
  have HM := Lib.hid MS
  have HSz := Lib.hid hset.1
  have HSt := Lib.hid hset.2
  have HO := Lib.hid hone
  clear MS hset hone hcs
  have hlen8 : ((octs.size : Int) == 1) = false := rfl
  have hemp : octs.toList.isEmpty = false := by rw [ByteArray.toList_eq]; rfl
  obtain ⟨chars, hch⟩ : ∃ ch, ch = octs := ⟨_, rfl⟩
  rw [← hch] at HM hlen8 hemp ⊢
  have HCH := Lib.hid hch
  clear hch
  go_enter Tryz.func165, Tryz.ntmps165
  go_wp2_with (first | go_meet | (go_at_call 193; refine (HM.out _).mono ?_; rintro e w1 ⟨rfl, hb1⟩; refine Hid.out ?_))
  refine Lib.hid ?_
  have HB1 := Lib.hid hb1
  have hz1 := hb1.size
  clear hb1
  go_wp2_with (first | ((with_reducible refine store_blk ?_ 249 (.tmp 5) (.tmp 28) ?_ w1.heap.size cs ?_ ?_ 249 _ (alloc_row _ _ _) 256 sizeSet HSz.out ?_ HO.out w w.heap.size hz1 (HB1.out.alloc hz1 _) ?_); rfl; rfl; rfl; rfl; rfl; (intro w5 hg5 hcs ho5 hs5 hb5); refine Hid.out ?_))
  have hz5 : w1.heap.size < w5.heap.size := (Array.getElem?_eq_some_iff.1 hg5).1
  have HT := Lib.hid (trim_ascii b off m c w1.heap.size B hm hc w5 (fun j hj => (hb5.cell (p := ⟨b, off + j, none⟩) hb).trans (HB.out j hj))
    (fun x => hcs x.toNat _ (by rw [HSt.out x, oct_mem])) h3 HD.out.1 sp hsp HD.out.2)
  have H5 := Lib.hid hb5
  clear hg5 hcs ho5 hs5 hb5
  refine Lib.hid ?_
  go_wp2_with (first | (go_at_call 194; refine HT.out.mono ?_; rintro e w' ⟨⟨q, rfl, hq⟩, rfl⟩))
  go_ret
  exact ⟨⟨q, rfl, hq⟩, H5.out⟩

end Go.Proofs.YtpneioocmpagmaaGreatDoor.txh
