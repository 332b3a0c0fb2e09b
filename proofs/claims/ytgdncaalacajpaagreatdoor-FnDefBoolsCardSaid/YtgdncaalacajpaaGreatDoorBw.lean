/- The walk of laws.FnDefBools. -/
import Derived.Test.YtgdncaalacajpaaGreatDoorProg
import Derived.WalkKit
import Derived.Handy
import Derived.Lib.Hide
import Derived.BigQuiet
import Derived.Deep.QuietTactic
import Derived.Deep.RegionWith
import Derived.Deep.RegionHeld3
namespace Go.Proofs.YtgdncaalacajpaaGreatDoor.bools
open Go.RowKit
set_option linter.unusedVariables false
set_option linter.unusedSimpArgs false

set_option maxHeartbeats 4000000 in
set_option maxRecDepth 100000 in
theorem law_big (s : ByteArray) (tag : Bool) (h : (2147483647 : Int) < s.size) (w : World) :
    Calls Tryz.prog 3 #[.string s, .bool tag] w fun e w' => e = .returned (.bool true) ∧ Below w.heap.size w w' := by
  go_enter Tryz.func3, Tryz.ntmps3
  go_wp2
  go_ret
  exact ⟨rfl, Below.refl _ _⟩

def boolVal (b : Bool) : Value := .agg #[.int .i64 8, .bool b, .int .i64 0, .int .u64 0, .int .u64 0, .string ⟨#[]⟩, .string ⟨#[]⟩]

set_option maxHeartbeats 4000000 in
set_option maxRecDepth 100000 in
theorem enum_nil (w : World) : Calls Tryz.prog 11 #[.slice none 0 0, .slice none 0 0] w fun e w' => e = .returned (.slice none 0 0) ∧ w = w' := by
  go_enter Tryz.func11, Tryz.ntmps11
  go_wp2
  refine wp_loop_rounds 1 ?_
  rw [rounds_succ]
  go_wp2
  go_ret
  exact ⟨rfl, rfl⟩

set_option maxHeartbeats 4000000 in
set_option maxRecDepth 100000 in
theorem bynum_nil (n : Int) (w : World) : Calls Tryz.prog 12 #[.slice none 0 0, .int .i32 n] w fun e w' => e = .returned .nilIface ∧ w = w' := by
  go_enter Tryz.func12, Tryz.ntmps12
  go_wp2
  refine wp_loop_rounds 1 ?_
  rw [rounds_succ]
  go_wp2
  go_ret
  exact ⟨rfl, rfl⟩

theorem bdn {B : Nat} {a w : World} (h : Below B a w) (n : Nat) : Below B a (w.drewN n) := ⟨h.os, h.tape, h.output, h.size, h.block⟩

/-- A struct's box, just laid, and draws behind it. -/
theorem boxed {w W1 : World} {cs : Array Value} {T : TypeId} {n : Nat} (h : W1 = (w.alloc (.cells cs T)).drewN n) :
    Below w.heap.size w W1 ∧ w.heap.size < W1.heap.size ∧ ∀ w' : World, Below W1.heap.size W1 w' → ∀ (j : Nat) (v : Value), cs[j]? = some v → w'.cell? ⟨w.heap.size, j, none⟩ = some v := by
  have hs : W1.heap.size = w.heap.size + 1 := by
    rw [h]
    show (w.alloc _).heap.size = _
    simp
  refine ⟨by rw [h]; exact bdn ((Below.refl _ _).alloc (Nat.le_refl _) _) _, by omega, fun w' hb j v hj => ?_⟩
  rw [hb.cell (p := ⟨w.heap.size, j, none⟩) (by show w.heap.size < _; omega), h]
  show (w.alloc (.cells cs T)).cell? ⟨w.heap.size, j, none⟩ = some v
  simp [World.cell?_alloc_new, hj]

/-- Behind a call that began when a block had just been laid: the block. -/
theorem after_box {w w2 : World} {o : Obj} (hb : Below (w.alloc o).heap.size (w.alloc o) w2) :
    w2.heap[w.heap.size]? = some o ∧ w.heap.size < w2.heap.size ∧ Below w.heap.size w w2 := by
  have hs : (w.alloc o).heap.size = w.heap.size + 1 := by simp
  exact ⟨(hb.block _ (by omega)).trans (heap_alloc_new w o), by have := hb.size; omega, ((Below.refl _ _).alloc (Nat.le_refl _) _).trans (hb.mono (by omega))⟩

theorem alloc_old {w : World} {o o' : Obj} {k : Nat} (h : w.heap[k]? = some o') : (w.alloc o).heap[k]? = some o' := by
  have hk := (Array.getElem?_eq_some_iff.1 h).1
  rw [Below.heap_alloc _ _ _ hk]; exact h

/-- A whole row stored into a block of the call's own; what lay below stands. -/
theorem store_blk {P : Program} {ops : Array Oper} {rest : List Oper} {o : Oper} {a : Act} {w : World} {Q : Exit → Act → World → Prop} (hgd : o.guard = none) (ty : TypeId) (x y : Operand) (ho : o.op = .store ty x y)
    (g : Nat) (cells : Array Value) (hx : a.eval x = .pointer (some ⟨g, 0, none⟩)) (hy : a.eval y = .agg cells)
    (t : TypeId) (old : Array Value) (hg : w.heap[g]? = some (.cells old t (0, 0))) (n : Nat) (hi : (P.info? ty).map (·.size) = some n) (hn : cells.size = n) (ho' : old.size = n) (h1 : cells.toList.all (·.oneCell') = true)
    (W : World) (B : Nat) (hB : B ≤ g) (hw : Below B W w)
    (h : ∀ w', w'.heap[g]? = some (.cells cells t (0, 0)) → (∀ (j : Nat) (v : Value), cells[j]? = some v → w'.cell? ⟨g, j, none⟩ = some v) → (∀ k, k ≠ g → w'.heap[k]? = w.heap[k]?) → w'.heap.size = w.heap.size → Below B W w' → wpList P ops Q rest (a.put o.dst undef) w') :
    wpList P ops Q (o :: rest) a w := by
  refine wpList_store_row hgd ty x y ho g cells hx hy t old hg (by rw [hi, hn]) (by omega) (by simpa using h1) (h _ (setRow_heap w g old cells t (0, 0) hg) (fun j v hj => ?_) (fun k hk => setRow_other w g k cells hk) (by simp [World.setRow]) ?_)
  · rw [cell_setRow_same w g j old cells t (0, 0) hg]; exact hj
  · exact hw.trans ⟨rfl, rfl, rfl, by simp [World.setRow], fun k hk => setRow_other _ _ _ _ (by omega)⟩

theorem infoV : (Tryz.prog.info? 26).map (·.size) = some 7 := by kernel_rfl

theorem q_same {P : Program} {f : FuncId} {args : Array Value} {w : World} {n : Nat} {v : Value} (h : Calls P f args (w.drewN n) fun e w' => e = .returned v ∧ w.drewN n = w') :
    Calls P f args (w.drewN n) fun e w'' => e = .returned v ∧ ∃ m, w'' = w.drewN m := Calls.quiet_of_same (h.mono fun _ _ ⟨a, b⟩ => ⟨a, b.symm⟩)

def txt (tag b : Bool) : ByteArray := if tag then (if b then ⟨#[49]⟩ else ⟨#[48]⟩) else if b then ⟨#[116, 114, 117, 101]⟩ else ⟨#[102, 97, 108, 115, 101]⟩

def formOf (tag : Bool) : Int := if tag then 2 else 1

def bval (b : Bool) : Value := .agg #[.int .i64 1, .int .u64 (if b then 1 else 0), .string ⟨#[]⟩, .slice none 0 0]

set_option maxHeartbeats 4000000 in
set_option maxRecDepth 100000 in
theorem given_any (b : Bool) (w : World) :
    Calls Tryz.prog 14 #[.agg #[.int .i64 8, .bool b, .int .i64 0, .int .u64 0, .int .u64 0, .string ⟨#[]⟩, .string ⟨#[]⟩]] w
      fun e w' => e = .returned (bval b) ∧ Below w.heap.size w w' := by
  cases b
  all_goals
    go_enter Tryz.func14, Tryz.ntmps14
    go_wp2
    go_returns
    exact ⟨rfl, by go_grown⟩

set_option maxHeartbeats 4000000 in
set_option maxRecDepth 100000 in
theorem dmarshal_any (b tag : Bool) (w : World) (ev : Value) (hev : ∃ t v, ev = .iface t v) :
    Calls Tryz.prog 13 #[bval b, ev, .int .i8 8, .int .i64 (formOf tag)] w
      fun e w' => e = .returned (.tuple #[.string (txt tag b), .nilIface]) ∧ Below w.heap.size w w' := by
  obtain ⟨et, evv, rfl⟩ := hev
  cases b <;> cases tag
  all_goals
    unfold txt formOf bval
    simp only [if_true, if_false, Bool.false_eq_true]
    go_enter Tryz.func13, Tryz.ntmps13
    go_wp2
    go_returns
    exact ⟨rfl, by go_grown⟩

set_option maxHeartbeats 4000000 in
set_option maxRecDepth 100000 in
theorem marshal_any (b tag : Bool) (w : World) :
    Calls Tryz.prog 5 #[.agg #[.int .i64 8, .bool b, .int .i64 0, .int .u64 0, .int .u64 0, .string ⟨#[]⟩, .string ⟨#[]⟩], .int .i64 (formOf tag), .slice none 0 0, .slice none 0 0] w
      fun e w' => e = .returned (.tuple #[.string (txt tag b), .bool true]) ∧ Below w.heap.size w w' := by
  go_enter Tryz.func5, Tryz.ntmps5
  go_wp2_with fail
  go_quiet ((first | (go_at_call 11; exact q_same (enum_nil _)) | (go_at_call 12; exact q_same (bynum_nil _ _))))
  go_wp2_with fail
  obtain ⟨W1, hW1⟩ : ∃ W1, W1 = (w.alloc (.cells #[.int .i64 8, .bool b, .int .i64 0, .int .u64 0, .int .u64 0, .string ⟨#[]⟩, .string ⟨#[]⟩] 26)).drewN nq := ⟨_, rfl⟩
  obtain ⟨hb1, hs1, hK⟩ := boxed hW1
  have K : ∀ w' : World, Below W1.heap.size W1 w' → w'.cell? ⟨w.heap.size, 0, none⟩ = some (.int .i64 8) ∧ w'.cell? ⟨w.heap.size, 1, none⟩ = some (.bool b) ∧ w'.cell? ⟨w.heap.size, 2, none⟩ = some (.int .i64 0) ∧ w'.cell? ⟨w.heap.size, 3, none⟩ = some (.int .u64 0) ∧ w'.cell? ⟨w.heap.size, 4, none⟩ = some (.int .u64 0) ∧ w'.cell? ⟨w.heap.size, 5, none⟩ = some (.string ⟨#[]⟩) ∧ w'.cell? ⟨w.heap.size, 6, none⟩ = some (.string ⟨#[]⟩) :=
    fun w' hb => ⟨hK w' hb 0 _ rfl, hK w' hb 1 _ rfl, hK w' hb 2 _ rfl, hK w' hb 3 _ rfl, hK w' hb 4 _ rfl, hK w' hb 5 _ rfl, hK w' hb 6 _ rfl⟩
  clear hK
  rw [← hW1]
  clear hW1
  have HK := Lib.hid K
  clear K
  go_region_held3 (fun w' => w'.cell? ⟨w.heap.size, 0, none⟩ = some (.int .i64 8) ∧ w'.cell? ⟨w.heap.size, 1, none⟩ = some (.bool b) ∧ w'.cell? ⟨w.heap.size, 2, none⟩ = some (.int .i64 0) ∧ w'.cell? ⟨w.heap.size, 3, none⟩ = some (.int .u64 0) ∧ w'.cell? ⟨w.heap.size, 4, none⟩ = some (.int .u64 0) ∧ w'.cell? ⟨w.heap.size, 5, none⟩ = some (.string ⟨#[]⟩) ∧ w'.cell? ⟨w.heap.size, 6, none⟩ = some (.string ⟨#[]⟩))
    (first | exact HK.out _ (Below.refl _ _).drew | exact HK.out _ hb2' | exact HK.out _ hb2'.drew | exact HK.out _ hb3' | exact HK.out _ hb3'.drew | exact HK.out _ (Below.refl _ _))
    (first
      | (go_at_call 14; refine (given_any _ _).mono ?_; rintro e w2 ⟨rfl, hb2⟩; have hb2' : Below W1.heap.size W1 w2 := ((Below.refl _ _).drew).trans hb2)
      | (go_at_call 13; refine (dmarshal_any _ _ _ _ ⟨_, _, rfl⟩).mono ?_; rintro e w3 ⟨rfl, hb3⟩; have hb3' : Below W1.heap.size W1 w3 := hb2'.trans (hb3.mono hb2'.size)))
  go_wp2
  go_returns
  refine ⟨rfl, ?_⟩
  exact hb1.trans (hb3'.mono (Nat.le_of_lt hs1))

set_option maxHeartbeats 4000000 in
set_option maxRecDepth 100000 in
theorem dunmarshal_yes (b tag : Bool) (w : World) :
    Calls Tryz.prog 15 #[.string (txt tag b), .int .i8 8, .iface 40 (.slice none 0 0), .int .i64 (formOf tag)] w
      fun e w' => e = .returned (.tuple #[bval b, .nilIface, .nilIface]) ∧ Below w.heap.size w w' := by
  cases b <;> cases tag
  all_goals
    unfold txt formOf bval
    simp only [if_true, if_false, Bool.false_eq_true]
    go_enter Tryz.func15, Tryz.ntmps15
    go_wp2
    go_returns
    exact ⟨rfl, by go_grown⟩

/-- It ends with an error that is not nil, and a value of no kind. -/
def FailsV (e : Ending) : Prop := ∃ a, e = .returned (.tuple #[.agg #[.int .i64 0, .int .u64 0, .string ⟨#[]⟩, .slice none 0 0], .nilIface, .iface 108 (.pointer (some a))])

theorem ne_txt {s : ByteArray} {l : Array UInt8} (h : s ≠ ⟨l⟩) : (s.toList == l.toList) = false := by
  rw [beq_eq_false_iff_ne]
  intro h2
  apply h
  apply ByteArray.ext
  apply Array.ext'
  rw [← h2]
  exact (ByteArray.toList_eq s).symm

set_option maxHeartbeats 4000000 in
set_option maxRecDepth 100000 in
theorem dunmarshal_no (s : ByteArray) (tag : Bool) (h0 : s ≠ txt tag false) (h1 : s ≠ txt tag true) (w : World) :
    Calls Tryz.prog 15 #[.string s, .int .i8 8, .iface 40 (.slice none 0 0), .int .i64 (formOf tag)] w
      fun e w' => FailsV e ∧ Below w.heap.size w w' := by
  cases tag
  all_goals
    unfold formOf
    have k0 := ne_txt h0
    have k1 := ne_txt h1
    try simp only [if_true, Bool.false_eq_true, if_false]
    clear h0 h1
    go_enter Tryz.func15, Tryz.ntmps15
    go_wp2
    go_returns
    exact ⟨⟨_, rfl⟩, by go_grown⟩

/-- A default value as impl.DefUnmarshal hands it back. -/
def outVal (b : Bool) : Value := .agg #[.int .i64 8, .bool b, .int .i64 0, .int .u64 0, .int .u64 0, .string ⟨#[]⟩, .string ⟨#[]⟩]

set_option maxHeartbeats 4000000 in
set_option maxRecDepth 100000 in
theorem plain_any (b : Bool) (w : World) :
    Calls Tryz.prog 16 #[bval b, .int .i64 8] w fun e w' => e = .returned (outVal b) ∧ Below w.heap.size w w' := by
  cases b
  all_goals
    unfold bval outVal
    simp only [if_true, Bool.false_eq_true, if_false]
    go_enter Tryz.func16, Tryz.ntmps16
    go_wp2
    go_returns
    exact ⟨rfl, by go_grown⟩

end Go.Proofs.YtgdncaalacajpaaGreatDoor.bools
