/- strconv: bool2, log2Pow10, log10Pow2, prescale. -/
import Derived.Test.YtpneioocmpagmaaGreatDoorNum
import Derived.Test.YtpneioocmpagmaaGreatDoorProg
import Derived.WalkKit
import Derived.WalkSpells
import Derived.WalkLawsBesides
import Derived.Below
import Derived.OwnWalk
import Derived.Handy
import Derived.Lib.Hide
import Derived.Deep.QuietTactic
import Derived.BigQuiet
namespace Go.Proofs.YtpneioocmpagmaaGreatDoor.fl
open Go.RowKit
set_option linter.unusedVariables false
set_option linter.unusedSimpArgs false

theorem bool2_t (w : World) : Calls Tryz.prog 209 #[.bool true] w fun e w' => e = .returned (.int .u64 1) ∧ w = w' := by
  go_enter Tryz.func209, Tryz.ntmps209
  go_wp2
  go_ret
  exact ⟨rfl, rfl⟩
theorem bool2_f (w : World) : Calls Tryz.prog 209 #[.bool false] w fun e w' => e = .returned (.int .u64 0) ∧ w = w' := by
  go_enter Tryz.func209, Tryz.ntmps209
  go_wp2
  go_ret
  exact ⟨rfl, rfl⟩
theorem bool2_any (b : Bool) (w : World) : Calls Tryz.prog 209 #[.bool b] w fun e w' => e = .returned (.int .u64 (if b then 1 else 0)) ∧ w = w' := by
  cases b
  · exact bool2_f w
  · exact bool2_t w

theorem log2_any (x : Int) (h0 : -1000000 ≤ x) (h1 : x ≤ 1000000) (w : World) : Calls Tryz.prog 215 #[.int .i64 x] w fun e w' => e = .returned (.int .i64 (l2 x)) ∧ w = w' := by
  unfold l2
  go_enter Tryz.func215, Tryz.ntmps215
  go_wp2
  go_ret
  exact ⟨rfl, rfl⟩
theorem log10_any (x : Int) (h0 : -1000000 ≤ x) (h1 : x ≤ 1000000) (w : World) : Calls Tryz.prog 156 #[.int .i64 x] w fun e w' => e = .returned (.int .i64 (l10 x)) ∧ w = w' := by
  unfold l10
  go_enter Tryz.func156, Tryz.ntmps156
  go_wp2
  go_ret
  exact ⟨rfl, rfl⟩

/-- The table of powers of ten. -/
def TabP (w : World) : Prop := ∀ i : Nat, i < 696 → w.cell? ⟨17, i * 2, none⟩ = some (.int .u64 (tHi i)) ∧ w.cell? ⟨17, i * 2 + 1, none⟩ = some (.int .u64 (tLo i))

theorem cell_blk {w : World} {q : Nat} {cs : Array Value} {T : TypeId} (h : w.heap[q]? = some (.cells cs T (0, 0))) {j : Nat} {v : Value} (hj : cs[j]? = some v) : w.cell? ⟨q, j, none⟩ = some v := by
  rw [cell_of_row w q j cs T (0, 0) h]; exact hj

theorem frozen_blk {w : World} {q : Nat} {cs : Array Value} {T : TypeId} (h : w.heap[q]? = some (.cells cs T (0, 0))) (j : Nat) : w.frozen? ⟨q, j, none⟩ = false := by
  unfold World.frozen?
  rw [h]
  simp

set_option maxHeartbeats 1000000 in
theorem prescale_at (g : Nat) (e lp : Int) (i : Nat) (hi : i < 696) (he : -100000 ≤ e ∧ e ≤ 100000) (hl : -100000 ≤ lp ∧ lp ≤ 100000) (a b c : Value) (w : World) (hg : g ≠ 17)
    (h0 : w.cell? ⟨g, 0, none⟩ = some a) (h1 : w.cell? ⟨g, 1, none⟩ = some b) (h2 : w.cell? ⟨g, 2, none⟩ = some c) (hf : ∀ j, w.frozen? ⟨g, j, none⟩ = false) (ht : TabP w) :
    Calls Tryz.prog 214 #[.pointer (some ⟨g, 0, none⟩), .int .i64 e, .int .i64 ((i : Int) - 348), .int .i64 lp] w fun e' w' =>
      e' = .returned (.tuple #[]) ∧ w' = ((w.setCell ⟨g, 0, none⟩ (.int .u64 (tHi i))).setCell ⟨g, 1, none⟩ (.int .u64 (tLo i))).setCell ⟨g, 2, none⟩ (.int .i64 (-(e + lp + 3))) := by
  obtain ⟨t1, t2⟩ := ht i hi
  have f0 := hf 0
  have f1 := hf 1
  have f2 := hf 2
  obtain ⟨e0, e1⟩ := he
  obtain ⟨l0, l1⟩ := hl
  have HT := Lib.hid ht
  have b1 : (0 : Int) ≤ (i : Int) := by omega
  have b2 : (i : Int) < 696 := by omega
  have ng : ¬ g = 17 := hg
  have ng' : ¬ 17 = g := fun h => hg h.symm
  clear ht hf hg
  go_enter Tryz.func214, Tryz.ntmps214
  go_wp2
  go_end0
  exact ⟨rfl, rfl⟩

end Go.Proofs.YtpneioocmpagmaaGreatDoor.fl

