/- json.isNotDelim; words for the walks of numbers. -/
import Derived.Test.YtdeehmjdbjlfkaaGreatDoorGa
import Derived.Test.YtdeehmjdbjlfkaaGreatDoorJt
import Derived.Outline
namespace Go.Proofs.YtdeehmjdbjlfkaaGreatDoor.jn
open Go.RowKit Go.Proofs.YtdeehmjdbjlfkaaGreatDoor.js
set_option linter.unusedVariables false
set_option linter.unusedSimpArgs false

set_option maxHeartbeats 1000000 in
theorem not_delim (c : Nat) (w : World) : Calls Tryz.prog 98 #[.int .u8 c] w fun e w' => e = .returned (.bool (decide (ndl c))) ∧ w = w' := by
  go_enter Tryz.func98, Tryz.ntmps98
  go_wp2_with fail
  all_goals
    go_ret
    refine ⟨congrArg (fun b => Ending.returned (Value.bool b)) ?_, rfl⟩
    rw [Bool.eq_iff_iff, decide_eq_true_iff]
    unfold ndl
    try simp only [Bool.or_eq_true, Bool.and_eq_true, beq_iff_eq, decide_eq_true_eq, true_iff, Bool.false_eq_true, false_iff]
    omega

/-- Where the number's reading stands. -/
def At (b L cap P0 : Nat) (p : Nat) (v4 v5 : Value) : Prop := ∃ off n c, P0 ≤ p ∧ InAt b L cap p off n c ∧ v4 = .int .i64 ((p - P0 : Nat) : Int) ∧ v5 = .slice (some ⟨b, off, none⟩) n c

def Says (P0 : Nat) (r : Option Nat) (e : Ending) : Prop := match r with
  | some p => e = .returned (.tuple #[.int .i64 ((p - P0 : Nat) : Int), .bool true])
  | none => e = .returned (.tuple #[.int .i64 0, .bool false])

theorem cell_at {w : World} {b L : Nat} {T : List UInt8} (hT : T.length = L) (hr : RowM w b 0 T) {p : Nat} (hp : p < L) : w.cell? ⟨b, p, none⟩ = some (.int .u8 ((at_ T p : Nat) : Int)) := by
  have := hr p (by omega)
  rw [Nat.zero_add] at this
  exact this

theorem num_i64 {a b : Int} (h : a = b) : Value.int .i64 a = Value.int .i64 b := by rw [h]

theorem inAt_one {b L cap pos off n c : Nat} (h : InAt b L cap pos off n c) (hn : 1 ≤ n) (hL : L ≤ cap) : (c = 1 → InAt b L cap (pos + 1) off 0 0 ∧ n = 1) ∧ (¬ c = 1 → InAt b L cap (pos + 1) (off + 1) (n - 1) (c - 1)) :=
  ⟨fun hc => ⟨inAt_end h hn hc, by have := h.2.1; omega⟩, fun _ => inAt_cut h hn hL⟩

end Go.Proofs.YtdeehmjdbjlfkaaGreatDoor.jn
