/- A decimal number in memory: its digits; internal/strconv.trim. -/
import Derived.Test.YtpneioocmpagmaaGreatDoorTk
import Derived.LoopTactic
import Derived.Deep.LoopGhost
import Derived.Deep.QuietTactic
import Derived.BigQuiet
import Derived.Handy
import Derived.Outline
import Derived.Deep.CutBlock
import Derived.Deep.DeepCutAuto
namespace Go.Proofs.YtpneioocmpagmaaGreatDoor.dc
open Go.RowKit
open Go.Proofs.YtpneioocmpagmaaGreatDoor.tx (Keeps blk_cell blk_frozen blk_set)
set_option linter.unusedVariables false
set_option linter.unusedSimpArgs false

/-- The number's block: its 800 places, how many digits, where the point stands. -/
structure Row (cs : Array Value) (D : List Nat) (nd : Nat) (dp : Int) : Prop where
  size : cs.size = 804
  any : ∀ j, j < 800 → ∃ z : Nat, z < 256 ∧ cs[j]? = some (.int .u8 (z : Int))
  dig : ∀ j, j < D.length → cs[j]? = some (.int .u8 ((48 + D.getD j 0 : Nat) : Int))
  nd : cs[800]? = some (.int .i64 (nd : Int))
  dp : cs[801]? = some (.int .i64 dp)
  neg : ∃ b, cs[802]? = some (.bool b)
  tr : ∃ b, cs[803]? = some (.bool b)
  le : D.length ≤ 800
  nine : ∀ d ∈ D, d ≤ 9

/-- The number lies in block F. -/
def DAt (w : World) (F : Nat) (D : List Nat) (nd : Nat) (dp : Int) : Prop := ∃ cs, w.heap[F]? = some (.cells cs 246 (0, 0)) ∧ Row cs D nd dp

theorem getD_nine {D : List Nat} (h : ∀ d ∈ D, d ≤ 9) (j : Nat) : D.getD j 0 ≤ 9 := by
  rw [List.getD_eq_getElem?_getD]
  rcases Nat.lt_or_ge j D.length with hj | hj
  · rw [List.getElem?_eq_getElem hj]; exact h _ (List.getElem_mem hj)
  · rw [List.getElem?_eq_none hj]; simp

theorem Row.put {cs : Array Value} {D : List Nat} {nd : Nat} {dp : Int} (h : Row cs D nd dp) (n : Nat) : Row (cs.setIfInBounds 800 (.int .i64 (n : Int))) D n dp := by
  have hs := h.size
  refine ⟨by simpa using hs, fun j hj => ?_, fun j hj => ?_, ?_, ?_, ?_, ?_, h.le, h.nine⟩
  · rw [Array.getElem?_setIfInBounds_ne (by omega)]; exact h.any j hj
  · have := h.le; rw [Array.getElem?_setIfInBounds_ne (by omega)]; exact h.dig j hj
  · rw [Array.getElem?_setIfInBounds_self_of_lt (by omega)]
  · rw [Array.getElem?_setIfInBounds_ne (by omega)]; exact h.dp
  · rw [Array.getElem?_setIfInBounds_ne (by omega)]; exact h.neg
  · rw [Array.getElem?_setIfInBounds_ne (by omega)]; exact h.tr

theorem Row.point {cs : Array Value} {D : List Nat} {nd : Nat} {dp : Int} (h : Row cs D nd dp) (n : Int) : Row (cs.setIfInBounds 801 (.int .i64 n)) D nd n := by
  have hs := h.size
  refine ⟨by simpa using hs, fun j hj => ?_, fun j hj => ?_, ?_, ?_, ?_, ?_, h.le, h.nine⟩
  · rw [Array.getElem?_setIfInBounds_ne (by omega)]; exact h.any j hj
  · have := h.le; rw [Array.getElem?_setIfInBounds_ne (by omega)]; exact h.dig j hj
  · rw [Array.getElem?_setIfInBounds_ne (by omega)]; exact h.nd
  · rw [Array.getElem?_setIfInBounds_self_of_lt (by omega)]
  · rw [Array.getElem?_setIfInBounds_ne (by omega)]; exact h.neg
  · rw [Array.getElem?_setIfInBounds_ne (by omega)]; exact h.tr

theorem Row.flag {cs : Array Value} {D : List Nat} {nd : Nat} {dp : Int} (h : Row cs D nd dp) (b : Bool) : Row (cs.setIfInBounds 803 (.bool b)) D nd dp := by
  have hs := h.size
  refine ⟨by simpa using hs, fun j hj => ?_, fun j hj => ?_, ?_, ?_, ?_, ?_, h.le, h.nine⟩
  · rw [Array.getElem?_setIfInBounds_ne (by omega)]; exact h.any j hj
  · have := h.le; rw [Array.getElem?_setIfInBounds_ne (by omega)]; exact h.dig j hj
  · rw [Array.getElem?_setIfInBounds_ne (by omega)]; exact h.nd
  · rw [Array.getElem?_setIfInBounds_ne (by omega)]; exact h.dp
  · rw [Array.getElem?_setIfInBounds_ne (by omega)]; exact h.neg
  · exact ⟨b, by rw [Array.getElem?_setIfInBounds_self_of_lt (by omega)]⟩

theorem Row.cut {cs : Array Value} {D : List Nat} {nd : Nat} {dp : Int} (h : Row cs D nd dp) (k : Nat) : Row cs (D.take k) nd dp := by
  refine ⟨h.size, h.any, fun j hj => ?_, h.nd, h.dp, h.neg, h.tr, by have := h.le; simp; omega, fun d hd => h.nine d (List.mem_of_mem_take hd)⟩
  have hj' : j < k ∧ j < D.length := by simp at hj; omega
  rw [List.getD_eq_getElem?_getD, List.getElem?_take, if_pos hj'.1, ← List.getD_eq_getElem?_getD]
  exact h.dig j hj'.2

theorem DAt.set {w : World} {F : Nat} {cs : Array Value} (h : w.heap[F]? = some (.cells cs 246 (0, 0))) (j : Nat) (v : Value) : (w.setCell ⟨F, j, none⟩ v).heap[F]? = some (.cells (cs.setIfInBounds j v) 246 (0, 0)) := blk_set h j v

theorem keeps_set_own {F : Nat} {a b : World} (h : Keeps F a b) (j : Nat) (v : Value) : Keeps F a (b.setCell ⟨F, j, none⟩ v) := h.setCell j v

theorem keeps_drewN {F : Nat} {a b : World} (h : Keeps F a b) (n : Nat) : Keeps F a (b.drewN n) := ⟨h.os, h.tape, h.output, h.size, h.block⟩

/-- The digits without the noughts at their end. -/
def strip (D : List Nat) : List Nat := (D.reverse.dropWhile (· == 0)).reverse

theorem strip_take (D : List Nat) (k : Nat) (hk : k < D.length) (h0 : D.getD k 0 = 0) (hs : D = D.take (k + 1)) : strip D = strip (D.take k) := by
  have e : D = D.take k ++ [0] := by
    have h1 : D.take (k + 1) = D.take k ++ [D.getD k 0] := by
      rw [List.take_add_one, List.getElem?_eq_getElem hk]
      simp [List.getD_eq_getElem?_getD, List.getElem?_eq_getElem hk]
    rw [h0] at h1
    rw [← h1]; exact hs
  conv => lhs; rw [e]
  unfold strip
  simp

theorem strip_none (D : List Nat) (h : D = [] ∨ D.getD (D.length - 1) 0 ≠ 0) : strip D = D := by
  unfold strip
  rcases List.eq_nil_or_concat D with rfl | ⟨L, x, rfl⟩
  · rfl
  · rcases h with h | h
    · simp at h
    · have hx : x ≠ 0 := by simpa [List.getD_eq_getElem?_getD] using h
      simp [hx]

theorem strip_head {D : List Nat} (h : D.getD 0 0 ≠ 0) : (strip D).getD 0 0 = D.getD 0 0 ∧ 1 ≤ (strip D).length ∧ (strip D).length ≤ D.length := by
  have key : ∀ n, ∀ D : List Nat, D.length = n → D.getD 0 0 ≠ 0 → (strip D).getD 0 0 = D.getD 0 0 ∧ 1 ≤ (strip D).length ∧ (strip D).length ≤ D.length := by
    intro n
    induction n with
    | zero => intro D hn h; rw [List.eq_nil_of_length_eq_zero hn] at h; simp at h
    | succ n ih =>
      intro D hn h
      by_cases hl : D.getD n 0 = 0
      · have hn0 : n ≠ 0 := by intro e; rw [e] at hl; exact h hl
        rw [strip_take D n (by omega) hl (by rw [List.take_of_length_le (by omega)])]
        have hg : (D.take n).getD 0 0 = D.getD 0 0 := by
          rw [List.getD_eq_getElem?_getD, List.getElem?_take, if_pos (by omega), ← List.getD_eq_getElem?_getD]
        have := ih (D.take n) (by simp; omega) (by rw [hg]; exact h)
        rw [hg] at this
        refine ⟨this.1, this.2.1, ?_⟩
        have h2 := this.2.2
        simp at h2; omega
      · rw [strip_none D (.inr (by rw [hn]; exact hl))]
        exact ⟨rfl, by omega, Nat.le_refl _⟩
  exact key _ D rfl h

theorem strip_mem {D : List Nat} : ∀ d ∈ strip D, d ∈ D := by
  intro d hd
  unfold strip at hd
  rw [List.mem_reverse] at hd
  exact List.mem_reverse.1 (List.dropWhile_sublist _ |>.subset hd)

set_option maxHeartbeats 8000000 in
set_option maxRecDepth 100000 in
theorem trim_any (F : Nat) (D : List Nat) (dp : Int) (w : World) (h : DAt w F D D.length dp) :
    Calls Tryz.prog 223 #[.pointer (some ⟨F, 0, none⟩)] w fun e w' => e = .returned (.tuple #[]) ∧ DAt w' F (strip D) (strip D).length (if strip D = [] then 0 else dp) ∧ Keeps F w w' := by
  have HD := Lib.hid h
  obtain ⟨D', hD'⟩ : ∃ D', D' = strip D := ⟨_, rfl⟩
  obtain ⟨dp', hdp'⟩ : ∃ dp', dp' = (if strip D = [] then 0 else dp) := ⟨_, rfl⟩
  rw [← hdp', ← hD']
  have HDP := Lib.hid (And.intro hD' hdp')
  clear h hD' hdp'
  go_enter Tryz.func223, Tryz.ntmps223
  go_wp2_with fail
  go_loopg [] D.length (fun g wr => g ≤ D.length ∧ strip D = strip (D.take g) ∧ DAt wr F (D.take g) g dp ∧ Keeps F w wr)
  case atStart => exact ⟨Nat.le_refl _, by rw [List.take_length], by rw [List.take_length]; exact HD.out, Keeps.refl _ _⟩
  case round =>
    obtain ⟨hg, hst, ⟨cs, hcs, hrow⟩, hk⟩ := hrel
    have HK := Lib.hid hk
    have HST := Lib.hid hst
    have HCS := Lib.hid (And.intro hcs hrow)
    have k0 := blk_cell hcs hrow.nd
    have f0 := blk_frozen hcs 800
    have k1 := blk_cell hcs hrow.dp
    have f1 := blk_frozen hcs 801
    have hD8 : D.length ≤ 800 := by obtain ⟨_, _, h⟩ := HD.out; exact h.le
    clear hk hst
    cases gk with
    | zero =>
      have hz : ¬ (0 : Int) < ((0 : Nat) : Int) := by omega
      clear hcs hrow hg
      go_wp2_with fail
      go_quiet (fail)
      go_wp2_with fail
      go_returns
      have hs0 : strip D = [] := by rw [HST.out]; rfl
      have e1 := HDP.out.1
      have e2 := HDP.out.2
      rw [if_pos hs0] at e2
      rw [e1, e2, hs0]
      exact ⟨rfl, ⟨_, DAt.set HCS.out.1 801 _, HCS.out.2.point 0⟩, (keeps_drewN HK.out _).setCell 801 _⟩
    | succ g =>
      have hgl : (D.take (g + 1)).length = g + 1 := by simp; omega
      have kd := blk_cell hcs (hrow.dig g (by omega))
      have hgd : (D.take (g + 1)).getD g 0 = D.getD g 0 := by
        rw [List.getD_eq_getElem?_getD, List.getElem?_take, if_pos (by omega), ← List.getD_eq_getElem?_getD]
      rw [hgd] at kd
      obtain ⟨n, hn⟩ : ∃ n : Int, n = ((g + 1 : Nat) : Int) := ⟨_, rfl⟩
      rw [← hn] at k0
      have hz : (0 : Int) < n := by omega
      have e1 : IntKind.i64.wrap (n - 1) = (g : Int) := by rw [IntKind.wrap_i64]; omega
      have e2 : n - 1 = (g : Int) := by omega
      have hg8 : (g : Int) < 800 := by omega
      have HG := Lib.hid (And.intro hg hgd)
      clear hcs hrow hg hgd hgl hn
      by_cases hd : D.getD g 0 = 0
      · have h48 : (((48 + D.getD g 0 : Nat) : Int) == 48) = true := by rw [hd]; rfl
        obtain ⟨x, hx⟩ : ∃ x : Int, x = ((48 + D.getD g 0 : Nat) : Int) := ⟨_, rfl⟩
        rw [← hx] at kd h48
        have HDD := Lib.hid hd
        clear hd hx
        go_wp2_with fail
        go_quiet (fail)
        go_wp2_with fail
        go_roundg g
        case measure => omega
        case rel =>
          refine ⟨by have := HG.out.1; omega, ?_, ⟨_, DAt.set HCS.out.1 800 _, ?_⟩, (keeps_drewN HK.out _).setCell 800 _⟩
          · rw [HST.out]
            have e : (D.take (g + 1)).take g = D.take g := by rw [List.take_take, Nat.min_eq_left (by omega)]
            rw [← e]
            exact strip_take _ g (by have := HG.out.1; simp; omega) (by rw [HG.out.2]; exact HDD.out) (by rw [List.take_take, Nat.min_self])
          · have := (HCS.out.2.put g).cut g
            have e : (D.take (g + 1)).take g = D.take g := by rw [List.take_take, Nat.min_eq_left (by omega)]
            rw [e] at this
            exact this
      · have h48 : (((48 + D.getD g 0 : Nat) : Int) == 48) = false := by rw [beq_eq_false_iff_ne]; omega
        obtain ⟨x, hx⟩ : ∃ x : Int, x = ((48 + D.getD g 0 : Nat) : Int) := ⟨_, rfl⟩
        rw [← hx] at kd h48
        have HDD := Lib.hid hd
        have hn0 : (n == 0) = false := by rw [beq_eq_false_iff_ne]; omega
        clear hd hx
        go_wp2_with fail
        go_quiet (fail)
        go_wp2_with fail
        go_returns
        have hs0 : strip D = D.take (g + 1) := by
          rw [HST.out]
          have hl : (D.take (g + 1)).length = g + 1 := by have := HG.out.1; simp; omega
          exact strip_none _ (.inr (by rw [hl]; show (D.take (g + 1)).getD g 0 ≠ 0; rw [HG.out.2]; exact HDD.out))
        have hl : (strip D).length = g + 1 := by rw [hs0]; have := HG.out.1; simp; omega
        have e1 := HDP.out.1
        have e2 := HDP.out.2
        rw [if_neg (by intro h; rw [h] at hl; simp at hl)] at e2
        rw [e1, e2, hl, hs0]
        exact ⟨rfl, ⟨_, HCS.out.1, HCS.out.2⟩, ⟨HK.out.os, HK.out.tape, HK.out.output, HK.out.size, HK.out.block⟩⟩

end Go.Proofs.YtpneioocmpagmaaGreatDoor.dc

