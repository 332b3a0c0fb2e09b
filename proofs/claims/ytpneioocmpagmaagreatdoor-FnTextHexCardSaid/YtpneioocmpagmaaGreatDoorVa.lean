/- A decimal number in memory: its digits; internal/strconv.trim. -/
import Derived.Test.YtpneioocmpagmaaGreatDoorTk
import Derived.LoopTactic
import Derived.Deep.LoopGhost
import Derived.Deep.QuietTactic
import Derived.BigQuiet
import Derived.Handy
import Derived.Outline
import Derived.Deep.CutBlock
import Derived.Deep.DeepCutAuto
import Derived.Laws.BitsAllLaws
import Derived.Deep.RegionHeld3
namespace Go.Proofs.YtpneioocmpagmaaGreatDoor.dc
open Go.RowKit
open Go.Proofs.YtpneioocmpagmaaGreatDoor.tx (Keeps blk_cell blk_frozen blk_set)
set_option linter.unusedVariables false
set_option linter.unusedSimpArgs false

/-- The number's block: its 800 places, how many digits, where the point stands. -/
structure Row (cs : Array Value) (D : List Nat) (nd : Nat) (dp : Int) : Prop where
  size : cs.size = 804
  any : ∀ j, j < 800 → ∃ z : Nat, z < 256 ∧ cs[j]? = some (.int .u8 (z : Int))
  dig : ∀ j, j < D.length → cs[j]? = some (.int .u8 ((48 + D.getD j 0 : Nat) : Int))
  nd : cs[800]? = some (.int .i64 (nd : Int))
  dp : cs[801]? = some (.int .i64 dp)
  neg : ∃ b, cs[802]? = some (.bool b)
  tr : ∃ b, cs[803]? = some (.bool b)
  le : D.length ≤ 800
  nine : ∀ d ∈ D, d ≤ 9

/-- The number lies in block F. -/
def DAt (w : World) (F : Nat) (D : List Nat) (nd : Nat) (dp : Int) : Prop := ∃ cs, w.heap[F]? = some (.cells cs 246 (0, 0)) ∧ Row cs D nd dp

theorem getD_nine {D : List Nat} (h : ∀ d ∈ D, d ≤ 9) (j : Nat) : D.getD j 0 ≤ 9 := by
  rw [List.getD_eq_getElem?_getD]
  rcases Nat.lt_or_ge j D.length with hj | hj
  · rw [List.getElem?_eq_getElem hj]; exact h _ (List.getElem_mem hj)
  · rw [List.getElem?_eq_none hj]; simp

theorem Row.put {cs : Array Value} {D : List Nat} {nd : Nat} {dp : Int} (h : Row cs D nd dp) (n : Nat) : Row (cs.setIfInBounds 800 (.int .i64 (n : Int))) D n dp := by
  have hs := h.size
  refine ⟨by simpa using hs, fun j hj => ?_, fun j hj => ?_, ?_, ?_, ?_, ?_, h.le, h.nine⟩
  · rw [Array.getElem?_setIfInBounds_ne (by omega)]; exact h.any j hj
  · have := h.le; rw [Array.getElem?_setIfInBounds_ne (by omega)]; exact h.dig j hj
  · rw [Array.getElem?_setIfInBounds_self_of_lt (by omega)]
  · rw [Array.getElem?_setIfInBounds_ne (by omega)]; exact h.dp
  · rw [Array.getElem?_setIfInBounds_ne (by omega)]; exact h.neg
  · rw [Array.getElem?_setIfInBounds_ne (by omega)]; exact h.tr

theorem Row.point {cs : Array Value} {D : List Nat} {nd : Nat} {dp : Int} (h : Row cs D nd dp) (n : Int) : Row (cs.setIfInBounds 801 (.int .i64 n)) D nd n := by
  have hs := h.size
  refine ⟨by simpa using hs, fun j hj => ?_, fun j hj => ?_, ?_, ?_, ?_, ?_, h.le, h.nine⟩
  · rw [Array.getElem?_setIfInBounds_ne (by omega)]; exact h.any j hj
  · have := h.le; rw [Array.getElem?_setIfInBounds_ne (by omega)]; exact h.dig j hj
  · rw [Array.getElem?_setIfInBounds_ne (by omega)]; exact h.nd
  · rw [Array.getElem?_setIfInBounds_self_of_lt (by omega)]
  · rw [Array.getElem?_setIfInBounds_ne (by omega)]; exact h.neg
  · rw [Array.getElem?_setIfInBounds_ne (by omega)]; exact h.tr

theorem Row.flag {cs : Array Value} {D : List Nat} {nd : Nat} {dp : Int} (h : Row cs D nd dp) (b : Bool) : Row (cs.setIfInBounds 803 (.bool b)) D nd dp := by
  have hs := h.size
  refine ⟨by simpa using hs, fun j hj => ?_, fun j hj => ?_, ?_, ?_, ?_, ?_, h.le, h.nine⟩
  · rw [Array.getElem?_setIfInBounds_ne (by omega)]; exact h.any j hj
  · have := h.le; rw [Array.getElem?_setIfInBounds_ne (by omega)]; exact h.dig j hj
  · rw [Array.getElem?_setIfInBounds_ne (by omega)]; exact h.nd
  · rw [Array.getElem?_setIfInBounds_ne (by omega)]; exact h.dp
  · rw [Array.getElem?_setIfInBounds_ne (by omega)]; exact h.neg
  · exact ⟨b, by rw [Array.getElem?_setIfInBounds_self_of_lt (by omega)]⟩

theorem Row.cut {cs : Array Value} {D : List Nat} {nd : Nat} {dp : Int} (h : Row cs D nd dp) (k : Nat) : Row cs (D.take k) nd dp := by
  refine ⟨h.size, h.any, fun j hj => ?_, h.nd, h.dp, h.neg, h.tr, by have := h.le; simp; omega, fun d hd => h.nine d (List.mem_of_mem_take hd)⟩
  have hj' : j < k ∧ j < D.length := by simp at hj; omega
  rw [List.getD_eq_getElem?_getD, List.getElem?_take, if_pos hj'.1, ← List.getD_eq_getElem?_getD]
  exact h.dig j hj'.2

theorem DAt.set {w : World} {F : Nat} {cs : Array Value} (h : w.heap[F]? = some (.cells cs 246 (0, 0))) (j : Nat) (v : Value) : (w.setCell ⟨F, j, none⟩ v).heap[F]? = some (.cells (cs.setIfInBounds j v) 246 (0, 0)) := blk_set h j v

theorem keeps_set_own {F : Nat} {a b : World} (h : Keeps F a b) (j : Nat) (v : Value) : Keeps F a (b.setCell ⟨F, j, none⟩ v) := h.setCell j v

theorem keeps_drewN {F : Nat} {a b : World} (h : Keeps F a b) (n : Nat) : Keeps F a (b.drewN n) := ⟨h.os, h.tape, h.output, h.size, h.block⟩

/-- The digits without the noughts at their end. -/
def strip (D : List Nat) : List Nat := (D.reverse.dropWhile (· == 0)).reverse

theorem strip_take (D : List Nat) (k : Nat) (hk : k < D.length) (h0 : D.getD k 0 = 0) (hs : D = D.take (k + 1)) : strip D = strip (D.take k) := by
  have e : D = D.take k ++ [0] := by
    have h1 : D.take (k + 1) = D.take k ++ [D.getD k 0] := by
      rw [List.take_add_one, List.getElem?_eq_getElem hk]
      simp [List.getD_eq_getElem?_getD, List.getElem?_eq_getElem hk]
    rw [h0] at h1
    rw [← h1]; exact hs
  conv => lhs; rw [e]
  unfold strip
  simp

theorem strip_none (D : List Nat) (h : D = [] ∨ D.getD (D.length - 1) 0 ≠ 0) : strip D = D := by
  unfold strip
  rcases List.eq_nil_or_concat D with rfl | ⟨L, x, rfl⟩
  · rfl
  · rcases h with h | h
    · simp at h
    · have hx : x ≠ 0 := by simpa [List.getD_eq_getElem?_getD] using h
      simp [hx]

theorem strip_head {D : List Nat} (h : D.getD 0 0 ≠ 0) : (strip D).getD 0 0 = D.getD 0 0 ∧ 1 ≤ (strip D).length ∧ (strip D).length ≤ D.length := by
  have key : ∀ n, ∀ D : List Nat, D.length = n → D.getD 0 0 ≠ 0 → (strip D).getD 0 0 = D.getD 0 0 ∧ 1 ≤ (strip D).length ∧ (strip D).length ≤ D.length := by
    intro n
    induction n with
    | zero => intro D hn h; rw [List.eq_nil_of_length_eq_zero hn] at h; simp at h
    | succ n ih =>
      intro D hn h
      by_cases hl : D.getD n 0 = 0
      · have hn0 : n ≠ 0 := by intro e; rw [e] at hl; exact h hl
        rw [strip_take D n (by omega) hl (by rw [List.take_of_length_le (by omega)])]
        have hg : (D.take n).getD 0 0 = D.getD 0 0 := by
          rw [List.getD_eq_getElem?_getD, List.getElem?_take, if_pos (by omega), ← List.getD_eq_getElem?_getD]
        have := ih (D.take n) (by simp; omega) (by rw [hg]; exact h)
        rw [hg] at this
        refine ⟨this.1, this.2.1, ?_⟩
        have h2 := this.2.2
        simp at h2; omega
      · rw [strip_none D (.inr (by rw [hn]; exact hl))]
        exact ⟨rfl, by omega, Nat.le_refl _⟩
  exact key _ D rfl h

theorem strip_mem {D : List Nat} : ∀ d ∈ strip D, d ∈ D := by
  intro d hd
  unfold strip at hd
  rw [List.mem_reverse] at hd
  exact List.mem_reverse.1 (List.dropWhile_sublist _ |>.subset hd)

set_option maxHeartbeats 8000000 in
set_option maxRecDepth 100000 in
theorem trim_any (F : Nat) (D : List Nat) (dp : Int) (w : World) (h : DAt w F D D.length dp) :
    Calls Tryz.prog 223 #[.pointer (some ⟨F, 0, none⟩)] w fun e w' => e = .returned (.tuple #[]) ∧ DAt w' F (strip D) (strip D).length (if strip D = [] then 0 else dp) ∧ Keeps F w w' := by
  have HD := Lib.hid h
  obtain ⟨D', hD'⟩ : ∃ D', D' = strip D := ⟨_, rfl⟩
  obtain ⟨dp', hdp'⟩ : ∃ dp', dp' = (if strip D = [] then 0 else dp) := ⟨_, rfl⟩
  rw [← hdp', ← hD']
  have HDP := Lib.hid (And.intro hD' hdp')
  clear h hD' hdp'
  go_enter Tryz.func223, Tryz.ntmps223
  go_wp2_with fail
  go_loopg [] D.length (fun g wr => g ≤ D.length ∧ strip D = strip (D.take g) ∧ DAt wr F (D.take g) g dp ∧ Keeps F w wr)
  case atStart => exact ⟨Nat.le_refl _, by rw [List.take_length], by rw [List.take_length]; exact HD.out, Keeps.refl _ _⟩
  case round =>
    obtain ⟨hg, hst, ⟨cs, hcs, hrow⟩, hk⟩ := hrel
    have HK := Lib.hid hk
    have HST := Lib.hid hst
    have HCS := Lib.hid (And.intro hcs hrow)
    have k0 := blk_cell hcs hrow.nd
    have f0 := blk_frozen hcs 800
    have k1 := blk_cell hcs hrow.dp
    have f1 := blk_frozen hcs 801
    have hD8 : D.length ≤ 800 := by obtain ⟨_, _, h⟩ := HD.out; exact h.le
    clear hk hst
    cases gk with
    | zero =>
      have hz : ¬ (0 : Int) < ((0 : Nat) : Int) := by omega
      clear hcs hrow hg
      go_wp2_with fail
      go_quiet (fail)
      go_wp2_with fail
      go_returns
      have hs0 : strip D = [] := by rw [HST.out]; rfl
      have e1 := HDP.out.1
      have e2 := HDP.out.2
      rw [if_pos hs0] at e2
      rw [e1, e2, hs0]
      exact ⟨rfl, ⟨_, DAt.set HCS.out.1 801 _, HCS.out.2.point 0⟩, (keeps_drewN HK.out _).setCell 801 _⟩
    | succ g =>
      have hgl : (D.take (g + 1)).length = g + 1 := by simp; omega
      have kd := blk_cell hcs (hrow.dig g (by omega))
      have hgd : (D.take (g + 1)).getD g 0 = D.getD g 0 := by
        rw [List.getD_eq_getElem?_getD, List.getElem?_take, if_pos (by omega), ← List.getD_eq_getElem?_getD]
      rw [hgd] at kd
      obtain ⟨n, hn⟩ : ∃ n : Int, n = ((g + 1 : Nat) : Int) := ⟨_, rfl⟩
      rw [← hn] at k0
      have hz : (0 : Int) < n := by omega
      have e1 : IntKind.i64.wrap (n - 1) = (g : Int) := by rw [IntKind.wrap_i64]; omega
      have e2 : n - 1 = (g : Int) := by omega
      have hg8 : (g : Int) < 800 := by omega
      have HG := Lib.hid (And.intro hg hgd)
      clear hcs hrow hg hgd hgl hn
      by_cases hd : D.getD g 0 = 0
      · have h48 : (((48 + D.getD g 0 : Nat) : Int) == 48) = true := by rw [hd]; rfl
        obtain ⟨x, hx⟩ : ∃ x : Int, x = ((48 + D.getD g 0 : Nat) : Int) := ⟨_, rfl⟩
        rw [← hx] at kd h48
        have HDD := Lib.hid hd
        clear hd hx
        go_wp2_with fail
        go_quiet (fail)
        go_wp2_with fail
        go_roundg g
        case measure => omega
        case rel =>
          refine ⟨by have := HG.out.1; omega, ?_, ⟨_, DAt.set HCS.out.1 800 _, ?_⟩, (keeps_drewN HK.out _).setCell 800 _⟩
          · rw [HST.out]
            have e : (D.take (g + 1)).take g = D.take g := by rw [List.take_take, Nat.min_eq_left (by omega)]
            rw [← e]
            exact strip_take _ g (by have := HG.out.1; simp; omega) (by rw [HG.out.2]; exact HDD.out) (by rw [List.take_take, Nat.min_self])
          · have := (HCS.out.2.put g).cut g
            have e : (D.take (g + 1)).take g = D.take g := by rw [List.take_take, Nat.min_eq_left (by omega)]
            rw [e] at this
            exact this
      · have h48 : (((48 + D.getD g 0 : Nat) : Int) == 48) = false := by rw [beq_eq_false_iff_ne]; omega
        obtain ⟨x, hx⟩ : ∃ x : Int, x = ((48 + D.getD g 0 : Nat) : Int) := ⟨_, rfl⟩
        rw [← hx] at kd h48
        have HDD := Lib.hid hd
        have hn0 : (n == 0) = false := by rw [beq_eq_false_iff_ne]; omega
        clear hd hx
        go_wp2_with fail
        go_quiet (fail)
        go_wp2_with fail
        go_returns
        have hs0 : strip D = D.take (g + 1) := by
          rw [HST.out]
          have hl : (D.take (g + 1)).length = g + 1 := by have := HG.out.1; simp; omega
          exact strip_none _ (.inr (by rw [hl]; show (D.take (g + 1)).getD g 0 ≠ 0; rw [HG.out.2]; exact HDD.out))
        have hl : (strip D).length = g + 1 := by rw [hs0]; have := HG.out.1; simp; omega
        have e1 := HDP.out.1
        have e2 := HDP.out.2
        rw [if_neg (by intro h; rw [h] at hl; simp at hl)] at e2
        rw [e1, e2, hl, hs0]
        exact ⟨rfl, ⟨_, HCS.out.1, HCS.out.2⟩, ⟨HK.out.os, HK.out.tape, HK.out.output, HK.out.size, HK.out.block⟩⟩

end Go.Proofs.YtpneioocmpagmaaGreatDoor.dc

/- internal/strconv.rightShift: a decimal number without its last binary digits. -/
namespace Go.Proofs.YtpneioocmpagmaaGreatDoor.dc
open Go.RowKit
open Go.Proofs.YtpneioocmpagmaaGreatDoor.tx (Keeps blk_cell blk_frozen blk_set)
set_option linter.unusedVariables false
set_option linter.unusedSimpArgs false

/-- The number of the first r digits. -/
def pre (D : List Nat) : Nat → Nat
  | 0 => 0
  | r + 1 => pre D r * 10 + D.getD r 0

theorem pre_ge (D : List Nat) (h : D.getD 0 0 ≠ 0) : ∀ r, 10 ^ r ≤ pre D (r + 1)
  | 0 => by show 1 ≤ 0 * 10 + D.getD 0 0; omega
  | r + 1 => by
    have := pre_ge D h r
    show 10 ^ (r + 1) ≤ pre D (r + 1) * 10 + D.getD (r + 1) 0
    rw [Nat.pow_succ]; omega

theorem pre_small {D : List Nat} (h : D.getD 0 0 ≠ 0) {r : Nat} (hr : pre D r < 1152921504606846977) : r ≤ 20 := by
  refine Nat.le_of_not_lt fun hlt => ?_
  obtain ⟨s, rfl⟩ : ∃ s, r = s + 1 := ⟨r - 1, by omega⟩
  have h1 := pre_ge D h s
  have h2 : 10 ^ 19 ≤ 10 ^ s := Nat.pow_le_pow_right (by decide) (by omega)
  have h3 : (10 : Nat) ^ 19 = 10000000000000000000 := by decide
  omega

/-- The number's block while it is shifted: E is written, from r on D stands. -/
structure RS (cs : Array Value) (D E : List Nat) (r nd : Nat) (dp : Int) : Prop where
  size : cs.size = 804
  any : ∀ j, j < 800 → ∃ z : Nat, z < 256 ∧ cs[j]? = some (.int .u8 (z : Int))
  new : ∀ j, j < E.length → cs[j]? = some (.int .u8 ((48 + E.getD j 0 : Nat) : Int))
  old : ∀ j, r ≤ j → j < D.length → cs[j]? = some (.int .u8 ((48 + D.getD j 0 : Nat) : Int))
  nd : cs[800]? = some (.int .i64 (nd : Int))
  dp : cs[801]? = some (.int .i64 dp)
  neg : ∃ b, cs[802]? = some (.bool b)
  tr : ∃ b, cs[803]? = some (.bool b)
  le : E.length ≤ 800
  nine : ∀ d ∈ E, d ≤ 9

theorem RS.of {cs : Array Value} {D : List Nat} {nd : Nat} {dp : Int} (h : Row cs D nd dp) (r : Nat) : RS cs D [] r nd dp :=
  ⟨h.size, h.any, fun j hj => by simp at hj, fun j _ hj => h.dig j hj, h.nd, h.dp, h.neg, h.tr, by simp, fun d hd => by simp at hd⟩

theorem RS.next {cs : Array Value} {D E : List Nat} {r nd : Nat} {dp : Int} (h : RS cs D E r nd dp) : RS cs D E (r + 1) nd dp :=
  ⟨h.size, h.any, h.new, fun j h1 h2 => h.old j (by omega) h2, h.nd, h.dp, h.neg, h.tr, h.le, h.nine⟩

theorem getD_snoc (E : List Nat) (x j : Nat) : (E ++ [x]).getD j 0 = if j < E.length then E.getD j 0 else if j = E.length then x else 0 := by
  rw [List.getD_eq_getElem?_getD]
  split
  · rename_i h; rw [List.getElem?_append_left h, ← List.getD_eq_getElem?_getD]
  · rename_i h
    split
    · rename_i h2; subst h2; simp
    · rw [List.getElem?_eq_none (by simp; omega)]; rfl

theorem RS.write {cs : Array Value} {D E : List Nat} {r nd : Nat} {dp : Int} (h : RS cs D E r nd dp) (hr : E.length < r ∨ D.length ≤ r) (he : E.length < 800) (x : Nat) (hx : x ≤ 9) (v : Int) (hv : v = ((48 + x : Nat) : Int)) :
    RS (cs.setIfInBounds E.length (.int .u8 v)) D (E ++ [x]) r nd dp := by
  subst hv
  have hs := h.size
  refine ⟨by simpa using hs, fun j hj => ?_, fun j hj => ?_, fun j h1 h2 => ?_, ?_, ?_, ?_, ?_, by simp; omega, fun d hd => ?_⟩
  · by_cases e : j = E.length
    · subst e; exact ⟨48 + x, by omega, by rw [Array.getElem?_setIfInBounds_self_of_lt (by omega)]⟩
    · rw [Array.getElem?_setIfInBounds_ne (by omega)]; exact h.any j hj
  · rw [getD_snoc]
    by_cases e : j = E.length
    · subst e; rw [Array.getElem?_setIfInBounds_self_of_lt (by omega)]; simp
    · have hj' : j < E.length := by simp at hj; omega
      rw [Array.getElem?_setIfInBounds_ne (by omega), if_pos hj']; exact h.new j hj'
  · rw [Array.getElem?_setIfInBounds_ne (by omega)]; exact h.old j h1 h2
  · rw [Array.getElem?_setIfInBounds_ne (by omega)]; exact h.nd
  · rw [Array.getElem?_setIfInBounds_ne (by omega)]; exact h.dp
  · rw [Array.getElem?_setIfInBounds_ne (by omega)]; exact h.neg
  · rw [Array.getElem?_setIfInBounds_ne (by omega)]; exact h.tr
  · rcases List.mem_append.1 hd with h1 | h1
    · exact h.nine d h1
    · simp at h1; omega

theorem RS.point {cs : Array Value} {D E : List Nat} {r nd : Nat} {dp : Int} (h : RS cs D E r nd dp) (hD : D.length ≤ 800) (n : Int) : RS (cs.setIfInBounds 801 (.int .i64 n)) D E r nd n := by
  have hs := h.size
  have hl := h.le
  refine ⟨by simpa using hs, fun j hj => ?_, fun j hj => ?_, fun j h1 h2 => ?_, ?_, ?_, ?_, ?_, h.le, h.nine⟩
  · rw [Array.getElem?_setIfInBounds_ne (by omega)]; exact h.any j hj
  · rw [Array.getElem?_setIfInBounds_ne (by omega)]; exact h.new j hj
  · rw [Array.getElem?_setIfInBounds_ne (by omega)]; exact h.old j h1 h2
  · rw [Array.getElem?_setIfInBounds_ne (by omega)]; exact h.nd
  · rw [Array.getElem?_setIfInBounds_self_of_lt (by omega)]
  · rw [Array.getElem?_setIfInBounds_ne (by omega)]; exact h.neg
  · rw [Array.getElem?_setIfInBounds_ne (by omega)]; exact h.tr

theorem RS.flag {cs : Array Value} {D E : List Nat} {r nd : Nat} {dp : Int} (h : RS cs D E r nd dp) (hD : D.length ≤ 800) (b : Bool) : RS (cs.setIfInBounds 803 (.bool b)) D E r nd dp := by
  have hs := h.size
  have hl := h.le
  refine ⟨by simpa using hs, fun j hj => ?_, fun j hj => ?_, fun j h1 h2 => ?_, ?_, ?_, ?_, ?_, h.le, h.nine⟩
  · rw [Array.getElem?_setIfInBounds_ne (by omega)]; exact h.any j hj
  · rw [Array.getElem?_setIfInBounds_ne (by omega)]; exact h.new j hj
  · rw [Array.getElem?_setIfInBounds_ne (by omega)]; exact h.old j h1 h2
  · rw [Array.getElem?_setIfInBounds_ne (by omega)]; exact h.nd
  · rw [Array.getElem?_setIfInBounds_ne (by omega)]; exact h.dp
  · rw [Array.getElem?_setIfInBounds_ne (by omega)]; exact h.neg
  · exact ⟨b, by rw [Array.getElem?_setIfInBounds_self_of_lt (by omega)]⟩

theorem RS.done {cs : Array Value} {D E : List Nat} {r nd : Nat} {dp : Int} (h : RS cs D E r nd dp) : Row (cs.setIfInBounds 800 (.int .i64 (E.length : Int))) E E.length dp := by
  have hs := h.size
  have hl := h.le
  refine ⟨by simpa using hs, fun j hj => ?_, fun j hj => ?_, ?_, ?_, ?_, ?_, h.le, h.nine⟩
  · rw [Array.getElem?_setIfInBounds_ne (by omega)]; exact h.any j hj
  · rw [Array.getElem?_setIfInBounds_ne (by omega)]; exact h.new j hj
  · rw [Array.getElem?_setIfInBounds_self_of_lt (by omega)]
  · rw [Array.getElem?_setIfInBounds_ne (by omega)]; exact h.dp
  · rw [Array.getElem?_setIfInBounds_ne (by omega)]; exact h.neg
  · rw [Array.getElem?_setIfInBounds_ne (by omega)]; exact h.tr

/-- What the first loop finds. -/
structure Found (D : List Nat) (M r n : Nat) : Prop where
  val : n = pre D r
  bound : n < 10 * M
  less : ∀ j, j < r → pre D j < M

theorem Found.more {D : List Nat} {M r n : Nat} (h : Found D M r n) (hn : n < M) (hd : ∀ d ∈ D, d ≤ 9) : Found D M (r + 1) (n * 10 + D.getD r 0) := by
  have := getD_nine hd r
  refine ⟨by rw [h.val]; rfl, by omega, fun j hj => ?_⟩
  by_cases e : j = r
  · subst e; rw [← h.val]; exact hn
  · exact h.less j (by omega)

def At1 (D : List Nat) (M : Nat) (v4 v6 : Value) : Prop := ∃ r n : Nat, v4 = .int .i64 (r : Int) ∧ v6 = .int .u64 (n : Int) ∧ Found D M r n ∧ M ≤ n

def RSays (w : World) (F : Nat) (D : List Nat) (dp : Int) (M K : Nat) (e : Ending) (w' : World) : Prop :=
  ∃ (D' : List Nat) (r : Nat), e = .returned (.tuple #[]) ∧ DAt w' F D' D'.length (dp - ((r : Int) - 1)) ∧ 1 ≤ r ∧ M ≤ pre D r ∧ (∀ j, j < r → pre D j < M) ∧ D'.getD 0 0 = pre D r / M ∧ Keeps F w w' ∧ D'.length ≤ D.length + K + 1

/-- What stands between rounds, behind the first loop. -/
structure L2 (w : World) (F : Nat) (D : List Nat) (dp : Int) (M N0 r wd n : Nat) (E : List Nat) (wr : World) : Prop where
  blk : ∃ cs, wr.heap[F]? = some (.cells cs 246 (0, 0)) ∧ RS cs D E r D.length dp
  len : E.length = wd
  bound : n < 10 * M
  first : (wd = 0 ∧ n = N0) ∨ (1 ≤ wd ∧ E.getD 0 0 = N0 / M)
  keep : Keeps F w wr

def L2v (w : World) (F : Nat) (D : List Nat) (dp : Int) (M N0 : Nat) (v4 v5 v6 : Value) (wr : World) : Prop :=
  ∃ (r wd n : Nat) (E : List Nat), v4 = .int .i64 (r : Int) ∧ v5 = .int .i64 (wd : Int) ∧ v6 = .int .u64 (n : Int) ∧ (wd < r ∧ wd ≤ D.length) ∧ L2 w F D dp M N0 r wd n E wr

def L3v (w : World) (F : Nat) (D : List Nat) (dp : Int) (M N0 k g : Nat) (v5 v6 : Value) (wr : World) : Prop :=
  ∃ (wd n j : Nat) (E : List Nat), v5 = .int .i64 (wd : Int) ∧ v6 = .int .u64 (n : Int) ∧ 2 ^ j ∣ n ∧ j + g = k + 1 ∧ (g = 0 → n = 0) ∧ wd + g ≤ D.length + k + 1 ∧ L2 w F D dp M N0 D.length wd n E wr

theorem L2.step {w : World} {F : Nat} {D : List Nat} {dp : Int} {M N0 r wd n : Nat} {E : List Nat} {wr : World} (h : L2 w F D dp M N0 r wd n E wr) (hr : wd < r ∨ D.length ≤ r) (hw : wd < 800) (hM : 1 ≤ M) (r' n' : Nat) (hr' : r ≤ r') (hn' : n' < 10 * M) (v : Int) (hv : v = ((48 + n / M : Nat) : Int)) :
    L2 w F D dp M N0 r' (wd + 1) n' (E ++ [n / M]) (wr.setCell ⟨F, wd, none⟩ (.int .u8 v)) := by
  obtain ⟨cs, hcs, hrs⟩ := h.blk
  have h9 : n / M ≤ 9 := by
    have := h.bound
    have : n / M < 10 := Nat.div_lt_of_lt_mul (by rw [Nat.mul_comm]; exact this)
    omega
  have hl := h.len
  have hrs2 : RS cs D E r' D.length dp := ⟨hrs.size, hrs.any, hrs.new, fun j h1 h2 => hrs.old j (by omega) h2, hrs.nd, hrs.dp, hrs.neg, hrs.tr, hrs.le, hrs.nine⟩
  refine ⟨⟨_, DAt.set hcs wd _, ?_⟩, by simp; omega, hn', .inr ⟨by omega, ?_⟩, h.keep.setCell wd _⟩
  · have := hrs2.write (by omega) (by omega) (n / M) h9 v hv
    rw [hl] at this
    exact this
  · rw [getD_snoc]
    rcases h.first with ⟨h1, h2⟩ | ⟨h1, h2⟩
    · rw [if_neg (by omega), if_pos (by omega), h2]
    · rw [if_pos (by omega), h2]

theorem mask_mod (n M k : Nat) (hM : M = 2 ^ k) (hn : n < 18446744073709551616) (hM2 : M < 18446744073709551616) : bits .and .u64 (n : Int) ((M : Int) - 1) = ((n % M : Nat) : Int) := by
  have h1 : 1 ≤ M := by rw [hM]; exact Nat.one_le_two_pow
  rw [show ((M : Int) - 1) = ((M - 1 : Nat) : Int) from by omega, u64_and_nat _ _ hn (by omega), hM, Nat.and_two_pow_sub_one_eq_mod]

set_option maxHeartbeats 8000000 in
set_option maxRecDepth 100000 in
theorem right_shift (F : Nat) (D : List Nat) (dp : Int) (hdp : -1000000 ≤ dp ∧ dp ≤ 1000000) (k : Nat) (hk : 1 ≤ k) (hk2 : k ≤ 60) (hd : D.getD 0 0 ≠ 0) (w : World) (h : DAt w F D D.length dp) :
    Calls Tryz.prog 225 #[.pointer (some ⟨F, 0, none⟩), .int .u64 k] w fun e w' => RSays w F D dp (2 ^ k) k e w' := by
  obtain ⟨M, hM⟩ : ∃ M, M = 2 ^ k := ⟨_, rfl⟩
  have hM2 : M ≤ 1152921504606846976 := by
    rw [hM]; exact Nat.le_trans (Nat.pow_le_pow_right (by decide) hk2) (by decide)
  have hM1 : 1 ≤ M := by rw [hM]; exact Nat.one_le_two_pow
  have hMi : (2 : Int) ^ k = (M : Int) := by rw [hM]; simp
  rw [← hM]
  obtain ⟨cs, hcs, hrow⟩ := id h
  have hlen : 1 ≤ D.length := by
    refine Nat.one_le_iff_ne_zero.2 fun e => hd ?_
    rw [List.eq_nil_of_length_eq_zero e]; rfl
  have hl8 := hrow.le
  have HCS := Lib.hid (And.intro hcs hrow)
  have HMM := Lib.hid (And.intro hM (And.intro hM2 hM1))
  have HDD := Lib.hid hd
  have HDP := Lib.hid hdp
  have k800 := blk_cell hcs hrow.nd
  clear h hcs hrow hd hM hM2 hM1 hdp
  go_enter Tryz.func225, Tryz.ntmps225
  go_upto_block 0 with (fail)
  go_cut [4, 6] (fun v4 v6 wx => At1 D M v4 v6 ∧ w = wx)
  case first => as_aux_lemma =>
    go_wp2_with fail
    go_loop [4, 6] (fun v4 v6 => ∃ r n : Nat, v4 = .int .i64 (r : Int) ∧ v6 = .int .u64 (n : Int) ∧ Found D M r n ∧ r ≤ D.length) (fun v4 v6 => D.length + 1 - (intOf v4).toNat)
    case atStart => exact ⟨0, 0, rfl, rfl, ⟨rfl, by have := HMM.out.2.2; omega, fun j hj => by omega⟩, by omega⟩
    case round =>
      obtain ⟨r, n, rfl, rfl, hfd, hrl⟩ := hrel
      have HF := Lib.hid hfd
      have hnb := hfd.bound
      by_cases hnM : n < M
      · have t0 : (((n : Int) / (M : Int)) == 0) = true := by
          rw [beq_iff_eq]; exact Int.ediv_eq_zero_of_lt (by omega) (by omega)
        have hM2 := HMM.out.2.1
        by_cases hrn : r < D.length
        · have kd := blk_cell HCS.out.1 (HCS.out.2.dig r hrn)
          have h9 := getD_nine HCS.out.2.nine r
          obtain ⟨d, hd⟩ : ∃ d, d = D.getD r 0 := ⟨_, rfl⟩
          rw [← hd] at kd h9
          obtain ⟨c, hc⟩ : ∃ c : Int, c = ((48 + d : Nat) : Int) := ⟨_, rfl⟩
          rw [← hc] at kd
          obtain ⟨n10, hn10⟩ : ∃ x : Int, x = (n : Int) * 10 := ⟨_, rfl⟩
          obtain ⟨s, hs⟩ : ∃ x : Int, x = n10 + c := ⟨_, rfl⟩
          obtain ⟨n', hn'⟩ : ∃ x : Nat, x = n * 10 + d := ⟨_, rfl⟩
          have w1 : IntKind.u64.wrap ((n : Int) * 10) = n10 := by rw [IntKind.wrap_u64]; omega
          have w2 : IntKind.u64.wrap (n10 + c) = s := by rw [IntKind.wrap_u64]; omega
          have w3 : IntKind.u64.wrap (s - 48) = (n' : Int) := by rw [IntKind.wrap_u64]; omega
          have w4 : IntKind.u64.wrap c = c := by rw [IntKind.wrap_u64]; omega
          have w5 : IntKind.i64.wrap ((r : Int) + 1) = (r : Int) + 1 := by rw [IntKind.wrap_i64]; omega
          have t1 : ¬ (D.length : Int) ≤ (r : Int) := by omega
          have hr8 : (r : Int) < 800 := by omega
          have HN := Lib.hid (And.intro hn' (And.intro hd hnM))
          clear hM2 hnM hnb hfd hn10 hs hn' hc hd h9
          go_wp2_with fail
          exact ⟨⟨r + 1, n', by go_num, rfl, by rw [HN.out.1, HN.out.2.1]; exact HF.out.more HN.out.2.2 HCS.out.2.nine, by omega⟩, by simp [intOf]; omega⟩
        · have hn1 : 1 ≤ n := by
            obtain ⟨s, hs⟩ : ∃ s, r = s + 1 := ⟨r - 1, by omega⟩
            have := pre_ge D HDD.out s
            have h2 : 1 ≤ 10 ^ s := Nat.one_le_pow _ _ (by decide)
            rw [hfd.val, hs]; omega
          have t1 : (D.length : Int) ≤ (r : Int) := by omega
          have t2 : ((n : Int) == 0) = false := by rw [beq_eq_false_iff_ne]; omega
          have HN1 := Lib.hid (And.intro hn1 hrn)
          clear hM2 hnM hnb hfd hn1
          go_wp2_with fail
          go_loop [4, 6] (fun v4 v6 => ∃ r n : Nat, v4 = .int .i64 (r : Int) ∧ v6 = .int .u64 (n : Int) ∧ Found D M r n ∧ D.length ≤ r ∧ 1 ≤ n) (fun v4 v6 => M - (intOf v6).toNat)
          case atStart => exact ⟨r, n, rfl, rfl, HF.out, by omega, HN1.out.1⟩
          case round =>
            obtain ⟨r2, n2, rfl, rfl, hfd2, hrl2, hn2⟩ := hrel
            have HF2 := Lib.hid hfd2
            have hM2 := HMM.out.2.1
            have hnb2 := hfd2.bound
            by_cases hnM2 : n2 < M
            · have t3 : (((n2 : Int) / (M : Int)) == 0) = true := by
                rw [beq_iff_eq]; exact Int.ediv_eq_zero_of_lt (by omega) (by omega)
              have hr20 : r2 ≤ 20 := pre_small HDD.out (by rw [← hfd2.val]; omega)
              obtain ⟨n', hn'⟩ : ∃ x : Nat, x = n2 * 10 := ⟨_, rfl⟩
              have w1 : IntKind.u64.wrap ((n2 : Int) * 10) = (n' : Int) := by rw [IntKind.wrap_u64]; omega
              have w5 : IntKind.i64.wrap ((r2 : Int) + 1) = (r2 : Int) + 1 := by rw [IntKind.wrap_i64]; omega
              have hme : M - n' < M - n2 := by omega
              have HN := Lib.hid (And.intro hn' (And.intro hnM2 hn2))
              have hg0 : D.getD r2 0 = 0 := by rw [List.getD_eq_getElem?_getD, List.getElem?_eq_none hrl2]; rfl
              have HG := Lib.hid hg0
              clear hM2 hnM2 hnb2 hfd2 hn' hg0 hn2
              go_wp2_with fail
              refine ⟨⟨r2 + 1, n', by go_num, rfl, ?_, by omega, ?_⟩, by simpa [intOf] using hme⟩
              · have := HF2.out.more HN.out.2.1 HCS.out.2.nine
                rw [HG.out, Nat.add_zero, ← HN.out.1] at this
                exact this
              · have := HN.out.1; have := HN.out.2.2; omega
            · have t3 : (((n2 : Int) / (M : Int)) == 0) = false := by
                rw [beq_eq_false_iff_ne]
                have h1 := HMM.out.2.2
                have h2 : 1 ≤ n2 / M := (Nat.one_le_div_iff (by omega)).2 (by omega)
                have h3 : ((n2 : Int) / (M : Int)) = ((n2 / M : Nat) : Int) := by simp
                rw [h3]; omega
              have HM3 : Hid (M ≤ n2) := Lib.hid (by omega)
              clear hM2 hnM2 hnb2 hfd2
              go_wp2_with (first | go_meet | fail)
              first | exact ⟨⟨r2, n2, rfl, rfl, HF2.out, HM3.out⟩, rfl⟩ | exact ⟨r2, n2, rfl, rfl, HF2.out, HM3.out⟩
      · have t0 : (((n : Int) / (M : Int)) == 0) = false := by
          rw [beq_eq_false_iff_ne]
          have h1 := HMM.out.2.2
          have h2 : 1 ≤ n / M := (Nat.one_le_div_iff (by omega)).2 (by omega)
          have h3 : ((n : Int) / (M : Int)) = ((n / M : Nat) : Int) := by simp
          rw [h3]; omega
        have HM3 : Hid (M ≤ n) := Lib.hid (by omega)
        clear hnM hnb hfd
        go_wp2_with (first | go_meet | fail)
        first | exact ⟨⟨r, n, rfl, rfl, HF.out, HM3.out⟩, rfl⟩ | exact ⟨r, n, rfl, rfl, HF.out, HM3.out⟩
  case rest => as_aux_lemma =>
    obtain ⟨⟨r, n, rfl, rfl, hfd, hMn⟩, rfl⟩ := hcut
    have hr1 : 1 ≤ r := by
      refine Nat.one_le_iff_ne_zero.2 fun e => ?_
      have h1 := hfd.val
      rw [e] at h1
      have h2 : n = 0 := h1
      have := HMM.out.2.2
      omega
    have hr20 : r ≤ 21 := by
      obtain ⟨s, rfl⟩ : ∃ s, r = s + 1 := ⟨r - 1, by omega⟩
      have h1 := hfd.less s (by omega)
      have := pre_small HDD.out (r := s) (by have := HMM.out.2.1; omega)
      omega
    have HF := Lib.hid (And.intro hfd hMn)
    have k801 := blk_cell HCS.out.1 HCS.out.2.dp
    have f801 := blk_frozen HCS.out.1 801
    obtain ⟨m1, hm1⟩ : ∃ x : Int, x = (r : Int) - 1 := ⟨_, rfl⟩
    obtain ⟨dp', hdp'⟩ : ∃ x : Int, x = dp - m1 := ⟨_, rfl⟩
    have w1 : IntKind.i64.wrap ((r : Int) - 1) = m1 := by rw [IntKind.wrap_i64]; omega
    have w2 : IntKind.i64.wrap (dp - m1) = dp' := by rw [IntKind.wrap_i64]; have := HDP.out; omega
    have w4 : IntKind.u64.wrap (M : Int) = (M : Int) := by rw [IntKind.wrap_u64]; have := HMM.out; omega
    have HDP2 : Hid (dp' = dp - ((r : Int) - 1)) := Lib.hid (by rw [hdp', hm1])
    obtain ⟨ms, hms⟩ : ∃ x : Int, x = (M : Int) - 1 := ⟨_, rfl⟩
    have w3 : IntKind.u64.wrap ((M : Int) - 1) = ms := by rw [hms, IntKind.wrap_u64]; have := HMM.out; omega
    have HMS := Lib.hid hms
    clear hfd hMn hm1 hdp' hms
    obtain ⟨W, hW⟩ : ∃ W, W = w.setCell ⟨F, 801, none⟩ (.int .i64 dp') := ⟨_, rfl⟩
    have hWc : W.heap[F]? = some (.cells (cs.setIfInBounds 801 (.int .i64 dp')) 246 (0, 0)) := by rw [hW]; exact DAt.set HCS.out.1 801 _
    have hWr : RS (cs.setIfInBounds 801 (.int .i64 dp')) D [] r D.length dp' := (RS.of HCS.out.2 r).point hl8 dp'
    have hWk : Keeps F w W := by rw [hW]; exact (Keeps.refl F w).setCell 801 _
    have HW := Lib.hid (And.intro hWc (And.intro hWr hWk))
    clear hWc hWr hWk
    go_wp2_with fail
    rw [← hW]
    clear hW
    try rw [w3]
    obtain ⟨N0, hN0⟩ : ∃ N0, N0 = n := ⟨_, rfl⟩
    have HN0 : Hid (N0 = pre D r ∧ M ≤ N0) := Lib.hid ⟨by rw [hN0]; exact HF.out.1.val, by rw [hN0]; exact HF.out.2⟩
    have HL0 : Hid (L2v w F D dp' M N0 (.int .i64 (r : Int)) (.int .i64 0) (.int .u64 (n : Int)) W) := Lib.hid ⟨r, 0, n, [], rfl, rfl, rfl, by omega, ⟨⟨_, HW.out.1, HW.out.2.1⟩, rfl, HF.out.1.bound, .inl ⟨rfl, hN0.symm⟩, HW.out.2.2⟩⟩
    clear hN0 w1 w2 w3 w4
    go_loopw [4, 5, 6] (fun v4 v5 v6 wr => L2v w F D dp' M N0 v4 v5 v6 wr) (fun v4 _ _ _ => D.length - (intOf v4).toNat)
    case atStart => exact HL0.out
    case round =>
      obtain ⟨r2, wd, n2, E, rfl, rfl, rfl, ⟨hwd, hwdl⟩, hl2⟩ := hrel
      have HL := Lib.hid hl2
      obtain ⟨cs2, hcs2, hrs2⟩ := hl2.blk
      have q800 := blk_cell hcs2 hrs2.nd
      have hnb := hl2.bound
      have hM2 := HMM.out.2.1
      by_cases hr2 : r2 < D.length
      · have kd := blk_cell hcs2 (hrs2.old r2 (Nat.le_refl _) hr2)
        obtain ⟨z, hz, hzc⟩ := hrs2.any wd (by omega)
        have kw := blk_cell hcs2 hzc
        have fw := blk_frozen hcs2 wd
        have h9 := getD_nine HCS.out.2.nine r2
        obtain ⟨d, hd⟩ : ∃ d, d = D.getD r2 0 := ⟨_, rfl⟩
        rw [← hd] at kd h9
        obtain ⟨c, hc⟩ : ∃ c : Int, c = ((48 + d : Nat) : Int) := ⟨_, rfl⟩
        rw [← hc] at kd
        obtain ⟨dg, hdg⟩ : ∃ x : Nat, x = n2 / M := ⟨_, rfl⟩
        have hdg9 : dg ≤ 9 := by
          have : n2 / M < 10 := Nat.div_lt_of_lt_mul (by rw [Nat.mul_comm]; exact hnb)
          omega
        obtain ⟨m, hm⟩ : ∃ x : Nat, x = n2 % M := ⟨_, rfl⟩
        have hmM : m < M := by rw [hm]; exact Nat.mod_lt _ (by have := HMM.out.2.2; omega)
        obtain ⟨v, hv⟩ : ∃ x : Int, x = (dg : Int) + 48 := ⟨_, rfl⟩
        obtain ⟨m10, hm10⟩ : ∃ x : Int, x = (m : Int) * 10 := ⟨_, rfl⟩
        obtain ⟨s, hs⟩ : ∃ x : Int, x = m10 + c := ⟨_, rfl⟩
        obtain ⟨n', hn'⟩ : ∃ x : Nat, x = m * 10 + d := ⟨_, rfl⟩
        have e1 : (n2 : Int) / (M : Int) = (dg : Int) := by rw [hdg]; simp
        have e2 : bits .and .u64 (n2 : Int) ms = (m : Int) := by rw [HMS.out, hm]; exact mask_mod n2 M k HMM.out.1 (by omega) (by omega)
        have w1 : IntKind.u64.wrap ((m : Int) * 10) = m10 := by rw [IntKind.wrap_u64]; omega
        have w2 : IntKind.u64.wrap (m10 + c) = s := by rw [IntKind.wrap_u64]; omega
        have w3 : IntKind.u64.wrap (s - 48) = (n' : Int) := by rw [IntKind.wrap_u64]; omega
        have w4 : IntKind.u64.wrap c = c := by rw [IntKind.wrap_u64]; omega
        have w5 : IntKind.i64.wrap ((r2 : Int) + 1) = (r2 : Int) + 1 := by rw [IntKind.wrap_i64]; omega
        have w6 : IntKind.u64.wrap ((dg : Int) + 48) = v := by rw [IntKind.wrap_u64]; omega
        have w7 : IntKind.u8.wrap v = v := by rw [IntKind.wrap_u8]; omega
        have w8 : IntKind.i64.wrap ((wd : Int) + 1) = (wd : Int) + 1 := by rw [IntKind.wrap_i64]; omega
        have hr8 : (r2 : Int) < 800 := by omega
        have hw8 : (wd : Int) < 800 := by omega
        have hri : (r2 : Int) < (D.length : Int) := by omega
        have HN : Hid (L2 w F D dp' M N0 (r2 + 1) (wd + 1) n' (E ++ [n2 / M]) (wr.setCell ⟨F, wd, none⟩ (.int .u8 v))) := Lib.hid (HL.out.step (.inl hwd) (by omega) HMM.out.2.2 (r2 + 1) n' (by omega) (by omega) v (by rw [hv, hdg]; omega))
        clear hM2 hnb hl2 hcs2 hrs2 hzc hz hd hc hdg hm hv hm10 hs hn' h9 hdg9 hmM
        go_wp2_with fail
        exact ⟨⟨r2 + 1, wd + 1, n', _, by go_num, by go_num, rfl, by omega, HN.out⟩, by simp [intOf]; omega⟩
      · have hri : ¬ (r2 : Int) < (D.length : Int) := by omega
        have hrl : D.length ≤ r2 := by omega
        have HL3 : Hid (L3v w F D dp' M N0 k (k + 1) (.int .i64 (wd : Int)) (.int .u64 (n2 : Int)) wr) := Lib.hid ⟨wd, n2, 0, E, rfl, rfl, by simp, by omega, fun h => by omega, by omega, ⟨⟨cs2, hcs2, ⟨hrs2.size, hrs2.any, hrs2.new, fun j h1 h2 => by omega, hrs2.nd, hrs2.dp, hrs2.neg, hrs2.tr, hrs2.le, hrs2.nine⟩⟩, hl2.len, hl2.bound, hl2.first, hl2.keep⟩⟩
        clear hM2 hnb hl2 hcs2 hrs2 hr2 hrl
        go_wp2_with fail
        go_loopg [5, 6] (k + 1) (fun g v5 v6 wx => L3v w F D dp' M N0 k g v5 v6 wx)
        case atStart => exact HL3.out
        case round =>
          obtain ⟨wd3, n3, j, E3, rfl, rfl, hj, hjg, hg0, hwg, hl3⟩ := hrel
          have HWG : Hid (E3.length ≤ D.length + k + 1 ∧ wd3 + gk ≤ D.length + k + 1) := Lib.hid ⟨by rw [hl3.len]; omega, hwg⟩
          have HL4 := Lib.hid hl3
          have HJ := Lib.hid (And.intro hj hjg)
          obtain ⟨cs3, hcs3, hrs3⟩ := hl3.blk
          have hnb := hl3.bound
          have hM2 := HMM.out.2.1
          have hel : wd3 ≤ 800 := by have := hrs3.le; have := hl3.len; omega
          by_cases hn0 : n3 = 0
          · have t0 : ¬ (0 : Int) < (n3 : Int) := by omega
            have q800 := blk_cell hcs3 hrs3.nd
            have f800 := blk_frozen hcs3 800
            have hwd1 : 1 ≤ wd3 := by
              rcases hl3.first with ⟨h1, h2⟩ | ⟨h1, _⟩
              · have := HN0.out.2; have := HMM.out.2.2; omega
              · exact h1
            have hE0 : E3.getD 0 0 = N0 / M := by
              rcases hl3.first with ⟨h1, h2⟩ | ⟨_, h1⟩
              · omega
              · exact h1
            have hE1 : 1 ≤ N0 / M := (Nat.one_le_div_iff (by have := HMM.out.2.2; omega)).2 HN0.out.2
            have HD4 : Hid (DAt (wr.setCell ⟨F, 800, none⟩ (.int .i64 (wd3 : Int))) F E3 E3.length dp') := Lib.hid ⟨_, DAt.set hcs3 800 _, by rw [← hl3.len]; exact hrs3.done⟩
            have HT := Lib.hid (trim_any F E3 dp' (wr.setCell ⟨F, 800, none⟩ (.int .i64 (wd3 : Int))) HD4.out)
            have HE := Lib.hid (And.intro hE0 hE1)
            clear hj hjg hg0 hwg hl3 hcs3 hrs3 hnb hM2 hel hE0 hE1 hwd1
            go_wp2_with fail
            refine HT.out.mono ?_
            rintro e w' ⟨rfl, hd', hk'⟩
            have hh := strip_head (D := E3) (by rw [HE.out.1]; have := HE.out.2; omega)
            rw [if_neg (by intro h; rw [h] at hh; simp at hh)] at hd'
            have HDK := Lib.hid (And.intro hd' (And.intro hk' hh))
            clear hd' hk' hh
            go_wp2_with fail
            go_returns
            exact ⟨_, r, rfl, by rw [← HDP2.out]; exact HDK.out.1, hr1, by rw [← HN0.out.1]; exact HN0.out.2, HF.out.1.less, by rw [HDK.out.2.2.1, HE.out.1, HN0.out.1], (HL4.out.keep.setCell 800 _).trans HDK.out.2.1, by have := HDK.out.2.2.2.2; have := HWG.out.1; omega⟩
          · cases gk with
            | zero => exact absurd (hg0 rfl) hn0
            | succ g =>
              have t0 : (0 : Int) < (n3 : Int) := by omega
              obtain ⟨dg, hdg⟩ : ∃ x : Nat, x = n3 / M := ⟨_, rfl⟩
              have hdg9 : dg ≤ 9 := by
                have : n3 / M < 10 := Nat.div_lt_of_lt_mul (by rw [Nat.mul_comm]; exact hnb)
                omega
              obtain ⟨m, hm⟩ : ∃ x : Nat, x = n3 % M := ⟨_, rfl⟩
              have hmM : m < M := by rw [hm]; exact Nat.mod_lt _ (by have := HMM.out.2.2; omega)
              obtain ⟨v, hv⟩ : ∃ x : Int, x = (dg : Int) + 48 := ⟨_, rfl⟩
              obtain ⟨n', hn'⟩ : ∃ x : Nat, x = m * 10 := ⟨_, rfl⟩
              have e1 : (n3 : Int) / (M : Int) = (dg : Int) := by rw [hdg]; simp
              have e2 : bits .and .u64 (n3 : Int) ms = (m : Int) := by rw [HMS.out, hm]; exact mask_mod n3 M k HMM.out.1 (by omega) (by omega)
              have w1 : IntKind.u64.wrap ((m : Int) * 10) = (n' : Int) := by rw [IntKind.wrap_u64]; omega
              have w6 : IntKind.u64.wrap ((dg : Int) + 48) = v := by rw [IntKind.wrap_u64]; omega
              have w7 : IntKind.u8.wrap v = v := by rw [IntKind.wrap_u8]; omega
              have w8 : IntKind.i64.wrap ((wd3 : Int) + 1) = (wd3 : Int) + 1 := by rw [IntKind.wrap_i64]; omega
              have hdv : 2 ^ (j + 1) ∣ n' := by
                have hjk : j ≤ k := by omega
                have h1 : 2 ^ j ∣ M := by rw [HMM.out.1]; exact Nat.pow_dvd_pow 2 hjk
                have h2 : 2 ^ j ∣ m := by rw [hm]; exact (Nat.dvd_mod_iff h1).2 hj
                rw [hn', Nat.pow_succ]
                exact Nat.mul_dvd_mul h2 (by decide)
              have hz : g = 0 → n' = 0 := by
                intro hg
                have hjk : j = k := by omega
                rw [hjk, ← HMM.out.1] at hj
                rw [hn', hm, Nat.mod_eq_zero_of_dvd hj]
              have HZ := Lib.hid (And.intro hdv (And.intro (show j + 1 + g = k + 1 by omega) hz))
              by_cases hw : wd3 < 800
              · obtain ⟨z, hz', hzc⟩ := hrs3.any wd3 hw
                have kw := blk_cell hcs3 hzc
                have fw := blk_frozen hcs3 wd3
                have hwi : (wd3 : Int) < 800 := by omega
                have HN : Hid (L2 w F D dp' M N0 D.length (wd3 + 1) n' (E3 ++ [n3 / M]) (wr.setCell ⟨F, wd3, none⟩ (.int .u8 v))) := Lib.hid (HL4.out.step (.inr (Nat.le_refl _)) hw HMM.out.2.2 D.length n' (Nat.le_refl _) (by omega) v (by rw [hv, hdg]; omega))
                clear hj hjg hg0 hwg hl3 hcs3 hrs3 hnb hM2 hel hdg hdg9 hm hmM hv hn' hdv hz hz' hzc
                go_wp2_with fail
                go_roundg g
                case measure => omega
                case rel => exact ⟨wd3 + 1, n', j + 1, _, by go_num, rfl, HZ.out.1, HZ.out.2.1, HZ.out.2.2, by have := HWG.out.2; omega, HN.out⟩
              · have hwi : ¬ (wd3 : Int) < 800 := by omega
                have q803 : ∃ b, wr.cell? ⟨F, 803, none⟩ = some (.bool b) := by obtain ⟨b, hb⟩ := hrs3.tr; exact ⟨b, blk_cell hcs3 hb⟩
                obtain ⟨bt, q803⟩ := q803
                have f803 := blk_frozen hcs3 803
                have hfirst : (wd3 = 0 ∧ n' = N0) ∨ (1 ≤ wd3 ∧ E3.getD 0 0 = N0 / M) := by
                  rcases hl3.first with ⟨h1, _⟩ | h1
                  · omega
                  · exact .inr h1
                have HNa : Hid (L2 w F D dp' M N0 D.length wd3 n' E3 wr) := Lib.hid ⟨hl3.blk, hl3.len, by omega, hfirst, hl3.keep⟩
                have HNb : Hid (L2 w F D dp' M N0 D.length wd3 n' E3 (wr.setCell ⟨F, 803, none⟩ (.bool true))) := Lib.hid ⟨⟨_, DAt.set hcs3 803 _, hrs3.flag hl8 true⟩, hl3.len, by omega, hfirst, hl3.keep.setCell 803 _⟩
                by_cases hdz : dg = 0
                · have t5 : ¬ (0 : Int) < (dg : Int) := by omega
                  clear hj hjg hg0 hwg hl3 hcs3 hrs3 hnb hM2 hel hdg hdg9 hm hmM hv hn' hdv hz hfirst
                  go_wp2_with fail
                  go_roundg g
                  case measure => omega
                  case rel => exact ⟨wd3, n', j + 1, _, rfl, rfl, HZ.out.1, HZ.out.2.1, HZ.out.2.2, by have := HWG.out.2; omega, HNa.out⟩
                · have t5 : (0 : Int) < (dg : Int) := by omega
                  clear hj hjg hg0 hwg hl3 hcs3 hrs3 hnb hM2 hel hdg hdg9 hm hmM hv hn' hdv hz hfirst
                  go_wp2_with fail
                  go_roundg g
                  case measure => omega
                  case rel => exact ⟨wd3, n', j + 1, _, rfl, rfl, HZ.out.1, HZ.out.2.1, HZ.out.2.2, by have := HWG.out.2; omega, HNb.out⟩

end Go.Proofs.YtpneioocmpagmaaGreatDoor.dc

/- internal/strconv.prefixIsLessThan; decimal texts compared. -/
namespace Go.Proofs.YtpneioocmpagmaaGreatDoor.dc
open Go.RowKit
open Go.Proofs.YtpneioocmpagmaaGreatDoor.tx (Keeps blk_cell blk_frozen blk_set)
set_option linter.unusedVariables false
set_option linter.unusedSimpArgs false

/-- Digits ahead of others, as fractions' texts. -/
def lexLt : List Nat → List Nat → Bool
  | _, [] => false
  | [], _ :: _ => true
  | a :: l, b :: m => if a = b then lexLt l m else decide (a < b)

/-- The number of digits. -/
def val : List Nat → Nat
  | [] => 0
  | d :: l => d * 10 ^ l.length + val l

theorem val_lt : ∀ l : List Nat, (∀ d ∈ l, d ≤ 9) → val l < 10 ^ l.length
  | [], _ => by simp [val]
  | d :: l, h => by
    have h1 := val_lt l (fun x hx => h x (by simp [hx]))
    have h2 := h d (by simp)
    simp only [val, List.length_cons, Nat.pow_succ]
    have : d * 10 ^ l.length ≤ 9 * 10 ^ l.length := Nat.mul_le_mul_right _ h2
    omega

theorem lex_val : ∀ (a s : List Nat), (∀ d ∈ a, d ≤ 9) → (∀ d ∈ s, d ≤ 9) → (s ≠ [] → s.getLast? ≠ some 0) →
    (lexLt a s = true → val a * 10 ^ s.length < val s * 10 ^ a.length) ∧ (lexLt a s = false → val s * 10 ^ a.length ≤ val a * 10 ^ s.length)
  | a, [], _, _, _ => by
    refine ⟨fun h => by simp [lexLt] at h, fun _ => by simp [val]⟩
  | [], b :: m, _, hs, hl => by
    refine ⟨fun _ => ?_, fun h => by simp [lexLt] at h⟩
    have key : ∀ s : List Nat, s ≠ [] → s.getLast? ≠ some 0 → 0 < val s := by
      intro s
      induction s with
      | nil => intro h; exact absurd rfl h
      | cons x t ih =>
        intro _ h
        cases t with
        | nil =>
          have : x ≠ 0 := by intro e; rw [e] at h; simp at h
          simp [val]; omega
        | cons y r =>
          have := ih (by simp) (by simpa using h)
          simp only [val] at this ⊢
          omega
    have := key (b :: m) (by simp) (hl (by simp))
    simp only [val, List.length_nil, Nat.pow_zero] at this ⊢
    omega
  | x :: l, b :: m, ha, hs, hl => by
    have hx := ha x (by simp)
    have hb := hs b (by simp)
    have hvl := val_lt l (fun d hd => ha d (by simp [hd]))
    have hvm := val_lt m (fun d hd => hs d (by simp [hd]))
    have e1 : (10 : Nat) ^ (m.length + 1) = 10 * 10 ^ m.length := by rw [Nat.pow_succ, Nat.mul_comm]
    have e2 : (10 : Nat) ^ (l.length + 1) = 10 * 10 ^ l.length := by rw [Nat.pow_succ, Nat.mul_comm]
    simp only [val, List.length_cons, e1, e2]
    obtain ⟨A, hA⟩ : ∃ A, A = 10 ^ l.length := ⟨_, rfl⟩
    obtain ⟨B, hB⟩ : ∃ B, B = 10 ^ m.length := ⟨_, rfl⟩
    rw [← hA] at hvl ⊢
    rw [← hB] at hvm ⊢
    have hA0 : 0 < A := by rw [hA]; exact Nat.pow_pos (by decide)
    have hB0 : 0 < B := by rw [hB]; exact Nat.pow_pos (by decide)
    have f1 : (x * A + val l) * (10 * B) = 10 * (x * (A * B) + val l * B) := by
      rw [Nat.add_mul, Nat.mul_add]
      congr 1
      · rw [Nat.mul_comm (x * A), Nat.mul_assoc, Nat.mul_comm B, Nat.mul_assoc]
      · rw [Nat.mul_comm (val l), Nat.mul_assoc, Nat.mul_comm B]
    have f2 : (b * B + val m) * (10 * A) = 10 * (b * (A * B) + val m * A) := by
      rw [Nat.add_mul, Nat.mul_add]
      congr 1
      · rw [Nat.mul_comm (b * B), Nat.mul_assoc, Nat.mul_comm A, Nat.mul_assoc, Nat.mul_comm B A]
      · rw [Nat.mul_comm (val m), Nat.mul_assoc, Nat.mul_comm A]
    rw [f1, f2]
    have g1 : val l * B < A * B := Nat.mul_lt_mul_of_pos_right hvl hB0
    have g2 : val m * A < A * B := by rw [Nat.mul_comm A B]; exact Nat.mul_lt_mul_of_pos_right hvm hA0
    obtain ⟨C, hC⟩ : ∃ C, C = A * B := ⟨_, rfl⟩
    rw [← hC] at g1 g2 ⊢
    unfold lexLt
    by_cases hxb : x = b
    · subst hxb
      rw [if_pos rfl]
      have ih := lex_val l m (fun d hd => ha d (by simp [hd])) (fun d hd => hs d (by simp [hd])) (fun hm => by
        have := hl (by simp)
        cases m with
        | nil => exact absurd rfl hm
        | cons y r => simpa using this)
      rw [← hA, ← hB] at ih
      exact ⟨fun h => by have := ih.1 h; omega, fun h => by have := ih.2 h; omega⟩
    · rw [if_neg hxb]
      refine ⟨fun h => ?_, fun h => ?_⟩
      · have h1 : x < b := by simpa using h
        have h2 : (x + 1) * C ≤ b * C := Nat.mul_le_mul_right _ h1
        rw [Nat.add_mul] at h2
        omega
      · have h1 : b < x := by simp at h; omega
        have h2 : (b + 1) * C ≤ x * C := Nat.mul_le_mul_right _ h1
        rw [Nat.add_mul] at h2
        omega

theorem lexLt_drop {a s : List Nat} {i : Nat} (ha : i < a.length) (hs : i < s.length) (h : a.getD i 0 = s.getD i 0) : lexLt (a.drop i) (s.drop i) = lexLt (a.drop (i + 1)) (s.drop (i + 1)) := by
  rw [List.drop_eq_getElem_cons ha, List.drop_eq_getElem_cons hs]
  have e1 : a.getD i 0 = a[i] := by rw [List.getD_eq_getElem?_getD, List.getElem?_eq_getElem ha]; rfl
  have e2 : s.getD i 0 = s[i] := by rw [List.getD_eq_getElem?_getD, List.getElem?_eq_getElem hs]; rfl
  rw [e1, e2] at h
  conv => lhs; unfold lexLt
  rw [if_pos h]

theorem lexLt_at {a s : List Nat} {i : Nat} (ha : i < a.length) (hs : i < s.length) (h : a.getD i 0 ≠ s.getD i 0) : lexLt (a.drop i) (s.drop i) = decide (a.getD i 0 < s.getD i 0) := by
  rw [List.drop_eq_getElem_cons ha, List.drop_eq_getElem_cons hs]
  have e1 : a.getD i 0 = a[i] := by rw [List.getD_eq_getElem?_getD, List.getElem?_eq_getElem ha]; rfl
  have e2 : s.getD i 0 = s[i] := by rw [List.getD_eq_getElem?_getD, List.getElem?_eq_getElem hs]; rfl
  rw [e1, e2] at h ⊢
  unfold lexLt
  rw [if_neg h]

theorem lexLt_end {a s : List Nat} {i : Nat} (ha : a.length ≤ i) (hs : i < s.length) : lexLt (a.drop i) (s.drop i) = true := by
  rw [List.drop_eq_nil_of_le ha, List.drop_eq_getElem_cons hs]
  rfl

theorem lexLt_none {a s : List Nat} {i : Nat} (hs : s.length ≤ i) : lexLt (a.drop i) (s.drop i) = false := by
  rw [List.drop_eq_nil_of_le hs]
  unfold lexLt
  cases (a.drop i) <;> rfl

/-- A text of digits. -/
def DigT (s : ByteArray) (S : List Nat) : Prop := s.size = S.length ∧ ∀ j (h : j < s.size), (s[j]).toNat = 48 + S.getD j 0

set_option maxHeartbeats 8000000 in
set_option maxRecDepth 100000 in
theorem prefix_less (F c : Nat) (D S : List Nat) (s : ByteArray) (hc : D.length ≤ c) (hD8 : D.length ≤ 800) (hS : S.length ≤ 100) (hs : DigT s S) (w : World) (hd : ∀ j, j < D.length → w.cell? ⟨F, j, none⟩ = some (.int .u8 ((48 + D.getD j 0 : Nat) : Int))) (h9 : ∀ d ∈ D, d ≤ 9) (h9s : ∀ d ∈ S, d ≤ 9) :
    Calls Tryz.prog 240 #[.slice (some ⟨F, 0, none⟩) D.length c, .string s] w fun e w' => e = .returned (.bool (lexLt D S)) ∧ ∃ n, w' = w.drewN n := by
  have HD := Lib.hid hd
  have HS := Lib.hid hs.2
  have HL := Lib.hid hs.1
  have hsz : s.size = S.length := hs.1
  have H9 := Lib.hid (And.intro h9 h9s)
  obtain ⟨R, hR⟩ : ∃ R, R = lexLt D S := ⟨_, rfl⟩
  rw [← hR]
  have HR : Hid (lexLt (D.drop 0) (S.drop 0) = R) := Lib.hid (by rw [hR]; rfl)
  clear hd hs h9 h9s hR
  go_enter Tryz.func240, Tryz.ntmps240
  go_wp2_with fail
  go_loopw [5] (fun v5 wr => ∃ i n : Nat, v5 = .int .i64 (i : Int) ∧ i ≤ S.length ∧ lexLt (D.drop i) (S.drop i) = R ∧ wr = w.drewN n) (fun v5 _ => S.length - (intOf v5).toNat)
  case atStart => exact ⟨0, 0, rfl, by omega, HR.out, rfl⟩
  case round =>
    obtain ⟨i, n, rfl, hi, hl, hwr⟩ := hrel
    have HWR := Lib.hid hwr
    have HLX := Lib.hid hl
    clear hl hwr
    by_cases hiS : i < S.length
    · by_cases hiD : i < D.length
      · have kd : wr.cell? ⟨F, i, none⟩ = some (.int .u8 ((48 + D.getD i 0 : Nat) : Int)) := by rw [HWR.out]; exact HD.out i hiD
        have hsi := HS.out i (by omega)
        have a9 := getD_nine H9.out.1 i
        have b9 := getD_nine H9.out.2 i
        obtain ⟨x, hx⟩ : ∃ x, x = D.getD i 0 := ⟨_, rfl⟩
        obtain ⟨y, hy⟩ : ∃ y, y = S.getD i 0 := ⟨_, rfl⟩
        rw [← hx] at kd a9
        rw [← hy] at hsi b9
        have hlt1 : (i : Int) < (s.size : Int) := by omega
        have hlt2 : ¬ (D.length : Int) ≤ (i : Int) := by omega
        have hlt3 : (i : Int) < (D.length : Int) := by omega
        have hisz : i < s.size := by omega
        have hw : IntKind.i64.wrap ((i : Int) + 1) = (i : Int) + 1 := by rw [IntKind.wrap_i64]; omega
        obtain ⟨xi, hxi⟩ : ∃ z : Int, z = ((48 + x : Nat) : Int) := ⟨_, rfl⟩
        rw [← hxi] at kd
        have hst : ((s[i]'hisz).toNat : Int) = 48 + (y : Int) := by rw [hsi]; omega
        obtain ⟨yi, hyi⟩ : ∃ z : Int, z = 48 + (y : Int) := ⟨_, rfl⟩
        rw [← hyi] at hst
        have HXY := Lib.hid (And.intro hx hy)
        clear hsi
        by_cases hxy : x = y
        · have t0 : (xi != yi) = false := by simp; omega
          have t1 : (xi == yi) = true := by simp; omega
          have HN : Hid (lexLt (D.drop (i + 1)) (S.drop (i + 1)) = R) := Lib.hid (by rw [← lexLt_drop hiD hiS (by rw [← HXY.out.1, ← HXY.out.2, hxy])]; exact HLX.out)
          clear hx hy hxi hyi hxy
          go_wp2_with fail
          go_quiet (fail)
          go_wp2_with fail
          exact ⟨⟨i + 1, _, by go_num, by omega, HN.out, by rw [HWR.out, World.drewN_drewN]⟩, by simp [intOf]; omega⟩
        · have t0 : (xi != yi) = true := by simp; omega
          have t1 : (xi == yi) = false := by rw [beq_eq_false_iff_ne]; omega
          have HN : Hid (decide (xi < yi) = R) := Lib.hid (by
            rw [← HLX.out, lexLt_at hiD hiS (by rw [← HXY.out.1, ← HXY.out.2]; exact hxy), ← HXY.out.1, ← HXY.out.2]
            rw [decide_eq_decide]; omega)
          clear hx hy hxi hyi hxy
          go_wp2_with fail
          go_quiet (fail)
          obtain ⟨W2, hW2⟩ : ∃ W2, W2 = wr.drewN nq := ⟨_, rfl⟩
          rw [← hW2]
          have kd2 : W2.cell? ⟨F, i, none⟩ = some (.int .u8 xi) := by rw [hW2]; exact kd
          have HW2 := Lib.hid hW2
          clear hW2
          go_wp2_with fail
          go_quiet (fail)
          go_wp2_with fail
          go_ret
          exact ⟨by rw [← HN.out]; rfl, _, by rw [HW2.out, HWR.out, World.drewN_drewN, World.drewN_drewN]⟩
      · have hlt1 : (i : Int) < (s.size : Int) := by omega
        have hlt2 : (D.length : Int) ≤ (i : Int) := by omega
        have HN : Hid (R = true) := Lib.hid (by rw [← HLX.out]; exact lexLt_end (by omega) hiS)
        go_wp2_with fail
        go_ret
        exact ⟨by rw [HN.out]; rfl, _, HWR.out⟩
    · have hlt1 : ¬ (i : Int) < (s.size : Int) := by omega
      have HN : Hid (R = false) := Lib.hid (by rw [← HLX.out]; exact lexLt_none (by omega))
      go_wp2_with fail
      go_ret
      exact ⟨by rw [HN.out]; rfl, _, HWR.out⟩

end Go.Proofs.YtpneioocmpagmaaGreatDoor.dc

