/- The JSON reader: what it holds; consume. -/
import Derived.Test.YtdeehmjdbjlfkaaGreatDoorJs0
import Derived.Defers
import Derived.Sort.Row
namespace Go.Proofs.YtdeehmjdbjlfkaaGreatDoor.js
open Go.RowKit
set_option linter.unusedVariables false
set_option linter.unusedSimpArgs false

/-- Blanks between tokens. -/
def ws (c : Nat) : Bool := c == 32 || c == 10 || c == 13 || c == 9

def skipN : Nat → List UInt8 → Nat → Nat
  | 0, _, k => k
  | f + 1, T, k => if k < T.length then (if ws (T.getD k 0).toNat then skipN f T (k + 1) else k) else k

/-- Where the next token begins. -/
def skip (T : List UInt8) (k : Nat) : Nat := skipN (T.length - k) T k

theorem skip_step {T : List UInt8} {k : Nat} (hk : k < T.length) (h : ws (T.getD k 0).toNat = true) : skip T k = skip T (k + 1) := by
  unfold skip
  obtain ⟨f, hf⟩ : ∃ f, T.length - k = f + 1 := ⟨T.length - k - 1, by omega⟩
  rw [hf, show T.length - (k + 1) = f from by omega]
  show (if k < T.length then _ else _) = _
  rw [if_pos hk, if_pos h]

theorem skip_stop {T : List UInt8} {k : Nat} (h : k < T.length → ws (T.getD k 0).toNat = false) : skip T k = k := by
  unfold skip
  cases hf : T.length - k with
  | zero => rfl
  | succ f =>
    have hk : k < T.length := by omega
    show (if k < T.length then _ else _) = _
    rw [if_pos hk, if_neg (by rw [h hk]; simp)]

/-- The unread rest, from pos on, as the reader holds it: a slice of block b. -/
def InAt (b L cap pos off n c : Nat) : Prop := pos + n = L ∧ n ≤ c ∧ c ≤ cap ∧ (0 < n → off = pos ∧ c = cap - pos)

theorem inAt_cut {b L cap pos off n c k : Nat} (h : InAt b L cap pos off n c) (hk : k ≤ n) (hL : L ≤ cap) : InAt b L cap (pos + k) (off + k) (n - k) (c - k) := by
  obtain ⟨h1, h2, h3, h4⟩ := h
  refine ⟨by omega, by omega, by omega, fun hp => ?_⟩
  have := h4 (by omega)
  omega

theorem inAt_end {b L cap pos off n c k : Nat} (h : InAt b L cap pos off n c) (hk : k ≤ n) (hc : c = k) : InAt b L cap (pos + k) off 0 0 := by
  obtain ⟨h1, h2, h3, h4⟩ := h
  exact ⟨by omega, by omega, by omega, fun hp => by omega⟩

/-- The length of the slice in a cell. -/
def lenAt (w : World) (a : Addr) : Nat := match w.cell? a with | some (.slice _ n _) => n | _ => 0

theorem lenAt_set (w : World) (a : Addr) (u v : Value) (h : w.cell? a = some u) : lenAt (w.setCell a v) a = match v with | .slice _ n _ => n | _ => 0 := by
  unfold lenAt
  rw [World.cell?_setCell_same w a v h]
  cases v <;> rfl

/-- A store over a store into the same cell. -/
theorem setCell_setCell (w : World) (blk off : Nat) (v v' : Value) : (w.setCell ⟨blk, off, none⟩ v).setCell ⟨blk, off, none⟩ v' = w.setCell ⟨blk, off, none⟩ v' := by
  rw [Sort.setCell_eq, Sort.setCell_eq, Sort.mapBlock_mapBlock, Sort.setCell_eq]
  congr 1
  funext c
  simp

theorem ws_cases (x : Nat) : (ws x = true ∧ (x = 32 ∨ x = 10 ∨ x = 13 ∨ x = 9)) ∨ (ws x = false ∧ ((x : Int) == 32) = false ∧ ((x : Int) == 10) = false ∧ ((x : Int) == 13) = false ∧ ((x : Int) == 9) = false) := by
  unfold ws
  simp only [Bool.or_eq_true, beq_iff_eq, Bool.or_eq_false_iff, beq_eq_false_iff_ne]
  omega

set_option maxHeartbeats 8000000 in
set_option maxRecDepth 100000 in
theorem consume (P1 b L cap pos off n c k : Nat) (T : List UInt8) (hT : T.length = L) (hk : k ≤ n) (hL : L ≤ cap) (hcap : cap ≤ 9223372036854775807) (hv : InAt b L cap pos off n c) (w : World)
    (hc : w.cell? ⟨P1, 9, none⟩ = some (.slice (some ⟨b, off, none⟩) n c)) (hf : w.frozen? ⟨P1, 9, none⟩ = false) (hr : RowM w b 0 T) (hb : b ≠ P1) :
    Calls Tryz.prog 57 #[.pointer (some ⟨P1, 0, none⟩), .int .i64 k] w fun e w' => e = .returned (.tuple #[]) ∧ ∃ off' n' c', InAt b L cap (skip T (pos + k)) off' n' c' ∧ w' = w.setCell ⟨P1, 9, none⟩ (.slice (some ⟨b, off', none⟩) n' c') := by
  have HR := Lib.hid hr
  have HTL := Lib.hid hT
  have HVV := Lib.hid hv
  have HBP := Lib.hid hb
  obtain ⟨v1, v2, v3, v4⟩ := hv
  have HV4 := Lib.hid v4
  obtain ⟨sk, hsk⟩ : ∃ sk, sk = skip T (pos + k) := ⟨_, rfl⟩
  rw [← hsk]
  have HSK0 := Lib.hid hsk
  clear hsk
  clear hr hT v4 hb
  have t1 : (k : Int) ≤ (n : Int) := by omega
  have t2 : (0 : Int) ≤ (k : Int) := by omega
  have t3 : (k : Int) ≤ (c : Int) := by omega
  have LP : ∀ (off1 n1 c1 : Nat), InAt b L cap (pos + k) off1 n1 c1 → True := fun _ _ _ _ => trivial
  have hcases : (c = k ∧ n = k) ∨ ¬ c = k := by omega
  rcases hcases with ⟨rfl, rfl⟩ | hck
  all_goals
    go_enter Tryz.func57, Tryz.ntmps57
    go_wp2_with fail
    go_loopw [] (fun wr => ∃ pos' off' n' c' : Nat, InAt b L cap pos' off' n' c' ∧ skip T pos' = sk ∧ wr = w.setCell ⟨P1, 9, none⟩ (.slice (some ⟨b, off', none⟩) n' c')) (fun wr => lenAt wr ⟨P1, 9, none⟩)
    case atStart => first | exact ⟨_, _, _, _, inAt_end HVV.out (Nat.le_refl _) rfl, HSK0.out.symm, rfl⟩ | exact ⟨_, _, _, _, inAt_cut HVV.out hk hL, HSK0.out.symm, rfl⟩
    case round =>
      obtain ⟨pos', off', n', c', hin, hsk, rfl⟩ := hrel
      have HIN := Lib.hid hin
      have HSK := Lib.hid hsk
      clear hin hsk
      obtain ⟨W, hW⟩ : ∃ W, W = w.setCell ⟨P1, 9, none⟩ (.slice (some ⟨b, off', none⟩) n' c') := ⟨_, rfl⟩
      have hc9 : W.cell? ⟨P1, 9, none⟩ = some (.slice (some ⟨b, off', none⟩) n' c') := by rw [hW]; exact World.cell?_setCell_same w _ _ hc
      have hf9 : W.frozen? ⟨P1, 9, none⟩ = false := by rw [hW]; simpa using hf
      have HRW : Hid (RowM W b 0 T) := Lib.hid (fun j hj => by rw [hW, World.cell?_setCell_other w _ _ _ (by simp; intro e; exact absurd e.symm HBP.out)]; exact HR.out j hj)
      have HME : Hid (∀ v, lenAt (W.setCell ⟨P1, 9, none⟩ v) ⟨P1, 9, none⟩ = match v with | .slice _ n _ => n | _ => 0) := Lib.hid (fun v => lenAt_set W _ _ v hc9)
      have HM0 : Hid (lenAt W ⟨P1, 9, none⟩ = n') := Lib.hid (by rw [hW, lenAt_set w _ _ _ hc])
      rw [← hW]
      have HWE := Lib.hid hW
      clear hW
      by_cases hn : 0 < n'
      · obtain ⟨i1, i2, i3, i4⟩ := HIN.out
        obtain ⟨rfl, hc'⟩ := i4 hn
        have hlt : off' < T.length := by have := HTL.out; omega
        have hcell : W.cell? ⟨b, off', none⟩ = some (.int .u8 ((T.getD off' 0).toNat : Int)) := by have := HRW.out off' hlt; rw [Nat.zero_add] at this; exact this
        obtain ⟨x, hx⟩ : ∃ x, x = (T.getD off' 0).toNat := ⟨_, rfl⟩
        rw [← hx] at hcell
        have HXX := Lib.hid hx
        have s0 : (0 : Int) < (n' : Int) := by omega
        have s1 : (1 : Int) ≤ (n' : Int) := by omega
        have s2 : (1 : Int) ≤ (c' : Int) := by omega
        have HI1 := Lib.hid (And.intro i1 (And.intro i2 hlt))
        clear hx i1 i2 i3 i4 hc' hlt
        rcases ws_cases x with ⟨hws, hxs⟩ | ⟨hws, x1, x2, x3, x4⟩
        · have HNX : Hid (skip T (off' + 1) = skip T off') := Lib.hid (skip_step HI1.out.2.2 (by rw [← HXX.out]; exact hws)).symm
          clear hws
          by_cases hc1 : c' = 1
          · obtain rfl : n' = 1 := by have := HI1.out; omega
            subst hc1
            clear s0 s1 s2 hn
            rcases hxs with rfl | rfl | rfl | rfl
            all_goals
              go_wp2_with fail
              refine ⟨⟨_, _, _, _, inAt_end HIN.out (Nat.le_refl _) rfl, HNX.out.trans HSK.out, ?_⟩, ?_⟩
              · rw [HWE.out]; exact setCell_setCell _ _ _ _ _
              · rw [HME.out, HM0.out]; show 0 < 1; omega
          · rcases hxs with rfl | rfl | rfl | rfl
            all_goals
              go_wp2_with fail
              refine ⟨⟨_, _, _, _, inAt_cut HIN.out (by omega : 1 ≤ n') hL, HNX.out.trans HSK.out, ?_⟩, ?_⟩
              · rw [HWE.out]; exact setCell_setCell _ _ _ _ _
              · rw [HME.out, HM0.out]; show n' - 1 < n'; omega
        · have HWS := Lib.hid hws
          clear hws
          go_wp2_with fail
          first | go_end0 | refine bodyPost_ret (results_none rfl _ _ _) rfl ?_
          refine ⟨rfl, _, _, _, ?_, HWE.out⟩
          rw [← HSK.out, skip_stop (fun _ => by rw [← HXX.out]; exact HWS.out)]
          exact HIN.out
      · obtain rfl : n' = 0 := by omega
        go_wp2_with fail
        first | go_end0 | refine bodyPost_ret (results_none rfl _ _ _) rfl ?_
        refine ⟨rfl, _, _, _, ?_, HWE.out⟩
        rw [← HSK.out, skip_stop (fun h => by have := HIN.out.1; have := HTL.out; omega)]
        exact HIN.out

end Go.Proofs.YtdeehmjdbjlfkaaGreatDoor.js
