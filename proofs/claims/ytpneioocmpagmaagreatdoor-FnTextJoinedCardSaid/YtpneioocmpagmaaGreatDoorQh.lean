/- Strings gathered in a list of the call's own. -/
import Derived.Test.YtpneioocmpagmaaGreatDoorQf
import Derived.Test.YtpneioocmpagmaaGreatDoorShelf2
namespace Go.Proofs.YtpneioocmpagmaaGreatDoor.tx
open Go.RowKit
set_option linter.unusedVariables false
set_option linter.unusedSimpArgs false

theorem infoS : (Tryz.prog.info? 9).map (fun i => (i.zero, i.size, i.bytes)) = some (some (.string ⟨#[]⟩), 1, 16) := by kernel_rfl

def OwnS (w : World) (B : Nat) (v : Value) (g : List ByteArray) : Prop := w.ownsRow B 9 1 v g.length (g.map .string)

theorem wpList_pushS {ops : Array Oper} {rest : List Oper} {o : Oper} {a : Act} {w : World} {Q : Exit → Act → World → Prop} (hgd : o.guard = none) (s x : Operand)
    (ho : o.op = .call { callee := .builtin .append, args := #[s, x], argTypes := #[50, 50] })
    (B : Nat) (v : Value) (g : List ByteArray) (hs : a.eval s = v) (hown : OwnS w B v g)
    (ad : Addr) (c : Nat) (new : ByteArray) (hx : a.eval x = .slice (some ad) 1 c) (hnew : w.cell? ad = some (.string new))
    (hlen : g.length ≤ 1000000) (hB : B ≤ w.heap.size) (W : World) (hnx : Below B W w)
    (h : ∀ v' w', OwnS w' B v' (g ++ [new]) → Below B W w' → w.grownBy w' v.ownBlock → wpList Tryz.prog ops Q rest (a.put o.dst v') w') : wpList Tryz.prog ops Q (o :: rest) a w := by
  obtain ⟨i0, hi, hz0, hz1, hz2⟩ := info_parts infoS
  refine wpList_append_own w hgd s x 50 ho B 9 i0 (.string ⟨#[]⟩) 1 16 Tryz.underlying50 hi hz0 hz1 hz2 rfl (by decide) v g.length (g.map .string) hs hown ad 1 c [.string new] hx (by simp) (fun j u hj => ?_) (fun u hu => ?_) (by unfold maxLen; omega) (by omega) hB (fun v' w' h1 h2 _ => ?_)
  · match j, hj with
    | 0, hj => simp at hj; subst hj; simpa [Addr.add] using hnew
    | j + 1, hj => simp at hj
  · simp at hu; subst hu; rfl
  · refine h v' w' ?_ (hnx.grown h2 hB (fun j hj => (World.ownsRow.lt hown j hj).1)) h2
    unfold OwnS
    simpa using h1

theorem ownS_cells {w : World} {B : Nat} {v : Value} {g : List ByteArray} (h : OwnS w B v g) (hne : g ≠ []) : ∃ gb cap, v = .slice (some ⟨gb, 0, none⟩) g.length cap ∧ g.length ≤ cap ∧ B ≤ gb ∧ gb < w.heap.size ∧ ∀ (j : Nat) x, g[j]? = some x → w.cell? ⟨gb, 0 + j, none⟩ = some (.string x) := by
  obtain ⟨h0, h1 | ⟨gb, cap, cur, h1, h2, h3, h4, h5, h6, h7⟩⟩ := id h
  · exfalso
    obtain ⟨_, h1⟩ := h1
    exact hne (List.eq_nil_of_length_eq_zero (by first | exact h1 | (simp at h1; omega)))
  · refine ⟨gb, cap, h1, h4, h2, (Array.getElem?_eq_some_iff.1 h3).1, fun j x hx => ?_⟩
    subst h1
    have := World.ownsRow.cells (g := gb) h rfl j (.string x) (by rw [List.getElem?_map, hx]; rfl)
    rw [add_pos] at this
    exact this

end Go.Proofs.YtpneioocmpagmaaGreatDoor.tx
