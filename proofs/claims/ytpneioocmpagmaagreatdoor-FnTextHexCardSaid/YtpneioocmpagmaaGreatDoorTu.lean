/- Bytes appended to a slice that is full, or the call's own. -/
import Derived.Test.YtpneioocmpagmaaGreatDoorTk
import Derived.Lib.AppendStr
import Derived.ArgAppend
import Derived.Deep.RegionLaw
import Derived.Deep.RegionLawGrows
namespace Go.Proofs.YtpneioocmpagmaaGreatDoor.tx
open Go.RowKit
set_option linter.unusedVariables false
set_option linter.unusedSimpArgs false

theorem infoB : (Tryz.prog.info? 5).map (fun i => (i.zero, i.size, i.bytes)) = some (some (.int .u8 0), 1, 1) := by kernel_rfl

def bb (b : UInt8) : Value := .int .u8 (b.toNat : Int)

/-- A slice of the call's own that holds the bytes g. -/
def OwnB (w : World) (B : Nat) (v : Value) (g : List UInt8) : Prop := w.ownsRow B 5 1 v g.length (g.map bb)

/-- A slice that is full or the call's own, and holds the bytes g. -/
def Out (w : World) (B : Nat) (v : Value) (g : List UInt8) : Prop :=
  (∃ b off, v = .slice (some ⟨b, off, none⟩) g.length g.length ∧ ∀ j u, (g.map bb)[j]? = some u → w.cell? ((⟨b, off, none⟩ : Addr).add j) = some u) ∨ OwnB w B v g

theorem own_mono {w : World} {B B' : Nat} {e : TypeId} {size n : Nat} {v : Value} {xs : List Value} (h : w.ownsRow B e size v n xs) (hB : B' ≤ B) : w.ownsRow B' e size v n xs := by
  obtain ⟨h0, h1 | ⟨g, cap, cur, h1, h2, h3⟩⟩ := h
  · exact ⟨h0, .inl h1⟩
  · exact ⟨h0, .inr ⟨g, cap, cur, h1, by omega, h3⟩⟩

theorem bb_one (l : List UInt8) : ∀ u ∈ l.map bb, u.oneCell' = true := by
  intro u hu
  obtain ⟨b, _, rfl⟩ := List.mem_map.1 hu
  rfl

theorem wpList_push {ops : Array Oper} {rest : List Oper} {o : Oper} {a : Act} {w : World} {Q : Exit → Act → World → Prop} (hgd : o.guard = none) (s x : Operand)
    (ho : o.op = .call { callee := .builtin .append, args := #[s, x], argTypes := #[25, 25] })
    (B : Nat) (v : Value) (g : List UInt8) (hs : a.eval s = v) (hout : Out w B v g)
    (ad : Addr) (m c : Nat) (news : List UInt8) (hx : a.eval x = .slice (some ad) m c) (hl : news.length = m) (hnews : ∀ j u, (news.map bb)[j]? = some u → w.cell? (ad.add j) = some u)
    (hm : 1 ≤ m) (hlen : g.length + m ≤ 140737488355328) (hB : B ≤ w.heap.size) (W : World) (hnx : Below B W w)
    (h : ∀ v' w', OwnB w' B v' (g ++ news) → Below B W w' → wpList Tryz.prog ops Q rest (a.put o.dst v') w') : wpList Tryz.prog ops Q (o :: rest) a w := by
  obtain ⟨i0, hi, hz0, hz1, hz2⟩ := info_parts infoB
  subst hl
  rcases hout with ⟨b, off, rfl, hc⟩ | hown
  · refine wpList_append_grows w hgd s x 25 ho 5 i0 (.int .u8 0) 1 1 Tryz.underlying25 hi hz0 hz1 hz2 rfl (by decide) _ g.length g.length (g.map bb) hs (fun h => by cases h) (by simp) (fun b' hb' => by cases hb'; exact hc)
      ad news.length c (news.map bb) hx (by simp) hnews (bb_one _) (by omega) (by unfold maxLen; omega) (by omega) (fun v' w' h1 h2 => ?_)
    refine h v' w' ?_ (hnx.grown h2 hB (fun j hj => by cases hj))
    have := own_mono h1 hB
    unfold OwnB
    simpa using this
  · refine wpList_append_own w hgd s x 25 ho B 5 i0 (.int .u8 0) 1 1 Tryz.underlying25 hi hz0 hz1 hz2 rfl (by decide) v g.length (g.map bb) hs hown ad news.length c (news.map bb) hx (by simp) hnews (bb_one _) (by unfold maxLen; omega) (by omega) hB (fun v' w' h1 h2 _ => ?_)
    refine h v' w' ?_ (hnx.grown h2 hB (fun j hj => (World.ownsRow.lt hown j hj).1))
    unfold OwnB
    simpa using h1

theorem step_push {ops : Array Oper} {o : Oper} {a : Act} {w : World} {K : Act → World → Prop} {Q : Exit → Act → World → Prop} {E : Prop} (hgd : o.guard = none) (s x : Operand)
    (ho : o.op = .call { callee := .builtin .append, args := #[s, x], argTypes := #[25, 25] })
    (B : Nat) (v : Value) (g : List UInt8) (hs : a.eval s = v) (hout : Out w B v g)
    (ad : Addr) (m c : Nat) (news : List UInt8) (hx : a.eval x = .slice (some ad) m c) (hl : news.length = m) (hnews : ∀ j u, (news.map bb)[j]? = some u → w.cell? (ad.add j) = some u)
    (hm : 1 ≤ m) (hlen : g.length + m ≤ 140737488355328) (hB : B ≤ w.heap.size) (W : World) (hnx : Below B W w)
    (h : ∀ v' w', OwnB w' B v' (g ++ news) → Below B W w' → K (a.put o.dst v') w') :
    if Region.wanted o (yielded ops a.tmps) = true then Oper.wp Tryz.prog o a w K Q else E := by
  obtain ⟨i0, hi, hz0, hz1, hz2⟩ := info_parts infoB
  subst hl
  rcases hout with ⟨b, off, rfl, hc⟩ | hown
  · refine step_append_grows hgd s x 25 ho 5 i0 (.int .u8 0) 1 1 Tryz.underlying25 hi hz0 hz1 hz2 rfl (by decide) _ g.length g.length (g.map bb) hs (fun h => by cases h) (by simp) (fun b' hb' => by cases hb'; exact hc)
      ad news.length c (news.map bb) hx (by simp) hnews (bb_one _) (by omega) (by unfold maxLen; omega) (by omega) (fun v' w' h1 h2 => ?_)
    refine h v' w' ?_ (hnx.grown h2 hB (fun j hj => by cases hj))
    have := own_mono h1 hB
    unfold OwnB
    simpa using this
  · have hw : Region.wanted o (yielded ops a.tmps) = true := by simp [Region.wanted, hgd]
    rw [if_pos hw]
    refine wp_append_own w s x 25 ho B 5 i0 (.int .u8 0) 1 1 Tryz.underlying25 hi hz0 hz1 hz2 rfl (by decide) v g.length (g.map bb) hs hown ad news.length c (news.map bb) hx (by simp) hnews (bb_one _) (by unfold maxLen; omega) (by omega) hB (fun v' w' h1 h2 _ => ?_)
    refine h v' w' ?_ (hnx.grown h2 hB (fun j hj => (World.ownsRow.lt hown j hj).1))
    unfold OwnB
    simpa using h1

end Go.Proofs.YtpneioocmpagmaaGreatDoor.tx

