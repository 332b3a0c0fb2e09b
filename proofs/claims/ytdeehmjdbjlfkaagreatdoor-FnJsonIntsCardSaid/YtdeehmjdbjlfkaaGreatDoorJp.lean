/- Bytes appended to a slice that is full, or the call's own. -/
import Derived.Test.YtdeehmjdbjlfkaaGreatDoorJb
import Derived.Lib.AppendStr
import Derived.StillTailTactics
import Derived.ArgAppend
import Derived.Deep.RegionLaw
import Derived.Deep.RegionLawGrows
namespace Go.Proofs.YtdeehmjdbjlfkaaGreatDoor.js
open Go.RowKit
set_option linter.unusedVariables false
set_option linter.unusedSimpArgs false

theorem infoB : (Tryz.prog.info? 5).map (fun i => (i.zero, i.size, i.bytes)) = some (some (.int .u8 0), 1, 1) := by kernel_rfl

def bb (b : UInt8) : Value := .int .u8 (b.toNat : Int)

/-- A slice of the call's own that holds the bytes g. -/
def OwnB (w : World) (B : Nat) (v : Value) (g : List UInt8) : Prop := w.ownsRow B 5 1 v g.length (g.map bb)

/-- A slice that is full or the call's own, and holds the bytes g. -/
def Out (w : World) (B : Nat) (v : Value) (g : List UInt8) : Prop :=
  (∃ b off, v = .slice (some ⟨b, off, none⟩) g.length g.length ∧ ∀ j u, (g.map bb)[j]? = some u → w.cell? ((⟨b, off, none⟩ : Addr).add j) = some u) ∨ OwnB w B v g

theorem own_mono {w : World} {B B' : Nat} {e : TypeId} {size n : Nat} {v : Value} {xs : List Value} (h : w.ownsRow B e size v n xs) (hB : B' ≤ B) : w.ownsRow B' e size v n xs := by
  obtain ⟨h0, h1 | ⟨g, cap, cur, h1, h2, h3⟩⟩ := h
  · exact ⟨h0, .inl h1⟩
  · exact ⟨h0, .inr ⟨g, cap, cur, h1, by omega, h3⟩⟩

theorem bb_one (l : List UInt8) : ∀ u ∈ l.map bb, u.oneCell' = true := by
  intro u hu
  obtain ⟨b, _, rfl⟩ := List.mem_map.1 hu
  rfl

theorem wpList_push {ops : Array Oper} {rest : List Oper} {o : Oper} {a : Act} {w : World} {Q : Exit → Act → World → Prop} (hgd : o.guard = none) (s x : Operand)
    (ho : o.op = .call { callee := .builtin .append, args := #[s, x], argTypes := #[29, 29] })
    (B : Nat) (v : Value) (g : List UInt8) (hs : a.eval s = v) (hout : Out w B v g)
    (ad : Addr) (m c : Nat) (news : List UInt8) (hx : a.eval x = .slice (some ad) m c) (hl : news.length = m) (hnews : ∀ j u, (news.map bb)[j]? = some u → w.cell? (ad.add j) = some u)
    (hm : 1 ≤ m) (hlen : g.length + m ≤ 140737488355328) (hB : B ≤ w.heap.size) (W : World) (hnx : Below B W w)
    (h : ∀ v' w', OwnB w' B v' (g ++ news) → Below B W w' → wpList Tryz.prog ops Q rest (a.put o.dst v') w') : wpList Tryz.prog ops Q (o :: rest) a w := by
  obtain ⟨i0, hi, hz0, hz1, hz2⟩ := info_parts infoB
  subst hl
  rcases hout with ⟨b, off, rfl, hc⟩ | hown
  · refine wpList_append_grows w hgd s x 29 ho 5 i0 (.int .u8 0) 1 1 Tryz.underlying29 hi hz0 hz1 hz2 rfl (by decide) _ g.length g.length (g.map bb) hs (fun h => by cases h) (by simp) (fun b' hb' => by cases hb'; exact hc)
      ad news.length c (news.map bb) hx (by simp) hnews (bb_one _) (by omega) (by unfold maxLen; omega) (by omega) (fun v' w' h1 h2 => ?_)
    refine h v' w' ?_ (hnx.grown h2 hB (fun j hj => by cases hj))
    have := own_mono h1 hB
    unfold OwnB
    simpa using this
  · refine wpList_append_own w hgd s x 29 ho B 5 i0 (.int .u8 0) 1 1 Tryz.underlying29 hi hz0 hz1 hz2 rfl (by decide) v g.length (g.map bb) hs hown ad news.length c (news.map bb) hx (by simp) hnews (bb_one _) (by unfold maxLen; omega) (by omega) hB (fun v' w' h1 h2 _ => ?_)
    refine h v' w' ?_ (hnx.grown h2 hB (fun j hj => (World.ownsRow.lt hown j hj).1))
    unfold OwnB
    simpa using h1

theorem step_push {ops : Array Oper} {o : Oper} {a : Act} {w : World} {K : Act → World → Prop} {Q : Exit → Act → World → Prop} {E : Prop} (hgd : o.guard = none) (s x : Operand)
    (ho : o.op = .call { callee := .builtin .append, args := #[s, x], argTypes := #[29, 29] })
    (B : Nat) (v : Value) (g : List UInt8) (hs : a.eval s = v) (hout : Out w B v g)
    (ad : Addr) (m c : Nat) (news : List UInt8) (hx : a.eval x = .slice (some ad) m c) (hl : news.length = m) (hnews : ∀ j u, (news.map bb)[j]? = some u → w.cell? (ad.add j) = some u)
    (hm : 1 ≤ m) (hlen : g.length + m ≤ 140737488355328) (hB : B ≤ w.heap.size) (W : World) (hnx : Below B W w)
    (h : ∀ v' w', OwnB w' B v' (g ++ news) → Below B W w' → K (a.put o.dst v') w') :
    if Region.wanted o (yielded ops a.tmps) = true then Oper.wp Tryz.prog o a w K Q else E := by
  obtain ⟨i0, hi, hz0, hz1, hz2⟩ := info_parts infoB
  subst hl
  rcases hout with ⟨b, off, rfl, hc⟩ | hown
  · refine step_append_grows hgd s x 29 ho 5 i0 (.int .u8 0) 1 1 Tryz.underlying29 hi hz0 hz1 hz2 rfl (by decide) _ g.length g.length (g.map bb) hs (fun h => by cases h) (by simp) (fun b' hb' => by cases hb'; exact hc)
      ad news.length c (news.map bb) hx (by simp) hnews (bb_one _) (by omega) (by unfold maxLen; omega) (by omega) (fun v' w' h1 h2 => ?_)
    refine h v' w' ?_ (hnx.grown h2 hB (fun j hj => by cases hj))
    have := own_mono h1 hB
    unfold OwnB
    simpa using this
  · have hw : Region.wanted o (yielded ops a.tmps) = true := by simp [Region.wanted, hgd]
    rw [if_pos hw]
    refine wp_append_own w s x 29 ho B 5 i0 (.int .u8 0) 1 1 Tryz.underlying29 hi hz0 hz1 hz2 rfl (by decide) v g.length (g.map bb) hs hown ad news.length c (news.map bb) hx (by simp) hnews (bb_one _) (by unfold maxLen; omega) (by omega) hB (fun v' w' h1 h2 _ => ?_)
    refine h v' w' ?_ (hnx.grown h2 hB (fun j hj => (World.ownsRow.lt hown j hj).1))
    unfold OwnB
    simpa using h1

theorem strCells_bb (t : ByteArray) : Lib.strCells t = t.data.toList.map bb := rfl

theorem wpList_push_str {ops : Array Oper} {rest : List Oper} {o : Oper} {a : Act} {w : World} {Q : Exit → Act → World → Prop} (hgd : o.guard = none) (s x : Operand)
    (ho : o.op = .call { callee := .builtin .append, args := #[s, x], argTypes := #[29, 9] })
    (B : Nat) (v : Value) (g : List UInt8) (hs : a.eval s = v) (hown : OwnB w B v g) (t : ByteArray) (hx : a.eval x = .string t)
    (hlen : g.length + t.size ≤ 140737488355328) (hB : B ≤ w.heap.size) (W : World) (hnx : Below B W w)
    (h : ∀ v' w', OwnB w' B v' (g ++ t.data.toList) → Below B W w' → wpList Tryz.prog ops Q rest (a.put o.dst v') w') : wpList Tryz.prog ops Q (o :: rest) a w := by
  obtain ⟨i0, hi, hz0, hz1, hz2⟩ := info_parts infoB
  refine Lib.wpList_append_own_string w hgd s x 29 9 ho B 5 i0 Tryz.underlying29 Tryz.underlying9 hi hz0 hz1 hz2 v g.length (g.map bb) hs hown t hx (by unfold maxLen; omega) (by omega) hB (fun v' w' h1 h2 _ => ?_)
  refine h v' w' ?_ (hnx.grown h2 hB (fun j hj => (World.ownsRow.lt hown j hj).1))
  unfold OwnB
  rw [size_list, strCells_bb] at h1
  simpa using h1

theorem step_push_str {ops : Array Oper} {o : Oper} {a : Act} {w : World} {K : Act → World → Prop} {Q : Exit → Act → World → Prop} {E : Prop} (hgd : o.guard = none) (s x : Operand)
    (ho : o.op = .call { callee := .builtin .append, args := #[s, x], argTypes := #[29, 9] })
    (B : Nat) (v : Value) (g : List UInt8) (hs : a.eval s = v) (hown : OwnB w B v g) (t : ByteArray) (hx : a.eval x = .string t)
    (hlen : g.length + t.size ≤ 140737488355328) (hB : B ≤ w.heap.size) (W : World) (hnx : Below B W w)
    (h : ∀ v' w', OwnB w' B v' (g ++ t.data.toList) → Below B W w' → K (a.put o.dst v') w') :
    if Region.wanted o (yielded ops a.tmps) = true then Oper.wp Tryz.prog o a w K Q else E := by
  obtain ⟨i0, hi, hz0, hz1, hz2⟩ := info_parts infoB
  have hw : Region.wanted o (yielded ops a.tmps) = true := by simp [Region.wanted, hgd]
  rw [if_pos hw]
  obtain ⟨v', w', hr, h1, h2, _⟩ := Lib.run_append_own_string (P := Tryz.prog) w B 29 9 o.type 5 i0 Tryz.underlying29 Tryz.underlying9 hi hz0 hz1 hz2 v g.length (g.map bb) hown t (by unfold maxLen; omega) (by omega) hB
  unfold Oper.wp execOp
  simp only [ho, resolve, invoke, builtin, Sem.run_bind, Sem.run_pure, Result.andThen_ok, List.map_toArray, List.map_cons, List.map_nil, hs, hx, hr]
  refine h v' w' ?_ (hnx.grown h2 hB (fun j hj => (World.ownsRow.lt hown j hj).1))
  unfold OwnB
  rw [size_list, strCells_bb] at h1
  simpa using h1

theorem own_below {B : Nat} {e : TypeId} {k : Nat} {v : Value} {n : Nat} {xs : List Value} {w w' : World} (h : w.ownsRow B e k v n xs) (hb : Below w.heap.size w w') : w'.ownsRow B e k v n xs := by
  obtain ⟨h0, h1 | ⟨g, cap, cur, h1, h2, h3, h4⟩⟩ := h
  · exact ⟨h0, .inl h1⟩
  · exact ⟨h0, .inr ⟨g, cap, cur, h1, h2, (hb.block g (Array.getElem?_eq_some_iff.1 h3).1).trans h3, h4⟩⟩

theorem one_bb (w : World) (b : UInt8) (n : Int) (h : n = (b.toNat : Int)) (T : TypeId) : ∀ j u, ([b].map bb)[j]? = some u → (w.alloc (.cells #[.int .u8 n] T)).cell? ((⟨w.heap.size, 0, none⟩ : Addr).add j) = some u := by
  subst h
  intro j u hj
  match j, hj with
  | 0, hj => simp at hj; subst hj; simp [Addr.add, bb]

theorem nb_eq (n : Int) (h0 : 0 ≤ n) (h1 : n < 256) : n = ((UInt8.ofNat n.toNat).toNat : Int) := by rw [UInt8.toNat_ofNat']; omega

theorem one_nb (w : World) (n : Int) (h0 : 0 ≤ n) (h1 : n < 256) (T : TypeId) : ∀ j u, ([UInt8.ofNat n.toNat].map bb)[j]? = some u → (w.alloc (.cells #[.int .u8 n] T)).cell? ((⟨w.heap.size, 0, none⟩ : Addr).add j) = some u :=
  one_bb w _ n (nb_eq n h0 h1) T

theorem extract_list (s : ByteArray) (a b : Nat) : (s.extract a b).data.toList = (s.data.toList.drop a).take (b - a) := by
  rw [ByteArray.data_extract, Array.toList_extract, List.extract_eq_take_drop]
theorem extract_head (s : ByteArray) (b : Nat) : (s.extract 0 b).data.toList = s.data.toList.take b := by
  rw [extract_list]; simp only [List.drop_zero, Nat.sub_zero]
theorem extract_tail (s : ByteArray) (a : Nat) : (s.extract a s.size).data.toList = s.data.toList.drop a := by
  rw [extract_list, List.take_of_length_le]
  rw [List.length_drop, Array.length_toList]; exact Nat.le_refl _

theorem bdn {B : Nat} {a w : World} (h : Below B a w) (n : Nat) : Below B a (w.drewN n) := ⟨h.os, h.tape, h.output, h.size, h.block⟩

/-- A string's bytes appended to a slice that is full. -/
theorem push_full_str {w : World} {b off : Nat} {g : List UInt8} (hc : ∀ j u, (g.map bb)[j]? = some u → w.cell? ((⟨b, off, none⟩ : Addr).add j) = some u) (t : ByteArray) (h1 : 1 ≤ t.size)
    (hlen : g.length + t.size ≤ 140737488355328) (B : Nat) (hB : B ≤ w.heap.size) (ty : TypeId) :
    ∃ v' w', (Builtin.append_ #[29, 9] ty #[.slice (some ⟨b, off, none⟩) g.length g.length, .string t]).run Tryz.prog w = .ok v' w' ∧ OwnB w' B v' (g ++ t.data.toList) ∧ w.grownBy w' none := by
  obtain ⟨i0, hi, hz0, hz1, hz2⟩ := info_parts infoB
  have hr := Lib.run_append_grow_string (P := Tryz.prog) w 29 9 ty 5 i0 (.int .u8 0) Tryz.underlying29 Tryz.underlying9 hi hz0 ⟨b, off, none⟩ g.length g.length (g.map bb) (by rw [hz1]; simp) hc t (by omega) (by omega)
    (by rw [hz2]; exact growslice_fits (by omega) (by omega))
  have hl : (Lib.strCells t).length = t.size := Lib.strCells_length t
  have hz : t.size = t.data.toList.length := size_list t
  refine ⟨.slice (some ⟨w.heap.size, 0, none⟩) (g.length + t.size) (grownCap w (g.length + t.size) g.length 5), _, hr, ?_, ⟨rfl, rfl, rfl, by simp, fun k hk _ => Go.heap_alloc_old w.drew _ hk⟩⟩
  have e : (g ++ t.data.toList).length = g.length + t.size := by rw [List.length_append, hz]
  have hge := grownCap_ge w (g.length + t.size) g.length 5
  unfold OwnB
  rw [e]
  refine ⟨by rw [List.length_map, e, Nat.mul_one], .inr ⟨w.heap.size, _, _, rfl, hB, heap_alloc_new w.drew _, hge, grownCap_le_maxLen w (g.length + t.size) g.length 5 (by unfold maxLen; omega), ?_, ?_⟩⟩
  · have hz1' : (Value.int IntKind.u8 0).cells.size = 1 := rfl
    simp only [Array.size_append, List.size_toArray, size_zeroCells, hz1', List.length_map, hl]
    omega
  · simp only [Array.toList_append, List.append_assoc]
    rw [← List.append_assoc]
    have e3 : g.map bb ++ Lib.strCells t = (g ++ t.data.toList).map bb := by rw [strCells_bb, List.map_append]
    rw [e3]
    have e2 : (g.length + t.size) * 1 = ((g ++ t.data.toList).map bb).length := by rw [List.length_map, e, Nat.mul_one]
    rw [e2]
    exact List.take_left

theorem wpList_pushO_str {ops : Array Oper} {rest : List Oper} {o : Oper} {a : Act} {w : World} {Q : Exit → Act → World → Prop} (hgd : o.guard = none) (s x : Operand)
    (ho : o.op = .call { callee := .builtin .append, args := #[s, x], argTypes := #[29, 9] })
    (B : Nat) (v : Value) (g : List UInt8) (hs : a.eval s = v) (hout : Out w B v g) (t : ByteArray) (hx : a.eval x = .string t) (h1 : 1 ≤ t.size)
    (hlen : g.length + t.size ≤ 140737488355328) (hB : B ≤ w.heap.size) (W : World) (hnx : Below B W w)
    (h : ∀ v' w', OwnB w' B v' (g ++ t.data.toList) → Below B W w' → wpList Tryz.prog ops Q rest (a.put o.dst v') w') : wpList Tryz.prog ops Q (o :: rest) a w := by
  rcases hout with ⟨b, off, rfl, hc⟩ | hown
  · refine wpList_plain hgd fun K hK => ?_
    obtain ⟨v', w', hr, h2, h3⟩ := push_full_str hc t h1 hlen B hB o.type
    unfold Oper.wp execOp
    simp only [ho, resolve, invoke, builtin, Sem.run_bind, Sem.run_pure, Result.andThen_ok, List.map_toArray, List.map_cons, List.map_nil, hs, hx, hr]
    exact hK _ _ (h v' w' h2 (hnx.grown h3 hB (fun j hj => by cases hj)))
  · exact wpList_push_str hgd s x ho B v g hs hown t hx hlen hB W hnx h

end Go.Proofs.YtdeehmjdbjlfkaaGreatDoor.js
