/- parseString at a text with C's escapes: words for its loop. -/
import Derived.Test.YtdcgoaikfbbneaaGreatDoorUq
import Derived.Test.YtdcgoaikfbbneaaGreatDoorNum
namespace Go.Proofs.YtdcgoaikfbbneaaGreatDoor.une
open Go.RowKit
set_option linter.unusedVariables false
set_option linter.unusedSimpArgs false

/-- The text between its quotes. -/
def quoted (l : List UInt8) (j : Nat) : UInt8 := if j = 0 then 34 else if j = l.length + 1 then 34 else l.getD (j - 1) 0

theorem quoted_in {l : List UInt8} {k : Nat} (h : k < l.length) : quoted l (1 + k) = l.getD k 0 := by
  unfold quoted
  rw [if_neg (by omega), if_neg (by omega)]
  congr 1; omega

theorem quoted_end (l : List UInt8) : quoted l (1 + l.length) = 34 := by
  unfold quoted
  rw [if_neg (by omega), if_pos (by omega)]

/-- What has been gathered, in whatever world: the row's own bytes, as far as they were plain, or a slice of the call's own. -/
def OutR (w : World) (B B0 : Nat) (v : Value) (l g : List UInt8) : Prop := (v = .slice (some ⟨B0, 1, none⟩) g.length g.length ∧ g = l.take g.length ∧ g.length ≤ l.length) ∨ OwnB w B v g

/-- The row lies in its block. -/
def RowQ (w : World) (B0 : Nat) (l : List UInt8) : Prop := ∀ j, j < l.length + 2 → w.cell? ⟨B0, j, none⟩ = some (.int .u8 ((quoted l j).toNat : Int))

theorem RowQ.below {w w' : World} {B B0 : Nat} {l : List UInt8} (h : RowQ w B0 l) (hb : Below B w w') (hB : B0 < B) : RowQ w' B0 l :=
  fun j hj => (hb.cell (p := ⟨B0, j, none⟩) hB).trans (h j hj)

theorem RowQ.at_ {w : World} {B0 k : Nat} {l : List UInt8} (h : RowQ w B0 l) (hk : k < l.length) : w.cell? ⟨B0, 1 + k, none⟩ = some (.int .u8 ((l.getD k 0).toNat : Int)) := by
  rw [h (1 + k) (by omega), quoted_in hk]

theorem RowQ.end_ {w : World} {B0 : Nat} {l : List UInt8} (h : RowQ w B0 l) : w.cell? ⟨B0, 1 + l.length, none⟩ = some (.int .u8 34) := by
  rw [h (1 + l.length) (by omega), quoted_end]; rfl

theorem add_pos (b off j : Nat) : (⟨b, off, none⟩ : Addr).add j = ⟨b, off + j, none⟩ := by
  unfold Addr.add
  by_cases h : j = 0
  · subst h; simp
  · simp [h]

theorem OutR.cells {w : World} {B B0 : Nat} {v : Value} {l g : List UInt8} (h : OutR w B B0 v l g) (hr : RowQ w B0 l) : Out w B v g := by
  rcases h with ⟨rfl, hg, hl⟩ | h
  · refine .inl ⟨B0, 1, rfl, fun j u hu => ?_⟩
    rw [List.getElem?_map] at hu
    obtain ⟨x, hx, rfl⟩ := Option.map_eq_some_iff.1 hu
    have hj : j < g.length := (List.getElem?_eq_some_iff.1 hx).1
    rw [add_pos, hr.at_ (by omega)]
    rw [hg, List.getElem?_take, if_pos hj] at hx
    simp [bb, List.getD_eq_getElem?_getD, hx]
  · exact .inr h

/-- The gathered bytes as a string. -/
theorem out_string {w : World} {B : Nat} {v : Value} {g : List UInt8} (h : Out w B v g) : (convert 38 9 v).run Tryz.prog w = .ok (.string ⟨g.toArray⟩) w := by
  rcases h with ⟨b, off, rfl, hc⟩ | h
  · exact run_convert_bytes_back (P := Tryz.prog) w 38 9 5 ⟨b, off, none⟩ g.length g Tryz.underlying38 Tryz.underlying5 Tryz.underlying9 (fun j hj => hc j _ (by rw [List.getElem?_map, List.getElem?_eq_getElem hj]; rfl))
  · rcases h.2 with ⟨rfl, h0⟩ | ⟨gb, cap, cur, rfl, hh, hrest⟩
    · have : g = [] := by simpa using h0
      subst this
      rw [run_convert_bytes_string w 38 9 5 none 0 0 Tryz.underlying38 Tryz.underlying5 Tryz.underlying9]
      rfl
    · exact run_convert_bytes_back (P := Tryz.prog) w 38 9 5 ⟨gb, 0, none⟩ cap g Tryz.underlying38 Tryz.underlying5 Tryz.underlying9 (fun j hj => World.ownsRow.cells (g := gb) h rfl j _ (by rw [List.getElem?_map, List.getElem?_eq_getElem hj]; rfl))

theorem OutR.setCell {w : World} {B B0 : Nat} {v : Value} {l g : List UInt8} (h : OutR w B B0 v l g) {a : Addr} (ha : a.block < B) (u : Value) : OutR (w.setCell a u) B B0 v l g := by
  rcases h with h | h
  · exact .inl h
  · exact .inr (ownsRow_setCell_below h ha u)

theorem RowQ.setCell {w : World} {B0 : Nat} {l : List UInt8} (h : RowQ w B0 l) {a : Addr} (ha : a.block ≠ B0) (u : Value) : RowQ (w.setCell a u) B0 l :=
  fun j hj => (World.cell?_setCell_other w _ _ u (fun e => ha (by rw [e]))).trans (h j hj)

theorem Out.drew {w : World} {B : Nat} {v : Value} {g : List UInt8} (h : Out w B v g) : Out w.drew B v g := by
  rcases h with ⟨b, off, h1, h2⟩ | h
  · exact .inl ⟨b, off, h1, h2⟩
  · exact .inr h.drew

theorem Out.alloc {w : World} {B : Nat} {v : Value} {g : List UInt8} (h : Out w B v g) (hv : ∀ b off n c, v = .slice (some ⟨b, off, none⟩) n c → b < w.heap.size) (o : Obj) : Out (w.alloc o) B v g := by
  rcases h with ⟨b, off, h1, h2⟩ | h
  · refine .inl ⟨b, off, h1, fun j u hu => ?_⟩
    rw [add_pos]
    have := h2 j u hu
    rw [add_pos] at this
    rw [World.cell?_alloc_lt w o _ (hv _ _ _ _ h1)]
    exact this
  · exact .inr (h.alloc _)

theorem OutR.drew {w : World} {B B0 : Nat} {v : Value} {l g : List UInt8} (h : OutR w B B0 v l g) : OutR w.drew B B0 v l g := by
  rcases h with h | h
  · exact .inl h
  · exact .inr h.drew

theorem own_lt {w : World} {B : Nat} {v : Value} {g : List UInt8} (h : OwnB w B v g) {b off n c : Nat} (hv : v = .slice (some ⟨b, off, none⟩) n c) : b < w.heap.size := by
  subst hv
  exact (World.ownsRow.lt h b rfl).2

theorem OutR.lt {w : World} {B B0 : Nat} {v : Value} {l g : List UInt8} (h : OutR w B B0 v l g) (hB : B0 < w.heap.size) {b off n c : Nat} (hv : v = .slice (some ⟨b, off, none⟩) n c) : b < w.heap.size := by
  rcases h with ⟨h1, _⟩ | h
  · rw [h1] at hv
    cases hv
    exact hB
  · exact own_lt h hv

theorem slq {B a a' m m' c c' : Nat} (h1 : a = a') (h2 : m = m') (h3 : c = c') : Value.slice (some ⟨B, a, none⟩) m c = .slice (some ⟨B, a', none⟩) m' c' := by
  rw [h1, h2, h3]

/-- One byte in a block of its own. -/
theorem one_bb (w : World) (b : UInt8) (n : Int) (h : n = (b.toNat : Int)) (T : TypeId) : ∀ j u, ([b].map bb)[j]? = some u → (w.alloc (.cells #[.int .u8 n] T)).cell? ((⟨w.heap.size, 0, none⟩ : Addr).add j) = some u := by
  subst h
  intro j u hj
  match j, hj with
  | 0, hj => simp at hj; subst hj; simp [Addr.add, bb]

/-- The row's bytes from k on. -/
theorem RowQ.news {w : World} {B0 k n : Nat} {l : List UInt8} (h : RowQ w B0 l) (hk : k + n ≤ l.length) : ∀ j u, (((l.drop k).take n).map bb)[j]? = some u → w.cell? ((⟨B0, 1 + k, none⟩ : Addr).add j) = some u := by
  intro j u hu
  rw [List.getElem?_map] at hu
  obtain ⟨x, hx, rfl⟩ := Option.map_eq_some_iff.1 hu
  have hj : j < n := by
    have := (List.getElem?_eq_some_iff.1 hx).1
    simp at this; omega
  rw [add_pos, Nat.add_assoc, h.at_ (by omega)]
  rw [List.getElem?_take, if_pos hj, List.getElem?_drop] at hx
  simp [bb, List.getD_eq_getElem?_getD, hx]

theorem own_below {B : Nat} {e : TypeId} {k : Nat} {v : Value} {n : Nat} {xs : List Value} {w w' : World} (h : w.ownsRow B e k v n xs) (hb : Below w.heap.size w w') : w'.ownsRow B e k v n xs := by
  obtain ⟨h0, h1 | ⟨g, cap, cur, h1, h2, h3, h4⟩⟩ := h
  · exact ⟨h0, .inl h1⟩
  · exact ⟨h0, .inr ⟨g, cap, cur, h1, h2, (hb.block g (Array.getElem?_eq_some_iff.1 h3).1).trans h3, h4⟩⟩

theorem OutR.below {w w' : World} {B B0 : Nat} {v : Value} {l g : List UInt8} (h : OutR w B B0 v l g) (hb : Below w.heap.size w w') : OutR w' B B0 v l g := by
  rcases h with h | h
  · exact .inl h
  · exact .inr (own_below h hb)

open Go.Proofs.YtdcgoaikfbbneaaGreatDoor.num in
theorem pu_oct {D E F : UInt8} (hd : 48 ≤ D.toNat ∧ D.toNat ≤ 51) (he : 48 ≤ E.toNat ∧ E.toNat ≤ 55) (hf : 48 ≤ F.toNat ∧ F.toNat ≤ 55) :
    pu 8 (2 ^ 8 - 1) [D, E, F] = .ok ((D.toNat - 48) * 64 + (E.toNat - 48) * 8 + (F.toNat - 48)) false := by
  have dg : ∀ c : Nat, 48 ≤ c ∧ c ≤ 55 → dig c = some (c - 48) := fun c h => by
    unfold dig; rw [if_pos (by omega)]
  unfold pu
  rw [if_neg (by simp), if_neg (by omega)]
  simp only [puLoop, Bool.false_eq_true, and_false, if_false]
  rw [dg _ (by omega), dg _ he, dg _ hf]
  simp only []
  rw [if_neg (by omega), if_neg (by omega), if_neg (by omega), if_neg (by omega), if_neg (by omega), if_neg (by omega)]
  congr 1; omega

end Go.Proofs.YtdcgoaikfbbneaaGreatDoor.une
