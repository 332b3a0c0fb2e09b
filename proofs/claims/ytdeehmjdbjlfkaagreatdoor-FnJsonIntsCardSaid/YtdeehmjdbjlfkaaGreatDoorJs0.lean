/- The JSON reader's parseString: words for its loop. -/
import Derived.Test.YtdeehmjdbjlfkaaGreatDoorJh
import Derived.Test.YtdeehmjdbjlfkaaGreatDoorPp
import Derived.Laws.IdiomStrings
import Derived.Deep.RegionHeld3
namespace Go.Proofs.YtdeehmjdbjlfkaaGreatDoor.js
open Go.RowKit
set_option linter.unusedVariables false
set_option linter.unusedSimpArgs false

/-- A row of bytes that is read, byte by byte. -/
def RowM (w : World) (b o : Nat) (m : List UInt8) : Prop := ∀ j, j < m.length → w.cell? ⟨b, o + j, none⟩ = some (.int .u8 ((m.getD j 0).toNat : Int))

theorem RowM.below {w w' : World} {B b o : Nat} {m : List UInt8} (h : RowM w b o m) (hb : Below B w w') (hB : b < B) : RowM w' b o m :=
  fun j hj => (hb.cell (p := ⟨b, o + j, none⟩) hB).trans (h j hj)

theorem add_pos (b off j : Nat) : (⟨b, off, none⟩ : Addr).add j = ⟨b, off + j, none⟩ := by
  unfold Addr.add
  by_cases h : j = 0
  · subst h; simp
  · simp [h]

/-- What has been gathered: the row's own bytes, as far as they were plain, or a slice of the call's own. -/
def OutR (w : World) (B b o : Nat) (v : Value) (m g : List UInt8) : Prop := (v = .slice (some ⟨b, o, none⟩) g.length g.length ∧ g = m.take g.length ∧ g.length ≤ m.length) ∨ OwnB w B v g

theorem OutR.cells {w : World} {B b o : Nat} {v : Value} {m g : List UInt8} (h : OutR w B b o v m g) (hr : RowM w b o m) : Out w B v g := by
  rcases h with ⟨rfl, hg, hl⟩ | h
  · refine .inl ⟨b, o, rfl, fun j u hu => ?_⟩
    rw [List.getElem?_map] at hu
    obtain ⟨x, hx, rfl⟩ := Option.map_eq_some_iff.1 hu
    have hj : j < g.length := (List.getElem?_eq_some_iff.1 hx).1
    rw [add_pos, hr j (by omega)]
    rw [hg, List.getElem?_take, if_pos hj] at hx
    simp [bb, List.getD_eq_getElem?_getD, hx]
  · exact .inr h

/-- The gathered bytes as a string. -/
theorem out_string {w : World} {B : Nat} {v : Value} {g : List UInt8} (h : Out w B v g) : (convert 29 9 v).run Tryz.prog w = .ok (.string ⟨g.toArray⟩) w := by
  rcases h with ⟨b, off, rfl, hc⟩ | h
  · exact run_convert_bytes_back (P := Tryz.prog) w 29 9 5 ⟨b, off, none⟩ g.length g Tryz.underlying29 Tryz.underlying5 Tryz.underlying9 (fun j hj => hc j _ (by rw [List.getElem?_map, List.getElem?_eq_getElem hj]; rfl))
  · rcases h.2 with ⟨rfl, h0⟩ | ⟨gb, cap, cur, rfl, hh, hrest⟩
    · have : g = [] := by simpa using h0
      subst this
      rw [run_convert_bytes_string w 29 9 5 none 0 0 Tryz.underlying29 Tryz.underlying5 Tryz.underlying9]
      rfl
    · exact run_convert_bytes_back (P := Tryz.prog) w 29 9 5 ⟨gb, 0, none⟩ cap g Tryz.underlying29 Tryz.underlying5 Tryz.underlying9 (fun j hj => World.ownsRow.cells (g := gb) h rfl j _ (by rw [List.getElem?_map, List.getElem?_eq_getElem hj]; rfl))

theorem Out.alloc {w : World} {B : Nat} {v : Value} {g : List UInt8} (h : Out w B v g) (hv : ∀ b off n c, v = .slice (some ⟨b, off, none⟩) n c → b < w.heap.size) (o : Obj) : Out (w.alloc o) B v g := by
  rcases h with ⟨b, off, h1, h2⟩ | h
  · refine .inl ⟨b, off, h1, fun j u hu => ?_⟩
    rw [add_pos]
    have := h2 j u hu
    rw [add_pos] at this
    rw [World.cell?_alloc_lt w o _ (hv _ _ _ _ h1)]
    exact this
  · exact .inr (h.alloc _)

theorem Out.drew {w : World} {B : Nat} {v : Value} {g : List UInt8} (h : Out w B v g) : Out w.drew B v g := by
  rcases h with ⟨b, off, h1, h2⟩ | h
  · exact .inl ⟨b, off, h1, h2⟩
  · exact .inr h.drew

theorem OutR.drew {w : World} {B b o : Nat} {v : Value} {m g : List UInt8} (h : OutR w B b o v m g) : OutR w.drew B b o v m g := by
  rcases h with h | h
  · exact .inl h
  · exact .inr h.drew

theorem own_lt {w : World} {B : Nat} {v : Value} {g : List UInt8} (h : OwnB w B v g) {b off n c : Nat} (hv : v = .slice (some ⟨b, off, none⟩) n c) : b < w.heap.size := by
  subst hv
  exact (World.ownsRow.lt h b rfl).2

theorem OutR.lt {w : World} {B b o : Nat} {v : Value} {m g : List UInt8} (h : OutR w B b o v m g) (hB : b < w.heap.size) {b' off n c : Nat} (hv : v = .slice (some ⟨b', off, none⟩) n c) : b' < w.heap.size := by
  rcases h with ⟨h1, _⟩ | h
  · rw [h1] at hv
    cases hv
    exact hB
  · exact own_lt h hv

theorem slq {B a a' m m' c c' : Nat} (h1 : a = a') (h2 : m = m') (h3 : c = c') : Value.slice (some ⟨B, a, none⟩) m c = .slice (some ⟨B, a', none⟩) m' c' := by
  rw [h1, h2, h3]

/-- The row's bytes from k on. -/
theorem RowM.news {w : World} {b o k n : Nat} {m : List UInt8} (h : RowM w b o m) (hk : k + n ≤ m.length) : ∀ j u, (((m.drop k).take n).map bb)[j]? = some u → w.cell? ((⟨b, o + k, none⟩ : Addr).add j) = some u := by
  intro j u hu
  rw [List.getElem?_map] at hu
  obtain ⟨x, hx, rfl⟩ := Option.map_eq_some_iff.1 hu
  have hj : j < n := by
    have := (List.getElem?_eq_some_iff.1 hx).1
    simp at this; omega
  rw [add_pos, Nat.add_assoc, h (k + j) (by omega)]
  rw [List.getElem?_take, if_pos hj, List.getElem?_drop] at hx
  simp [bb, List.getD_eq_getElem?_getD, hx]

theorem OutR.below {w w' : World} {B b o : Nat} {v : Value} {m g : List UInt8} (h : OutR w B b o v m g) (hb : Below w.heap.size w w') : OutR w' B b o v m g := by
  rcases h with h | h
  · exact .inl h
  · exact .inr (own_below h hb)

/-- utf8.DecodeRune at the row's rest. -/
theorem decode_row (w : World) (b o k n c : Nat) (m : List UInt8) (hr : RowM w b o m) (hn : m.length - k = n) (hk : k < m.length) (hT : Lib.Utf8Tabs 5 6 w) :
    Calls Tryz.prog 100 #[.slice (some ⟨b, o + k, none⟩) n c] w fun e w' => e = .returned (.tuple #[.int .i32 (Lib.decodeL (m.drop k)).1, .int .i64 (Lib.decodeL (m.drop k)).2]) ∧ Below w.heap.size w w' := by
  have hsz : (⟨(m.drop k).toArray⟩ : ByteArray).size = n := by show (m.drop k).toArray.size = n; rw [List.size_toArray, List.length_drop]; exact hn
  have hd : Lib.decodeGo (⟨(m.drop k).toArray⟩ : ByteArray) = Lib.decodeL (m.drop k) := by
    unfold Lib.decodeGo
    rw [decodeGo_list _ (by rw [hsz]; omega)]
  have := Tryz.utf8_DecodeRune ⟨(m.drop k).toArray⟩ b (o + k) c w hT (fun j hj => by
    rw [hsz] at hj
    rw [Nat.add_assoc, hr (k + j) (by omega), ← Lib.getD_get!']
    simp only []
    rw [getD_drop])
  rw [hsz, hd] at this
  exact this

open Go.Proofs.YtdeehmjdbjlfkaaGreatDoor.num in
theorem pu_hex {x y b : Nat} (h : HexP x y b) (X Y : UInt8) (hx : X.toNat = x) (hy : Y.toNat = y) : pu 16 (2 ^ 16 - 1) [48, 48, X, Y] = .ok b false := by
  unfold HexP at h
  have d0 : dig (48 : UInt8).toNat = some 0 := by decide
  have dx : dig X.toNat = some (b / 16) := by
    rw [hx]; unfold dig; rw [if_pos (by omega)]; congr 1; omega
  have dy : dig Y.toNat = some (b % 16) := by
    rw [hy]
    unfold dig low
    rcases h.2.2 with ⟨h1, h2⟩ | ⟨h1, h2⟩
    · rw [if_pos (by omega)]; congr 1; omega
    · have hlo : y ||| 32 = y := by
        rcases (by omega : y = 97 ∨ y = 98 ∨ y = 99 ∨ y = 100 ∨ y = 101 ∨ y = 102) with e | e | e | e | e | e
        all_goals
          rw [e]
          decide
      rw [if_neg (by omega), hlo, if_pos (by omega)]
      congr 1; omega
  unfold pu
  rw [if_neg (by simp), if_neg (by omega)]
  simp only [puLoop, Bool.false_eq_true, and_false, if_false]
  rw [d0, dx, dy]
  simp only []
  rw [if_neg (by omega), if_neg (by omega), if_neg (by omega), if_neg (by omega), if_neg (by omega), if_neg (by omega), if_neg (by omega), if_neg (by omega)]
  congr 1; omega

/-- What the reader reads of the program's variables. -/
structure DecEnv (w : World) : Prop where
  tabs : Lib.Utf8Tabs 5 6 w
  errs : pu.Errs w

structure PRel (B : Nat) (w : World) (b o : Nat) (rest m ot : List UInt8) (k : Nat) (v : Value) (g : List UInt8) (wr : World) : Prop where
  out : OutR wr B b o v m g
  left : Left rest m ot k g
  glen : g.length ≤ k
  bel : Below B w wr
  val : Lib.validD (m.drop k) = true

def lenV : Value → Nat
  | .slice _ n _ => n
  | _ => 0

end Go.Proofs.YtdeehmjdbjlfkaaGreatDoor.js
