/- What the text form's parseString stands on. -/
import Derived.Test.YtpneioocmpagmaaGreatDoorQb
import Derived.Test.YtpneioocmpagmaaGreatDoorQe
import Derived.Test.YtpneioocmpagmaaGreatDoorTc
import Derived.Test.YtpneioocmpagmaaGreatDoorPp
import Derived.Deep.RegionHeld3
import Derived.Laws.IdiomStrings
namespace Go.Proofs.YtpneioocmpagmaaGreatDoor.tx
open Go.RowKit
set_option linter.unusedVariables false
set_option linter.unusedSimpArgs false

/-- What is gathered: a piece of the text, or the call's own. -/
def OutR (w : World) (B b o : Nat) (v : Value) (m g : List UInt8) : Prop := (v = .slice (some ⟨b, o, none⟩) g.length g.length ∧ g = m.take g.length ∧ g.length ≤ m.length) ∨ OwnB w B v g

theorem OutR.cells {w : World} {B b o : Nat} {v : Value} {m g : List UInt8} (h : OutR w B b o v m g) (hr : RowM w b o m) : Out w B v g := by
  rcases h with ⟨rfl, hg, hl⟩ | h
  · refine .inl ⟨b, o, rfl, fun j u hu => ?_⟩
    rw [List.getElem?_map] at hu
    obtain ⟨x, hx, rfl⟩ := Option.map_eq_some_iff.1 hu
    have hj : j < g.length := (List.getElem?_eq_some_iff.1 hx).1
    rw [add_pos, hr j (by omega)]
    rw [hg, List.getElem?_take, if_pos hj] at hx
    simp [bb, List.getD_eq_getElem?_getD, hx]
  · exact .inr h

/-- The gathered bytes as a string. -/
theorem out_string {w : World} {B : Nat} {v : Value} {g : List UInt8} (h : Out w B v g) : (convert 25 9 v).run Tryz.prog w = .ok (.string ⟨g.toArray⟩) w := by
  rcases h with ⟨b, off, rfl, hc⟩ | h
  · exact run_convert_bytes_back (P := Tryz.prog) w 25 9 5 ⟨b, off, none⟩ g.length g Tryz.underlying25 Tryz.underlying5 Tryz.underlying9 (fun j hj => hc j _ (by rw [List.getElem?_map, List.getElem?_eq_getElem hj]; rfl))
  · rcases h.2 with ⟨rfl, h0⟩ | ⟨gb, cap, cur, rfl, hh, hrest⟩
    · have : g = [] := by simpa using h0
      subst this
      rw [run_convert_bytes_string w 25 9 5 none 0 0 Tryz.underlying25 Tryz.underlying5 Tryz.underlying9]
      rfl
    · exact run_convert_bytes_back (P := Tryz.prog) w 25 9 5 ⟨gb, 0, none⟩ cap g Tryz.underlying25 Tryz.underlying5 Tryz.underlying9 (fun j hj => World.ownsRow.cells (g := gb) h rfl j _ (by rw [List.getElem?_map, List.getElem?_eq_getElem hj]; rfl))

theorem Out.alloc {w : World} {B : Nat} {v : Value} {g : List UInt8} (h : Out w B v g) (hv : ∀ b off n c, v = .slice (some ⟨b, off, none⟩) n c → b < w.heap.size) (o : Obj) : Out (w.alloc o) B v g := by
  rcases h with ⟨b, off, h1, h2⟩ | h
  · refine .inl ⟨b, off, h1, fun j u hu => ?_⟩
    rw [add_pos]
    have := h2 j u hu
    rw [add_pos] at this
    rw [World.cell?_alloc_lt w o _ (hv _ _ _ _ h1)]
    exact this
  · exact .inr (h.alloc _)

theorem Out.drew {w : World} {B : Nat} {v : Value} {g : List UInt8} (h : Out w B v g) : Out w.drew B v g := by
  rcases h with ⟨b, off, h1, h2⟩ | h
  · exact .inl ⟨b, off, h1, h2⟩
  · exact .inr h.drew

theorem OutR.drew {w : World} {B b o : Nat} {v : Value} {m g : List UInt8} (h : OutR w B b o v m g) : OutR w.drew B b o v m g := by
  rcases h with h | h
  · exact .inl h
  · exact .inr h.drew

theorem own_lt {w : World} {B : Nat} {v : Value} {g : List UInt8} (h : OwnB w B v g) {b off n c : Nat} (hv : v = .slice (some ⟨b, off, none⟩) n c) : b < w.heap.size := by
  subst hv
  exact (World.ownsRow.lt h b rfl).2

theorem OutR.lt {w : World} {B b o : Nat} {v : Value} {m g : List UInt8} (h : OutR w B b o v m g) (hB : b < w.heap.size) {b' off n c : Nat} (hv : v = .slice (some ⟨b', off, none⟩) n c) : b' < w.heap.size := by
  rcases h with ⟨h1, _⟩ | h
  · rw [h1] at hv
    cases hv
    exact hB
  · exact own_lt h hv

theorem slq {B a a' m m' c c' : Nat} (h1 : a = a') (h2 : m = m') (h3 : c = c') : Value.slice (some ⟨B, a, none⟩) m c = .slice (some ⟨B, a', none⟩) m' c' := by
  rw [h1, h2, h3]

/-- The row's bytes from k on. -/
theorem RowM.news {w : World} {b o k n : Nat} {m : List UInt8} (h : RowM w b o m) (hk : k + n ≤ m.length) : ∀ j u, (((m.drop k).take n).map bb)[j]? = some u → w.cell? ((⟨b, o + k, none⟩ : Addr).add j) = some u := by
  intro j u hu
  rw [List.getElem?_map] at hu
  obtain ⟨x, hx, rfl⟩ := Option.map_eq_some_iff.1 hu
  have hj : j < n := by
    have := (List.getElem?_eq_some_iff.1 hx).1
    simp at this; omega
  rw [add_pos, Nat.add_assoc, h (k + j) (by omega)]
  rw [List.getElem?_take, if_pos hj, List.getElem?_drop] at hx
  simp [bb, List.getD_eq_getElem?_getD, hx]

theorem OutR.below {w w' : World} {B b o : Nat} {v : Value} {m g : List UInt8} (h : OutR w B b o v m g) (hb : Below w.heap.size w w') : OutR w' B b o v m g := by
  rcases h with h | h
  · exact .inl h
  · exact .inr (own_below h hb)

/-- utf8.DecodeRune at the row's rest. -/
theorem decode_row (w : World) (b o k n c : Nat) (m : List UInt8) (hr : RowM w b o m) (hn : m.length - k = n) (hk : k < m.length) (hT : Lib.Utf8Tabs 3 4 w) :
    Calls Tryz.prog 138 #[.slice (some ⟨b, o + k, none⟩) n c] w fun e w' => e = .returned (.tuple #[.int .i32 (Lib.decodeL (m.drop k)).1, .int .i64 (Lib.decodeL (m.drop k)).2]) ∧ Below w.heap.size w w' := by
  have hsz : (⟨(m.drop k).toArray⟩ : ByteArray).size = n := by show (m.drop k).toArray.size = n; rw [List.size_toArray, List.length_drop]; exact hn
  have hd : Lib.decodeGo (⟨(m.drop k).toArray⟩ : ByteArray) = Lib.decodeL (m.drop k) := by
    unfold Lib.decodeGo
    rw [tdecodeGo_list _ (by rw [hsz]; omega)]
  have := Tryz.utf8_DecodeRune ⟨(m.drop k).toArray⟩ b (o + k) c w hT (fun j hj => by
    rw [hsz] at hj
    rw [Nat.add_assoc, hr (k + j) (by omega), ← Lib.getD_get!']
    simp only []
    rw [getD_drop])
  rw [hsz, hd] at this
  exact this

theorem dec_low (m : List UInt8) (k x : Nat) (hx : (m.getD k 0).toNat = x) (h : x < 128) : Lib.decodeL (m.drop k) = (x, 1) := by
  subst hx
  rw [Lib.decodeL_N, getD_drop, Nat.add_zero]
  exact Lib.decodeN_ascii _ _ _ _ _ h

theorem conv_c1 (b : UInt8) (h0 : 128 ≤ b.toNat) (h1 : b.toNat < 160) (W : World) : (convert 21 9 (.int .i32 (b.toNat : Int))).run Tryz.prog W = .ok (.string ⟨#[194, b]⟩) W := by
  rw [run_convert_int_string W 21 9 .i32 (b.toNat : Int) (by rw [Tryz.underlying21]; rfl) Tryz.underlying9]
  have h : ∀ c : Fin 32, (Utf8.encode ((128 + c.1 : Nat) : Int)) = ⟨#[194, UInt8.ofNat (128 + c.1)]⟩ := by decide +kernel
  have := h ⟨b.toNat - 128, by omega⟩
  simp only [show 128 + (b.toNat - 128) = b.toNat from by omega] at this
  rw [this]
  simp

set_option maxHeartbeats 4000000 in
set_option maxRecDepth 100000 in
theorem surr_low (y : Nat) (h : y < 256) (w : World) : Calls Tryz.prog 166 #[.int .i32 (y : Int)] w fun e w' => e = .returned (.bool false) ∧ w = w' := by
  have t : ¬ (55296 : Int) ≤ (y : Int) := by omega
  go_enter Tryz.func166, Tryz.ntmps166
  go_wp2
  go_ret
  exact ⟨rfl, rfl⟩

open Go.Proofs.YtpneioocmpagmaaGreatDoor.num in
theorem dig_hex {x n : Nat} (h : HexD x n) : dig x = some n := by
  unfold HexD at h
  unfold dig
  rcases h with ⟨h1, h2⟩ | ⟨h1, h2, h3⟩
  · rw [if_pos (by omega)]; congr 1; omega
  · unfold low
    have hlo : x ||| 32 = x := by
      rcases (by omega : x = 97 ∨ x = 98 ∨ x = 99 ∨ x = 100 ∨ x = 101 ∨ x = 102) with e | e | e | e | e | e
      all_goals
        rw [e]
        decide
    rw [if_neg (by omega), hlo, if_pos (by omega)]
    congr 1; omega

open Go.Proofs.YtpneioocmpagmaaGreatDoor.num in
theorem pu_hex2 {b : Nat} (X Y : UInt8) (hb : b < 256) (hx : HexD X.toNat (b / 16)) (hy : HexD Y.toNat (b % 16)) : pu 16 (2 ^ 8 - 1) [X, Y] = .ok b false := by
  unfold pu
  rw [if_neg (by simp), if_neg (by omega)]
  simp only [puLoop, Bool.false_eq_true, and_false, if_false]
  rw [dig_hex hx, dig_hex hy]
  simp only []
  rw [if_neg (by omega), if_neg (by omega), if_neg (by omega), if_neg (by omega)]
  congr 1; omega

open Go.Proofs.YtpneioocmpagmaaGreatDoor.num in
theorem pu_hex4 {b : Nat} (X Y : UInt8) (hb : b < 256) (hx : HexD X.toNat (b / 16)) (hy : HexD Y.toNat (b % 16)) : pu 16 (2 ^ 32 - 1) [48, 48, X, Y] = .ok b false := by
  have d0 : dig (48 : UInt8).toNat = some 0 := by decide
  unfold pu
  rw [if_neg (by simp), if_neg (by omega)]
  simp only [puLoop, Bool.false_eq_true, and_false, if_false]
  rw [d0, dig_hex hx, dig_hex hy]
  simp only []
  rw [if_neg (by omega), if_neg (by omega), if_neg (by omega), if_neg (by omega), if_neg (by omega), if_neg (by omega), if_neg (by omega), if_neg (by omega)]
  congr 1; omega

theorem OutR.setCell {w : World} {B b o : Nat} {v : Value} {m g : List UInt8} (h : OutR w B b o v m g) {a : Addr} (ha : a.block < B) (u : Value) : OutR (w.setCell a u) B b o v m g := by
  rcases h with h | h
  · exact .inl h
  · exact .inr (ownsRow_setCell_below h ha u)

/-- An argument under another name. -/
theorem calls_arg {P : Program} {f : Nat} {p : Value} {W : World} {Q : Ending → World → Prop} {z : Int} (k : Nat) (hz : z = (k : Int)) (h : Calls P f #[p, .int .i64 (k : Int)] W Q) : Calls P f #[p, .int .i64 z] W Q := by
  subst hz; exact h

set_option maxHeartbeats 4000000 in
set_option maxRecDepth 1000000 in
theorem decode_ascii (b off m c : Nat) (x : Nat) (hx : x < 128) (hm : 0 < m) (w : World) (hc : w.cell? ⟨b, off, none⟩ = some (.int .u8 x)) :
    Calls Tryz.prog 138 #[.slice (some ⟨b, off, none⟩) m c] w fun e w' => e = .returned (.tuple #[.int .i32 x, .int .i64 1]) ∧ w = w' := by
  have hx' : (x : Int) < 128 := by omega
  have hm' : (0 : Int) < (m : Int) := by omega
  go_enter Tryz.func138, Tryz.ntmps138
  go_wp2_with fail
  refine wp_loop_rounds 1 ?_
  rw [rounds_succ]
  go_wp2_with fail
  go_ret2
  exact ⟨rfl, rfl⟩

def StopsB (m : List UInt8) (w : World) (e : Ending) (w' : World) : Prop := (∃ i : Nat, e = .returned (.int .i64 i) ∧ i ≤ m.length ∧ ∀ j, j < i → Ok (m.getD j 0).toNat) ∧ w = w'

set_option maxHeartbeats 4000000 in
set_option maxRecDepth 100000 in
theorem need_bytes (m : List UInt8) (b off cap n : Nat) (hn : n = m.length) (hmax : m.length ≤ 140737488355328) (w : World)
    (hc : ∀ j (hj : j < m.length), w.cell? ((⟨b, off, none⟩ : Addr).add j) = some (.int .u8 (m[j].toNat : Int))) :
    Calls Tryz.prog 164 #[.slice (some ⟨b, off, none⟩) n cap] w fun e w' => StopsB m w e w' := by
  subst hn
  have hcv := run_convert_bytes_back (P := Tryz.prog) w 25 9 5 ⟨b, off, none⟩ cap m Tryz.underlying25 Tryz.underlying5 Tryz.underlying9 hc
  clear hc
  obtain ⟨t, ht⟩ : ∃ t : ByteArray, t = ⟨m.toArray⟩ := ⟨_, rfl⟩
  rw [← ht] at hcv
  have N := une.need_escape t (by rw [ht]; simpa [ByteArray.size] using hmax) w
  have HN := Lib.hid N
  have HT := Lib.hid ht
  clear N ht
  go_enter Tryz.func164, Tryz.ntmps164
  go_wp2_with (first | (go_at_call 90; refine HN.out.mono ?_; rintro e w' ⟨⟨i, rfl, h1, h2⟩, rfl⟩; have H2 := Lib.hid (And.intro h1 h2); clear h1 h2) | go_in)
  go_ret
  refine ⟨⟨i, rfl, ?_, ?_⟩, rfl⟩
  · have := H2.out.1
    rw [HT.out] at this
    simpa [ByteArray.size] using this
  · have := H2.out.2
    rw [HT.out] at this
    simpa using this

/-- What the reader reads of the program's variables. -/
structure DecEnv (w : World) : Prop where
  tabs : Lib.Utf8Tabs 3 4 w
  errs : pu.Errs w

/-- What stands between rounds. -/
structure PRel (B : Nat) (w : World) (b o : Nat) (rest m ot : List UInt8) (k : Nat) (v : Value) (g : List UInt8) (wr : World) : Prop where
  out : OutR wr B b o v m g
  left : LeftT rest m ot k g
  glen : g.length ≤ k
  bel : Below B w wr

end Go.Proofs.YtpneioocmpagmaaGreatDoor.tx
