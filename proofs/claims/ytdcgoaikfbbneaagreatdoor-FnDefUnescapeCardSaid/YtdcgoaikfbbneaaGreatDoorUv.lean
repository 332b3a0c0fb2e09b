/- UnmarshalString, unmarshalBytes and a bytes value, at a text with C's escapes. -/
import Derived.Test.YtdcgoaikfbbneaaGreatDoorUs
import Derived.Test.YtdcgoaikfbbneaaGreatDoorDw
namespace Go.Proofs.YtdcgoaikfbbneaaGreatDoor.une
open Go.RowKit
set_option linter.unusedVariables false
set_option linter.unusedSimpArgs false

/-- Bytes that lie at the head of a block. -/
def BytesAt (w : World) (g : Nat) (o : List UInt8) : Prop := g < w.heap.size ∧ ∀ j (hj : j < o.length), w.cell? ((⟨g, 0, none⟩ : Addr).add j) = some (.int .u8 (o[j].toNat : Int))

theorem BytesAt.below {w w' : World} {g : Nat} {o : List UInt8} (h : BytesAt w g o) (hb : Below w.heap.size w w') : BytesAt w' g o :=
  ⟨Nat.lt_of_lt_of_le h.1 hb.size, fun j hj => (hb.cell (by rw [add_pos]; exact h.1)).trans (h.2 j hj)⟩

theorem BytesAt.drew {w : World} {g : Nat} {o : List UInt8} (h : BytesAt w g o) : BytesAt w.drew g o := h

theorem BytesAt.alloc {w : World} {g : Nat} {o : List UInt8} (h : BytesAt w g o) (x : Obj) : BytesAt (w.alloc x) g o := h.below ((Below.refl _ _).alloc (Nat.le_refl _) _)

theorem BytesAt.new (w : World) (s : ByteArray) (cap : Nat) (E : TypeId) (fr : Nat × Nat) : BytesAt (w.alloc (.cells (bytesRow s cap) E fr)) w.heap.size s.data.toList := by
  refine ⟨by simp, fun j hj => ?_⟩
  rw [add_pos, Nat.zero_add]
  rw [cell_of_row (w.alloc _) w.heap.size j _ E fr (heap_alloc_new w _)]
  rw [bytesRow_at s cap j (by simpa using hj), Array.getElem_toList]

theorem BytesAt.at_ {w : World} {g : Nat} {o : List UInt8} (h : BytesAt w g o) (j : Nat) (hj : j < o.length) : w.cell? ⟨g, j, none⟩ = some (.int .u8 (o[j].toNat : Int)) := by
  have := h.2 j hj
  rwa [add_pos, Nat.zero_add] at this

theorem BytesAt.same {w w' : World} {g : Nat} {o : List UInt8} (h : BytesAt w g o) (hb : w'.heap[g]? = w.heap[g]?) (hs : w.heap.size ≤ w'.heap.size) : BytesAt w' g o :=
  ⟨Nat.lt_of_lt_of_le h.1 hs, fun j hj => (World.cell?_of_block (w := w) (by rw [add_pos]; exact hb)).trans (h.2 j hj)⟩

theorem quoted_list (l : List UInt8) (j : Nat) (hj : j < (34 :: (l ++ [34])).length) : (34 :: (l ++ [34]))[j] = quoted l j := by
  unfold quoted
  match j, hj with
  | 0, _ => simp
  | j + 1, hj =>
    have hj' : j < l.length + 1 := by simpa using hj
    rw [if_neg (by omega)]
    show (l ++ [34])[j]'(by simpa using hj') = _
    by_cases e : j = l.length
    · rw [if_pos (by omega)]
      subst e
      rw [List.getElem_append_right (Nat.le_refl _)]
      simp only [Nat.sub_self]
      rfl
    · rw [if_neg (by omega), List.getElem_append_left (by omega), List.getD_eq_getElem?_getD, Nat.add_sub_cancel, List.getElem?_eq_getElem (by omega)]
      rfl

set_option maxHeartbeats 4000000 in
set_option maxRecDepth 100000 in
theorem unmarshal_string (l o : List UInt8) (hcu : Cu l o) (hl : l.length ≤ 140737488355000) (q : ByteArray) (hq : q.data.toList = 34 :: (l ++ [34])) (w : World) (he : pu.Errs w) :
    Calls Tryz.prog 49 #[.string q] w fun e w' => e = .returned (.tuple #[.string ⟨o.toArray⟩, .nilIface]) ∧ Below w.heap.size w w' := by
  have hsz : q.size = l.length + 2 := by
    have := congrArg List.length hq
    simp only [Array.length_toList, List.length_cons, List.length_append, List.length_nil] at this
    show q.data.size = _
    omega
  obtain ⟨cap, hcap⟩ : ∃ cap, cap = grownCap w q.size 0 5 := ⟨_, rfl⟩
  have CV := run_bytes_of_string (P := Tryz.prog) w 9 38 5 q Tryz.underlying9 Tryz.underlying38 Tryz.underlying5
  have hge := grownCap_ge w q.size 0 5
  have hle := grownCap_le_maxLen w q.size 0 5 (by unfold maxLen; omega)
  rw [← hcap] at CV hge hle
  unfold maxLen at hle
  have HSZ := Lib.hid hsz
  have HQ := Lib.hid hq
  clear hq hcap
  go_enter Tryz.func49, Tryz.ntmps49
  go_wp2_with (go_at_call 60; go_in)
  refine (parse_string l o hcu (w.heap.size + 1) w.heap.size cap (by omega) hle hl _ ?_ ?_ ?_ ?_ ?_ ?_).mono ?_
  · simp
  · omega
  · go_simp
  · go_simp
  · intro j hj
    have hj2 : j < q.data.toList.length := by rw [HQ.out]; simpa using hj
    refine (BytesAt.at_ (((BytesAt.new w q cap _ _).alloc _).drew) j hj2).trans ?_
    rw [List.getElem_of_eq HQ.out hj2, quoted_list]
  · exact (he.below ((Below.refl _ _).alloc (Nat.le_refl _) _)).below ((Below.refl _ _).alloc (Nat.le_refl _) _).drew
  rintro e w' ⟨rfl, hb⟩
  have HB := Lib.hid hb
  clear hb
  go_wp2_with fail
  go_ret2
  exact ⟨rfl, (((Below.refl _ _).alloc (Nat.le_refl _) _).alloc (by simp) _).drew.trans (HB.out.mono (by omega))⟩

set_option maxHeartbeats 4000000 in
set_option maxRecDepth 100000 in
theorem unmarshal_bytes (l o : List UInt8) (hcu : Cu l o) (hl : l.length ≤ 140737488350000) (hol : o.length ≤ 140737488350000) (s : ByteArray) (hs : s.data.toList = l) (w : World) (he : pu.Errs w) :
    Calls Tryz.prog 30 #[.string s] w fun e w' => (∃ g c, e = .returned (.tuple #[.slice (some ⟨g, 0, none⟩) o.length c, .bool true]) ∧ o.length ≤ c ∧ c ≤ 9223372036854775807 ∧ w.heap.size ≤ g ∧ BytesAt w' g o) ∧ Below w.heap.size w w' := by
  have CV := fun W => run_bytes_of_string (P := Tryz.prog) W 9 38 5 ⟨o.toArray⟩ Tryz.underlying9 Tryz.underlying38 Tryz.underlying5
  have US := fun q hq => unmarshal_string l o hcu (by omega) q hq w he
  have HUS := Lib.hid US
  have HCV := Lib.hid CV
  have HS := Lib.hid hs
  clear US CV hcu hs
  have hs47 : s.size ≤ 140737488350000 := by
    have := congrArg List.length HS.out
    simp only [Array.length_toList] at this
    show s.data.size ≤ _
    omega
  go_enter Tryz.func30, Tryz.ntmps30
  go_wp2_with fail
  refine (HUS.out _ (by simp [HS.out])).mono ?_
  rintro e w1 ⟨rfl, hb⟩
  have HB := Lib.hid hb
  clear hb
  have cv := HCV.out w1
  obtain ⟨cap, hcap⟩ : ∃ cap, cap = grownCap w1 (ByteArray.mk o.toArray).size 0 5 := ⟨_, rfl⟩
  have hge := grownCap_ge w1 (ByteArray.mk o.toArray).size 0 5
  have hle := grownCap_le_maxLen w1 (ByteArray.mk o.toArray).size 0 5 (by unfold maxLen; simp [ByteArray.size]; omega)
  rw [← hcap] at cv hge hle
  have HCP := Lib.hid (And.intro hge hle)
  clear hcap hge hle
  go_wp2_with fail
  go_ret2
  refine ⟨⟨w1.heap.size, cap, ?_, by simpa [ByteArray.size] using HCP.out.1, HCP.out.2, HB.out.size, ?_⟩, ?_⟩
  · rfl
  · exact (BytesAt.new w1 ⟨o.toArray⟩ cap _ _).drew
  · exact (HB.out.alloc HB.out.size _).drew

def valB (a : Option Addr) (n : Nat) : Value := .agg #[.int .i64 9, .int .u64 0, .string ⟨#[]⟩, .slice a n n]

set_option maxHeartbeats 4000000 in
set_option maxRecDepth 100000 in
theorem value_bytes (g n c : Nat) (hc : n ≤ c) (hc2 : c ≤ 9223372036854775807) (w : World) :
    Calls Tryz.prog 31 #[.slice (some ⟨g, 0, none⟩) n c] w fun e w' => e = .returned (valB (some ⟨g, 0, none⟩) n) ∧ Below w.heap.size w w' := by
  have b1 : (0 : Int) ≤ (n : Int) := by omega
  have b2 : (n : Int) ≤ (c : Int) := by omega
  unfold valB
  go_enter Tryz.func31, Tryz.ntmps31
  go_wp2
  go_returns
  exact ⟨rfl, by go_grown⟩

set_option maxHeartbeats 4000000 in
set_option maxRecDepth 100000 in
theorem plainB (g : Nat) (o : List UInt8) (w : World) (hb : BytesAt w g o) :
    Calls Tryz.prog 12 #[valB (some ⟨g, 0, none⟩) o.length, .int .i64 12] w fun e w' => e = .returned (.agg #[.int .i64 12, .bool false, .int .i64 0, .int .u64 0, .int .u64 0, .string ⟨o.toArray⟩, .string ⟨#[]⟩]) ∧ Below w.heap.size w w' := by
  unfold valB
  have CV := fun (W : World) (hW : Below w.heap.size w W) => run_convert_bytes_back (P := Tryz.prog) W 38 9 5 ⟨g, 0, none⟩ o.length o Tryz.underlying38 Tryz.underlying5 Tryz.underlying9 (hb.below hW).2
  have cv := fun (o1 o2 o3 o4 o5 : Obj) => CV (((((w.alloc o1).alloc o2).alloc o3).alloc o4).alloc o5) (by go_grown)
  clear CV
  go_enter Tryz.func12, Tryz.ntmps12
  go_wp2
  go_returns
  exact ⟨rfl, by go_grown⟩

end Go.Proofs.YtdcgoaikfbbneaaGreatDoor.une
