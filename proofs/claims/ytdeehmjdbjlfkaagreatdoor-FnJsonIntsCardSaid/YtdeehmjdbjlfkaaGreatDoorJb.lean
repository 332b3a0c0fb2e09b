/- json.indexNeedEscapeInString, indexNeedEscapeInBytes. -/
import Derived.Test.YtdeehmjdbjlfkaaGreatDoorJa
import Derived.Test.YtdeehmjdbjlfkaaGreatDoorProg
import Derived.WalkKit
import Derived.WalkSpells
import Derived.WalkLawsBesides
import Derived.Below
import Derived.OwnWalk
import Derived.Handy
import Derived.Lib.Hide
import Derived.Laws.RangeString
import Derived.Laws.RangeAny
import Derived.Laws.IdiomStrings
import Derived.LoopTactic
import Derived.Lib.OthersKept
import Derived.StillTailTactics
namespace Go.Proofs.YtdeehmjdbjlfkaaGreatDoor.js
open Go.RowKit
set_option linter.unusedVariables false
set_option linter.unusedSimpArgs false

def Stops (l : List UInt8) (i : Nat) : Prop := i ≤ l.length ∧ (∀ j, j < i → Pl (l.getD j 0).toNat) ∧ Lib.validD l = Lib.validD (l.drop i)

theorem stops_zero (l : List UInt8) : Stops l 0 := ⟨by omega, fun j hj => by omega, by simp⟩

theorem stops_step {l : List UInt8} {k : Nat} (h : Stops l k) (hk : k < l.length) (h0 : 32 ≤ (Lib.decodeL (l.drop k)).1) (h1 : (Lib.decodeL (l.drop k)).1 ≠ 34) (h2 : (Lib.decodeL (l.drop k)).1 ≠ 92)
    (h3 : (Lib.decodeL (l.drop k)).1 ≠ 65533) : Stops l (k + (Lib.decodeL (l.drop k)).2) := by
  obtain ⟨ha, hb, hc⟩ := h
  have hlen : (l.drop k).length = l.length - k := by simp
  have hg : ¬ ((Lib.decodeL (l.drop k)).1 = 65533 ∧ (Lib.decodeL (l.drop k)).2 = 1) := fun h => h3 h.1
  have hw := width_le (l.drop k) (by omega)
  have hp := (rune_plain (l.drop k) hg (rune_bytes _ hg h0 h1 h2)).1
  have hv := valid_step (l.drop k) (by omega) hg
  refine ⟨by omega, fun j hj => ?_, by rw [hc, hv, List.drop_drop]⟩
  rcases Nat.lt_or_ge j k with h | h
  · exact hb j h
  · have := hp (j - k) (by omega)
    rw [getD_drop, show k + (j - k) = j from by omega] at this
    exact this

theorem size_list (t : ByteArray) : t.size = t.data.toList.length := by rw [Array.length_toList]; rfl

set_option maxHeartbeats 4000000 in
set_option maxRecDepth 100000 in
theorem need_escape (t : ByteArray) (hmax : t.size ≤ 140737488355328) (w : World) :
    Calls Tryz.prog 88 #[.string t] w fun e w' => (∃ i : Nat, e = .returned (.int .i64 i) ∧ Stops t.data.toList i) ∧ Below w.heap.size w w' := by
  have HB := Lib.hid (fun pos => (Below.refl w.heap.size w).alloc (Nat.le_refl _) (.stringIter t pos))
  go_enter Tryz.func88, Tryz.ntmps88
  go_wp2_with fail
  go_loopw [] (fun w' => ∃ pos : Nat, w' = w.iter t pos ∧ Stops t.data.toList pos) (fun w' => t.size - w'.iterPos w.heap.size)
  case atStart => exact ⟨0, rfl, stops_zero _⟩
  case round =>
    obtain ⟨k, rfl, hst⟩ := hrel
    have HST := Lib.hid hst
    clear hst
    by_cases hk : k < t.size
    · have hnx : ∀ ty, (Instr.next (.pointer (some ⟨w.heap.size, 0, none⟩)) true ty).run Tryz.prog (w.iter t k) = _ := fun ty => run_next_any w t k ty hk
      rw [decode_at_list] at hnx
      have hw := width_le (t.data.toList.drop k) (by have := size_list t; rw [List.length_drop]; omega)
      have HSS := Lib.hid (stops_step HST.out (by have := size_list t; omega))
      obtain ⟨r, n, hr⟩ : ∃ r n, Lib.decodeL (t.data.toList.drop k) = (r, n) := ⟨_, _, rfl⟩
      rw [hr] at hnx hw HSS
      have HR := Lib.hid hr
      clear hr
      simp only at hw HSS
      have hc : (r : Int) < 32 ∨ ((¬ (r : Int) < 32) ∧ ((r : Int) == 92) = true) ∨ ((¬ (r : Int) < 32) ∧ ((r : Int) == 92) = false ∧ ((r : Int) == 34) = true) ∨
          ((¬ (r : Int) < 32) ∧ ((r : Int) == 92) = false ∧ ((r : Int) == 34) = false ∧ ((r : Int) == 65533) = true) ∨
          ((¬ (r : Int) < 32) ∧ ((r : Int) == 92) = false ∧ ((r : Int) == 34) = false ∧ ((r : Int) == 65533) = false) := by
        simp only [beq_iff_eq, beq_eq_false_iff_ne]
        omega
      rcases hc with h0 | ⟨h0, h1⟩ | ⟨h0, h1, h2⟩ | ⟨h0, h1, h2, h3⟩ | ⟨h0, h1, h2, h3⟩
      rotate_right
      · go_wp2_with fail
        simp only [beq_eq_false_iff_ne] at h1 h2 h3
        refine ⟨⟨k + n, rfl, HSS.out (by omega) (by omega) (by omega) (by omega)⟩, ?_⟩
        rw [World.iterPos_iter, World.iterPos_iter]
        omega
      all_goals
        go_wp2_with fail
        go_ret
        exact ⟨⟨k, rfl, HST.out⟩, HB.out _⟩
    · have hnx : ∀ ty, (Instr.next (.pointer (some ⟨w.heap.size, 0, none⟩)) true ty).run Tryz.prog (w.iter t k) = _ := fun ty => run_next_end w t k ty hk
      go_wp2_with fail
      go_ret
      obtain rfl : k = t.size := by have := HST.out.1; have := size_list t; omega
      exact ⟨⟨_, rfl, HST.out⟩, HB.out _⟩

set_option maxHeartbeats 4000000 in
set_option maxRecDepth 100000 in
theorem need_bytes (m : List UInt8) (b off cap n : Nat) (hn : n = m.length) (hmax : m.length ≤ 140737488355328) (w : World)
    (hc : ∀ j (hj : j < m.length), w.cell? ((⟨b, off, none⟩ : Addr).add j) = some (.int .u8 (m[j].toNat : Int))) :
    Calls Tryz.prog 99 #[.slice (some ⟨b, off, none⟩) n cap] w fun e w' => (∃ i : Nat, e = .returned (.int .i64 i) ∧ Stops m i) ∧ Below w.heap.size w w' := by
  subst hn
  have hcv := run_convert_bytes_back (P := Tryz.prog) w 29 9 5 ⟨b, off, none⟩ cap m Tryz.underlying29 Tryz.underlying5 Tryz.underlying9 hc
  clear hc
  obtain ⟨t, ht⟩ : ∃ t : ByteArray, t = ⟨m.toArray⟩ := ⟨_, rfl⟩
  rw [← ht] at hcv
  have N := need_escape t (by rw [ht]; simpa [ByteArray.size] using hmax) w
  have HN := Lib.hid N
  have HT := Lib.hid ht
  clear N ht
  go_enter Tryz.func99, Tryz.ntmps99
  go_wp2_with (first | (go_at_call 88; refine HN.out.mono ?_; rintro e w' ⟨⟨i, rfl, h1⟩, hb⟩; have H2 := Lib.hid (And.intro h1 hb); clear h1 hb) | go_in)
  go_ret
  refine ⟨⟨i, rfl, ?_⟩, H2.out.2⟩
  have := H2.out.1
  rw [HT.out] at this
  exact this

end Go.Proofs.YtdeehmjdbjlfkaaGreatDoor.js
