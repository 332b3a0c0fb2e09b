/- indexNeedEscapeInBytes; consume at the input's end. -/
import Derived.Test.YtdcgoaikfbbneaaGreatDoorUp
import Derived.Laws.IdiomStrings
namespace Go.Proofs.YtdcgoaikfbbneaaGreatDoor.une
open Go.RowKit
set_option linter.unusedVariables false
set_option linter.unusedSimpArgs false

def StopsB (m : List UInt8) (w : World) (e : Ending) (w' : World) : Prop := (∃ i : Nat, e = .returned (.int .i64 i) ∧ i ≤ m.length ∧ ∀ j, j < i → Ok (m.getD j 0).toNat) ∧ w = w'

set_option maxHeartbeats 4000000 in
set_option maxRecDepth 100000 in
theorem need_bytes (m : List UInt8) (b off cap n : Nat) (hn : n = m.length) (hmax : m.length ≤ 140737488355328) (w : World)
    (hc : ∀ j (hj : j < m.length), w.cell? ((⟨b, off, none⟩ : Addr).add j) = some (.int .u8 (m[j].toNat : Int))) :
    Calls Tryz.prog 67 #[.slice (some ⟨b, off, none⟩) n cap] w fun e w' => StopsB m w e w' := by
  subst hn
  have hcv := run_convert_bytes_back (P := Tryz.prog) w 38 9 5 ⟨b, off, none⟩ cap m Tryz.underlying38 Tryz.underlying5 Tryz.underlying9 hc
  clear hc
  obtain ⟨t, ht⟩ : ∃ t : ByteArray, t = ⟨m.toArray⟩ := ⟨_, rfl⟩
  rw [← ht] at hcv
  have N := need_escape t (by rw [ht]; simpa [ByteArray.size] using hmax) w
  have HN := Lib.hid N
  have HT := Lib.hid ht
  clear N ht
  go_enter Tryz.func67, Tryz.ntmps67
  go_wp2_with (first | (go_at_call 88; refine HN.out.mono ?_; rintro e w' ⟨⟨i, rfl, h1, h2⟩, rfl⟩; have H2 := Lib.hid (And.intro h1 h2); clear h1 h2) | go_in)
  go_ret
  refine ⟨⟨i, rfl, ?_, ?_⟩, rfl⟩
  · have := H2.out.1
    rw [HT.out] at this
    simpa [ByteArray.size] using this
  · have := H2.out.2
    rw [HT.out] at this
    simpa using this

set_option maxHeartbeats 4000000 in
set_option maxRecDepth 100000 in
theorem consume_end (b off cap n : Nat) (w : World) (hn : (n : Int) ≤ cap) (hcap : (cap : Int) ≤ 9223372036854775807) :
    Calls Tryz.prog 91 #[.slice (some ⟨b, off, none⟩) n cap, .int .i64 n] w fun e w' => (∃ ao c, e = .returned (.slice ao 0 c)) ∧ w = w' := by
  go_enter Tryz.func91, Tryz.ntmps91
  go_wp2_with fail
  all_goals
    refine wp_loop_rounds 1 ?_
    rw [rounds_succ]
    go_wp2_with fail
    go_ret
    exact ⟨⟨_, _, rfl⟩, rfl⟩

set_option maxHeartbeats 4000000 in
set_option maxRecDepth 100000 in
theorem dconsume_end (P1 b off cap n : Nat) (w : World) (hn : (n : Int) ≤ cap) (hcap : (cap : Int) ≤ 9223372036854775807)
    (hc : w.cell? ⟨P1, 10, none⟩ = some (.slice (some ⟨b, off, none⟩) n cap)) (hf : w.frozen? ⟨P1, 10, none⟩ = false) :
    Calls Tryz.prog 70 #[.pointer (some ⟨P1, 0, none⟩), .int .i64 n] w fun e w' => e = .returned (.tuple #[]) ∧ ∃ v, w' = w.setCell ⟨P1, 10, none⟩ v := by
  go_enter Tryz.func70, Tryz.ntmps70
  go_wp2_with (first | (go_at_call 91; refine (consume_end _ _ _ _ _ hn hcap).mono ?_; rintro e w' ⟨⟨ao, c, rfl⟩, rfl⟩) | go_in)
  go_returns
  exact ⟨rfl, _, rfl⟩

end Go.Proofs.YtdcgoaikfbbneaaGreatDoor.une
