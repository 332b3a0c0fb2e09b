/- impl.DefUnmarshal at truths. -/
import Derived.Test.YtgdncaalacajpaaGreatDoorBw
import Derived.Deep.DeepCutAuto
namespace Go.Proofs.YtgdncaalacajpaaGreatDoor.bools
open Go.RowKit
set_option linter.unusedVariables false
set_option linter.unusedSimpArgs false

set_option maxHeartbeats 4000000 in
set_option maxRecDepth 100000 in
theorem unmarshal_no (s : ByteArray) (tag : Bool) (h0 : s ≠ txt tag false) (h1 : s ≠ txt tag true) (w : World) :
    Calls Tryz.prog 7 #[.string s, .int .i64 8, .int .i64 (formOf tag), .slice none 0 0, .slice none 0 0] w
      fun e w' => e = .returned (.tuple #[.agg #[.int .i64 0, .bool false, .int .i64 0, .int .u64 0, .int .u64 0, .string ⟨#[]⟩, .string ⟨#[]⟩], .bool false]) ∧ Below w.heap.size w w' := by
  go_enter Tryz.func7, Tryz.ntmps7
  go_wp2_with (first | (go_at_call 11; refine (enum_nil _).mono ?_; rintro e w' ⟨rfl, rfl⟩) | (go_at_call 15; refine (dunmarshal_no s tag h0 h1 _).mono ?_; rintro e w2 ⟨⟨a, rfl⟩, hb2⟩; obtain ⟨HG, HZ, HB⟩ := after_box hb2; clear hb2; refine Hid.out ?_))
  refine Lib.hid ?_
  go_wp2_with (first | ((with_reducible refine store_blk ?_ 26 (.tmp 10) (.tmp 31) ?_ w.heap.size #[.int .i64 0, .bool false, .int .i64 0, .int .u64 0, .int .u64 0, .string ⟨#[]⟩, .string ⟨#[]⟩] ?_ ?_ 26 #[.int .i64 0, .bool false, .int .i64 0, .int .u64 0, .int .u64 0, .string ⟨#[]⟩, .string ⟨#[]⟩] (alloc_old HG) 7 infoV ?_ ?_ ?_ w w.heap.size (Nat.le_refl _) (HB.alloc (Nat.le_of_lt HZ) _) ?_); rfl; rfl; rfl; rfl; rfl; rfl; rfl; (intro w5 hg5 hcs ho5 hs5 hb5); have c0 := hcs 0 _ rfl; have c1 := hcs 1 _ rfl; have c2 := hcs 2 _ rfl; have c3 := hcs 3 _ rfl; have c4 := hcs 4 _ rfl; have c5 := hcs 5 _ rfl; have c6 := hcs 6 _ rfl; clear hcs ho5; refine Hid.out ?_))
  refine Lib.hid ?_
  go_wp2
  refine bodyPost_ret (v := .tuple #[.agg #[.int .i64 0, .bool false, .int .i64 0, .int .u64 0, .int .u64 0, .string ⟨#[]⟩, .string ⟨#[]⟩], .bool false]) (by simp [results, Tryz.results7, go_sem, c0, c1, c2, c3, c4, c5, c6]) rfl ⟨rfl, hb5⟩

set_option maxHeartbeats 4000000 in
set_option maxRecDepth 100000 in
theorem unmarshal_yes (b tag : Bool) (w : World) :
    Calls Tryz.prog 7 #[.string (txt tag b), .int .i64 8, .int .i64 (formOf tag), .slice none 0 0, .slice none 0 0] w
      fun e w' => e = .returned (.tuple #[outVal b, .bool true]) ∧ Below w.heap.size w w' := by
  obtain ⟨n, hbv⟩ : ∃ n, bval b = .agg #[.int .i64 1, .int .u64 n, .string ⟨#[]⟩, .slice none 0 0] := ⟨_, rfl⟩
  have P := plain_any b
  have D := dunmarshal_yes b tag
  rw [hbv] at P D
  have HP := Lib.hid P
  have HD := Lib.hid D
  clear P D hbv
  unfold outVal at HP ⊢
  go_enter Tryz.func7, Tryz.ntmps7
  go_wp2_with (first | (go_at_call 11; refine (enum_nil _).mono ?_; rintro e w' ⟨rfl, rfl⟩) | (go_at_call 15; refine (HD.out _).mono ?_; rintro e w2 ⟨rfl, hb2⟩; obtain ⟨HG, HZ, HB⟩ := after_box hb2; clear hb2; refine Hid.out ?_))
  refine Lib.hid ?_
  go_wp2_with (first | (go_at_call 16; refine (HP.out _).mono ?_; rintro e w3 ⟨rfl, hb3⟩; obtain ⟨HG3, HZ3, HB3⟩ := after_box hb3; clear hb3; refine Hid.out ?_))
  have HGx : w3.heap[w.heap.size]? = some (.cells #[.int .i64 0, .bool false, .int .i64 0, .int .u64 0, .int .u64 0, .string ⟨#[]⟩, .string ⟨#[]⟩] 26 (0, 0)) := (HB3.block _ HZ).trans HG
  have HZx : w.heap.size < w3.heap.size := by omega
  have HBx : Below w.heap.size w w3 := HB.trans (HB3.mono (Nat.le_of_lt HZ))
  clear HG HB HG3 HB3 HZ3
  refine Lib.hid ?_
  go_wp2_with (first | ((with_reducible refine store_blk ?_ 26 (.tmp 10) (.tmp 40) ?_ w.heap.size #[.int .i64 8, .bool b, .int .i64 0, .int .u64 0, .int .u64 0, .string ⟨#[]⟩, .string ⟨#[]⟩] ?_ ?_ 26 #[.int .i64 0, .bool false, .int .i64 0, .int .u64 0, .int .u64 0, .string ⟨#[]⟩, .string ⟨#[]⟩] (alloc_old HGx) 7 infoV ?_ ?_ ?_ w w.heap.size (Nat.le_refl _) (HBx.alloc (Nat.le_of_lt HZx) _) ?_); rfl; rfl; rfl; rfl; rfl; rfl; rfl; (intro w5 hg5 hcs ho5 hs5 hb5); have c0 := hcs 0 _ rfl; have c1 := hcs 1 _ rfl; have c2 := hcs 2 _ rfl; have c3 := hcs 3 _ rfl; have c4 := hcs 4 _ rfl; have c5 := hcs 5 _ rfl; have c6 := hcs 6 _ rfl; clear hcs ho5; refine Hid.out ?_))
  refine Lib.hid ?_
  go_wp2
  refine bodyPost_ret (v := .tuple #[.agg #[.int .i64 8, .bool b, .int .i64 0, .int .u64 0, .int .u64 0, .string ⟨#[]⟩, .string ⟨#[]⟩], .bool true]) (by simp [results, Tryz.results7, go_sem, c0, c1, c2, c3, c4, c5, c6]) rfl ⟨rfl, hb5⟩

end Go.Proofs.YtgdncaalacajpaaGreatDoor.bools
