/- impl.plain, impl.DefUnmarshal at enums. -/
import Derived.Test.YtonfdfikgnhheaaGreatDoorEc
namespace Go.Proofs.YtonfdfikgnhheaaGreatDoor.enums
open Go.RowKit
set_option linter.unusedVariables false
set_option linter.unusedSimpArgs false

set_option maxHeartbeats 4000000 in
set_option maxRecDepth 100000 in
theorem plainE (n : Int) (h0 : -2147483648 ≤ n) (h1 : n ≤ 2147483647) (w : World) :
    Calls Tryz.prog 48 #[valE n, .int .i64 14] w fun e w' => e = .returned (inE n ⟨#[]⟩) ∧ Below w.heap.size w w' := by
  have hw : IntKind.i32.wrap (IntKind.u64.wrap n) = n := wrap_back h0 h1
  unfold valE inE
  go_enter Tryz.func48, Tryz.ntmps48
  go_wp2
  go_returns
  exact ⟨rfl, by go_grown⟩

set_option maxHeartbeats 4000000 in
set_option maxRecDepth 100000 in
theorem defUnmarshal (n : Int) (x : ByteArray × Int) (f : Int) (t : ByteArray) (es : List (ByteArray × Int)) (nv uv : Value) (h0 : -2147483648 ≤ n) (h1 : n ≤ 2147483647) (w : World)
    (EN : ∀ W, Below w.heap.size w W → Calls Tryz.prog 43 #[nv, uv] W fun e w' => ∃ v, e = .returned v ∧ MadeE W w' v es)
    (DU : ∀ W g c, Below w.heap.size w W → ERow W g es → Calls Tryz.prog 47 #[.string t, .int .i8 14, .iface 98 (.slice (some ⟨g, 0, none⟩) es.length c), .int .i64 f] W fun e w' => e = .returned (.tuple #[valE n, ifaceE x, .nilIface]) ∧ Below W.heap.size W w') :
    Calls Tryz.prog 25 #[.string t, .int .i64 14, .int .i64 f, nv, uv] w fun e w' => e = .returned (.tuple #[inE n x.1, .bool true]) ∧ Below w.heap.size w w' := by
  have HEN := Lib.hid EN
  have HDU := Lib.hid DU
  have HPL := Lib.hid (fun W => plainE n h0 h1 W)
  clear EN DU
  go_enter Tryz.func25, Tryz.ntmps25
  go_wp2_with fail
  refine (HEN.out _ (by go_grown)).mono ?_
  rintro e w2 ⟨v, rfl, g, c, rfl, hrow, hb2⟩
  have HG : w2.heap[w.heap.size]? = some (.cells #[.int .i64 0, .bool false, .int .i64 0, .int .u64 0, .int .u64 0, .string ⟨#[]⟩, .string ⟨#[]⟩] 56 (0, 0)) := (after_box hb2).1
  have HZ := (after_box hb2).2.1
  have HB := (after_box hb2).2.2
  have HD2 := Lib.hid (HDU.out w2 g c HB hrow)
  clear hb2 hrow
  go_wp2_with fail
  refine HD2.out.mono ?_
  rintro e w3 ⟨rfl, hb3⟩
  have HG3 : w3.heap[w.heap.size]? = _ := (hb3.block _ HZ).trans HG
  have HB3 : Below w.heap.size w w3 := HB.trans (hb3.mono (Nat.le_of_lt HZ))
  have HZ3 : w.heap.size < w3.heap.size := by have := hb3.size; omega
  clear hb3 HG HB HZ
  unfold valE at HPL ⊢
  unfold ifaceE
  go_wp2_with fail
  refine (HPL.out _).mono ?_
  rintro e w4 ⟨rfl, hb4⟩
  obtain ⟨_, HZa, HBa⟩ := after_box hb4
  have HG4 : w4.heap[w.heap.size]? = _ := (HBa.block _ HZ3).trans HG3
  have HB4 : Below w.heap.size w w4 := HB3.trans (HBa.mono (Nat.le_of_lt HZ3))
  have HZ4 : w.heap.size < w4.heap.size := by omega
  clear HZa HBa
  clear hb4 HG3 HB3 HZ3
  unfold inE
  go_wp2_with (first | (go_at_call 270; go_in) | ((with_reducible refine store_blk ?_ 56 (.tmp 10) (.tmp 40) ?_ w.heap.size #[.int .i64 14, .bool false, .int .i64 n, .int .u64 0, .int .u64 0, .string ⟨#[]⟩, .string x.1] ?_ ?_ 56 #[.int .i64 0, .bool false, .int .i64 0, .int .u64 0, .int .u64 0, .string ⟨#[]⟩, .string ⟨#[]⟩] (alloc_old (alloc_old HG4)) 7 infoV ?_ ?_ ?_ w w.heap.size (Nat.le_refl _) ((HB4.alloc (Nat.le_of_lt HZ4) _).alloc (by simp; omega) _) ?_); rfl; rfl; rfl; rfl; rfl; rfl; rfl; (intro w5 hg5 hcs ho5 hs5 hb5); have c0 := hcs 0 _ rfl; have c1 := hcs 1 _ rfl; have c2 := hcs 2 _ rfl; have c3 := hcs 3 _ rfl; have c4 := hcs 4 _ rfl; have c5 := hcs 5 _ rfl; have c6 := hcs 6 _ rfl; clear hcs ho5; refine Hid.out ?_))
  refine Lib.hid ?_
  go_wp2
  refine bodyPost_ret (v := .tuple #[inE n x.1, .bool true]) (by simp [results, Tryz.results25, go_sem, c0, c1, c2, c3, c4, c5, c6, inE]) rfl ⟨rfl, hb5⟩

end Go.Proofs.YtonfdfikgnhheaaGreatDoor.enums
