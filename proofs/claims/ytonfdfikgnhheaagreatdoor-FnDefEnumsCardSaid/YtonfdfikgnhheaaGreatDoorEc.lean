/- defval.Unmarshal, impl.plain, impl.DefUnmarshal at enums. -/
import Derived.Test.YtonfdfikgnhheaaGreatDoorEb
import Derived.Test.YtonfdfikgnhheaaGreatDoorPp
namespace Go.Proofs.YtonfdfikgnhheaaGreatDoor.enums
open Go.RowKit
set_option linter.unusedVariables false
set_option linter.unusedSimpArgs false

/-- A whole row stored into a block of the call's own; what lay below stands. -/
theorem store_blk {P : Program} {ops : Array Oper} {rest : List Oper} {o : Oper} {a : Act} {w : World} {Q : Exit → Act → World → Prop} (hgd : o.guard = none) (ty : TypeId) (x y : Operand) (ho : o.op = .store ty x y)
    (g : Nat) (cells : Array Value) (hx : a.eval x = .pointer (some ⟨g, 0, none⟩)) (hy : a.eval y = .agg cells)
    (t : TypeId) (old : Array Value) (hg : w.heap[g]? = some (.cells old t (0, 0))) (n : Nat) (hi : (P.info? ty).map (·.size) = some n) (hn : cells.size = n) (ho' : old.size = n) (h1 : cells.toList.all (·.oneCell') = true)
    (W : World) (B : Nat) (hB : B ≤ g) (hw : Below B W w)
    (h : ∀ w', w'.heap[g]? = some (.cells cells t (0, 0)) → (∀ (j : Nat) (v : Value), cells[j]? = some v → w'.cell? ⟨g, j, none⟩ = some v) → (∀ k, k ≠ g → w'.heap[k]? = w.heap[k]?) → w'.heap.size = w.heap.size → Below B W w' → wpList P ops Q rest (a.put o.dst undef) w') :
    wpList P ops Q (o :: rest) a w := by
  refine wpList_store_row hgd ty x y ho g cells hx hy t old hg (by rw [hi, hn]) (by omega) (by simpa using h1) (h _ (setRow_heap w g old cells t (0, 0) hg) (fun j v hj => ?_) (fun k hk => setRow_other w g k cells hk) (by simp [World.setRow]) ?_)
  · rw [cell_setRow_same w g j old cells t (0, 0) hg]; exact hj
  · exact hw.trans ⟨rfl, rfl, rfl, by simp [World.setRow], fun k hk => setRow_other _ _ _ _ (by omega)⟩

theorem infoV : (Tryz.prog.info? 56).map (·.size) = some 7 := by kernel_rfl
theorem infoP : (Tryz.prog.info? 108).map (·.size) = some 4 := by kernel_rfl

set_option maxHeartbeats 4000000 in
set_option maxRecDepth 100000 in
theorem dunE_name (es : List (ByteArray × Int)) (g c : Nat) (x : ByteArray × Int) (h0 : -2147483648 ≤ x.2) (h1 : x.2 ≤ 2147483647) (w : World) (hr : ERow w g es)
    (BN : ∀ W, ERow W g es → Calls Tryz.prog 268 #[.slice (some ⟨g, 0, none⟩) es.length c, .string x.1] W fun e w' => e = .returned (ifaceE x) ∧ Below W.heap.size W w') :
    Calls Tryz.prog 47 #[.string x.1, .int .i8 14, .iface 98 (.slice (some ⟨g, 0, none⟩) es.length c), .int .i64 1] w
      fun e w' => e = .returned (.tuple #[valE x.2, ifaceE x, .nilIface]) ∧ Below w.heap.size w w' := by
  have HBN := Lib.hid (fun o => BN (w.alloc o) (hr.below ((Below.refl _ _).alloc (Nat.le_refl _) _)))
  clear BN hr
  obtain ⟨xs, xn⟩ := x
  go_enter Tryz.func47, Tryz.ntmps47
  go_wp2_with fail
  refine (HBN.out _).mono ?_
  rintro e w1 ⟨rfl, hb1⟩
  have HG : w1.heap[w.heap.size]? = some (.cells #[.int .i64 0, .int .u64 0, .string ⟨#[]⟩, .slice none 0 0] 108 (0, 0)) := (after_box hb1).1
  have HZ := (after_box hb1).2.1
  have HB := (after_box hb1).2.2
  clear hb1
  unfold ifaceE
  go_wp2_with (first | (go_at_call 271; go_in) | (go_at_call 90; go_in) | ((with_reducible refine store_blk ?_ 108 (.tmp 8) (.tmp 74) ?_ w.heap.size #[.int .i64 10, .int .u64 (IntKind.u64.wrap xn), .string ⟨#[]⟩, .slice none 0 0] ?_ ?_ 108 #[.int .i64 0, .int .u64 0, .string ⟨#[]⟩, .slice none 0 0] (alloc_old (alloc_old HG)) 4 infoP ?_ ?_ ?_ w w.heap.size (Nat.le_refl _) ((HB.alloc (Nat.le_of_lt HZ) _).alloc (by simp; omega) _) ?_); rfl; rfl; rfl; rfl; rfl; rfl; rfl; (intro w5 hg5 hcs ho5 hs5 hb5); have c0 := hcs 0 _ rfl; have c1 := hcs 1 _ rfl; have c2 := hcs 2 _ rfl; have c3 := hcs 3 _ rfl; clear hcs ho5; refine Hid.out ?_))
  refine Lib.hid ?_
  go_wp2
  refine bodyPost_ret (v := .tuple #[valE xn, ifaceE (xs, xn), .nilIface]) (by simp [results, Tryz.results47, go_sem, c0, c1, c2, c3, valE, ifaceE]) rfl ⟨rfl, hb5⟩

set_option maxHeartbeats 4000000 in
set_option maxRecDepth 100000 in
theorem dunE_tag (es : List (ByteArray × Int)) (g c : Nat) (x : ByteArray × Int) (h0 : -2147483648 ≤ x.2) (h1 : x.2 ≤ 2147483647) (w : World) (hr : ERow w g es)
    (t : ByteArray) (ht : num.pi 10 (2 ^ 32 - 1) (2 ^ (32 - 1)) t.data.toList = some (x.2, false)) (hmax : t.size ≤ 140737488355328) (he : pu.Errs w)
    (BN : ∀ W, ERow W g es → Calls Tryz.prog 44 #[.slice (some ⟨g, 0, none⟩) es.length c, .int .i32 x.2] W fun e w' => e = .returned (ifaceE x) ∧ Below W.heap.size W w') :
    Calls Tryz.prog 47 #[.string t, .int .i8 14, .iface 98 (.slice (some ⟨g, 0, none⟩) es.length c), .int .i64 2] w
      fun e w' => e = .returned (.tuple #[valE x.2, ifaceE x, .nilIface]) ∧ Below w.heap.size w w' := by
  have HBN := Lib.hid (fun W (hW : Below w.heap.size w W) => BN W (hr.below hW))
  have HPA := Lib.hid (fun o => pu.parseInt t 10 32 (.inr (by omega)) (by omega) (by omega) hmax (w.alloc o) (he.below ((Below.refl _ _).alloc (Nat.le_refl _) _)))
  have HT := Lib.hid ht
  have hw32 : IntKind.i32.wrap x.2 = x.2 := by rw [IntKind.wrap_i32]; omega
  clear BN hr ht he
  obtain ⟨xs, xn⟩ := x
  go_enter Tryz.func47, Tryz.ntmps47
  go_wp2_with fail
  refine (HPA.out _).mono ?_
  rintro e w0 ⟨he, hb0⟩
  rw [HT.out] at he
  rcases he with rfl | ⟨he, _⟩
  rotate_left
  · cases he
  have HG0 : w0.heap[w.heap.size]? = some (.cells #[.int .i64 0, .int .u64 0, .string ⟨#[]⟩, .slice none 0 0] 108 (0, 0)) := (after_box hb0).1
  have HZ0 := (after_box hb0).2.1
  have HB0 := (after_box hb0).2.2
  clear hb0
  unfold pu.tupI
  go_wp2_with fail
  refine (HBN.out _ HB0).mono ?_
  rintro e w1 ⟨rfl, hb1⟩
  have HG : w1.heap[w.heap.size]? = some (.cells #[.int .i64 0, .int .u64 0, .string ⟨#[]⟩, .slice none 0 0] 108 (0, 0)) := (hb1.block _ HZ0).trans HG0
  have HZ : w.heap.size < w1.heap.size := by have := hb1.size; omega
  have HB : Below w.heap.size w w1 := HB0.trans (hb1.mono (Nat.le_of_lt HZ0))
  clear hb1 HG0 HB0 HZ0
  unfold ifaceE
  go_wp2_with (first | (go_at_call 271; go_in) | (go_at_call 90; go_in) | ((with_reducible refine store_blk ?_ 108 (.tmp 8) (.tmp 65) ?_ w.heap.size #[.int .i64 10, .int .u64 (IntKind.u64.wrap xn), .string ⟨#[]⟩, .slice none 0 0] ?_ ?_ 108 #[.int .i64 0, .int .u64 0, .string ⟨#[]⟩, .slice none 0 0] (alloc_old (alloc_old HG)) 4 infoP ?_ ?_ ?_ w w.heap.size (Nat.le_refl _) ((HB.alloc (Nat.le_of_lt HZ) _).alloc (by simp; omega) _) ?_); rfl; rfl; rfl; rfl; rfl; rfl; rfl; (intro w5 hg5 hcs ho5 hs5 hb5); have c0 := hcs 0 _ rfl; have c1 := hcs 1 _ rfl; have c2 := hcs 2 _ rfl; have c3 := hcs 3 _ rfl; clear hcs ho5; refine Hid.out ?_))
  refine Lib.hid ?_
  go_wp2
  refine bodyPost_ret (v := .tuple #[valE xn, ifaceE (xs, xn), .nilIface]) (by simp [results, Tryz.results47, go_sem, c0, c1, c2, c3, valE, ifaceE]) rfl ⟨rfl, hb5⟩

end Go.Proofs.YtonfdfikgnhheaaGreatDoor.enums
