/- impl.plain and impl.DefUnmarshal at the kinds of whole numbers. -/
import Derived.Test.YtdcgoaikfbbneaaGreatDoorDw
namespace Go.Proofs.YtdcgoaikfbbneaaGreatDoor.ints
open Go.RowKit Go.Proofs.YtdcgoaikfbbneaaGreatDoor.num Go.Proofs.YtdcgoaikfbbneaaGreatDoor.pu
set_option linter.unusedVariables false
set_option linter.unusedSimpArgs false

def FailsV' (e : Ending) : Prop := ∃ a, e = .returned (.tuple #[.agg #[.int .i64 0, .int .u64 0, .string ⟨#[]⟩, .slice none 0 0], .nilIface, .iface 106 (.pointer (some a))])

def valV' (t : Int) (n : Int) : Value := .agg #[.int .i64 t, .int .u64 n, .string ⟨#[]⟩, .slice none 0 0]

/-- A default value of a whole number as impl.DefUnmarshal hands it back. -/
def outV (k x y : Int) : Value := .agg #[.int .i64 k, .bool false, .int .i64 x, .int .u64 y, .int .u64 0, .string ⟨#[]⟩, .string ⟨#[]⟩]

set_option maxHeartbeats 4000000 in
set_option maxRecDepth 100000 in
theorem plainS (k t m n : Int) (hk : k = 5 ∨ k = 15 ∨ k = 17 ∨ k = 3 ∨ k = 16 ∨ k = 18) (ht : t = 2 ∨ t = 3) (hm : IntKind.i64.wrap m = n) (w : World) :
    Calls Tryz.prog 12 #[valV' t m, .int .i64 k] w fun e w' => e = .returned (outV k n 0) ∧ Below w.heap.size w w' := by
  unfold valV' outV
  rcases hk with rfl | rfl | rfl | rfl | rfl | rfl <;> rcases ht with rfl | rfl
  all_goals
    go_enter Tryz.func12, Tryz.ntmps12
    go_wp2
    go_returns
    exact ⟨rfl, by go_grown⟩

set_option maxHeartbeats 4000000 in
set_option maxRecDepth 100000 in
theorem plainU (k t m : Int) (hk : k = 13 ∨ k = 7 ∨ k = 4 ∨ k = 6) (ht : t = 4 ∨ t = 5) (w : World) :
    Calls Tryz.prog 12 #[valV' t m, .int .i64 k] w fun e w' => e = .returned (outV k 0 m) ∧ Below w.heap.size w w' := by
  unfold valV' outV
  rcases hk with rfl | rfl | rfl | rfl <;> rcases ht with rfl | rfl
  all_goals
    go_enter Tryz.func12, Tryz.ntmps12
    go_wp2
    go_returns
    exact ⟨rfl, by go_grown⟩

set_option maxHeartbeats 4000000 in
set_option maxRecDepth 100000 in
theorem unm (s : ByteArray) (k f t : Int) (hk : IntKind.i8.wrap k = k) (w : World) (G : Int → Prop) (B : Prop) (x y : Int → Int)
    (D : ∀ o : Obj, Calls Tryz.prog 10 #[.string s, .int .i8 k, .iface 50 (.slice none 0 0), .int .i64 f] (w.alloc o)
      fun e w' => ((∃ m, G m ∧ e = .returned (.tuple #[valV' t m, .nilIface, .nilIface])) ∨ (B ∧ FailsV' e)) ∧ Below (w.alloc o).heap.size (w.alloc o) w')
    (P : ∀ m w', G m → Calls Tryz.prog 12 #[valV' t m, .int .i64 k] w' fun e w'' => e = .returned (outV k (x m) (y m)) ∧ Below w'.heap.size w' w'') :
    Calls Tryz.prog 5 #[.string s, .int .i64 k, .int .i64 f, .slice none 0 0, .slice none 0 0] w
      fun e w' => ((∃ m, G m ∧ e = .returned (.tuple #[outV k (x m) (y m), .bool true])) ∨ (B ∧ e = .returned (.tuple #[outV 0 0 0, .bool false]))) ∧ Below w.heap.size w w' := by
  have HP := Lib.hid P
  have HD := Lib.hid D
  clear P D
  go_enter Tryz.func5, Tryz.ntmps5
  go_wp2_with (first | (go_at_call 11; refine (enum_nil _).mono ?_; rintro e w' ⟨rfl, rfl⟩))
  refine (HD.out _).mono ?_
  rintro e w2 ⟨hc, hb2⟩
  obtain ⟨HG, HZ, HB⟩ := after_box hb2
  clear hb2
  rcases hc with ⟨m, hg, rfl⟩ | ⟨hb, a, rfl⟩
  · have HM := Lib.hid hg
    clear hg
    unfold valV' outV at HP
    unfold valV'
    go_wp2_with (first | (go_at_call 12; refine (HP.out _ _ HM.out).mono ?_; rintro e w3 ⟨rfl, hb3⟩; obtain ⟨HG3, HZ3, HB3⟩ := after_box hb3; clear hb3; refine Hid.out ?_))
    have HGx : w3.heap[w.heap.size]? = some (.cells #[.int .i64 0, .bool false, .int .i64 0, .int .u64 0, .int .u64 0, .string ⟨#[]⟩, .string ⟨#[]⟩] 24 (0, 0)) := (HB3.block _ HZ).trans HG
    have HZx : w.heap.size < w3.heap.size := by omega
    have HBx : Below w.heap.size w w3 := HB.trans (HB3.mono (Nat.le_of_lt HZ))
    clear HG HB HG3 HB3 HZ3
    refine Lib.hid ?_
    go_wp2_with (first | ((with_reducible refine store_blk ?_ 24 (.tmp 10) (.tmp 40) ?_ w.heap.size #[.int .i64 k, .bool false, .int .i64 (x m), .int .u64 (y m), .int .u64 0, .string ⟨#[]⟩, .string ⟨#[]⟩] ?_ ?_ 24 #[.int .i64 0, .bool false, .int .i64 0, .int .u64 0, .int .u64 0, .string ⟨#[]⟩, .string ⟨#[]⟩] (alloc_old HGx) 7 infoV ?_ ?_ ?_ w w.heap.size (Nat.le_refl _) (HBx.alloc (Nat.le_of_lt HZx) _) ?_); rfl; rfl; rfl; rfl; rfl; rfl; rfl; (intro w5 hg5 hcs ho5 hs5 hb5); have c0 := hcs 0 _ rfl; have c1 := hcs 1 _ rfl; have c2 := hcs 2 _ rfl; have c3 := hcs 3 _ rfl; have c4 := hcs 4 _ rfl; have c5 := hcs 5 _ rfl; have c6 := hcs 6 _ rfl; clear hcs ho5; refine Hid.out ?_))
    refine Lib.hid ?_
    go_wp2
    refine bodyPost_ret (v := .tuple #[outV k (x m) (y m), .bool true]) (by simp [results, Tryz.results5, go_sem, c0, c1, c2, c3, c4, c5, c6, outV]) rfl ⟨.inl ⟨m, HM.out, rfl⟩, hb5⟩
  · have HX := Lib.hid hb
    clear hb
    go_wp2_with (first | ((with_reducible refine store_blk ?_ 24 (.tmp 10) (.tmp 31) ?_ w.heap.size #[.int .i64 0, .bool false, .int .i64 0, .int .u64 0, .int .u64 0, .string ⟨#[]⟩, .string ⟨#[]⟩] ?_ ?_ 24 #[.int .i64 0, .bool false, .int .i64 0, .int .u64 0, .int .u64 0, .string ⟨#[]⟩, .string ⟨#[]⟩] (alloc_old HG) 7 infoV ?_ ?_ ?_ w w.heap.size (Nat.le_refl _) (HB.alloc (Nat.le_of_lt HZ) _) ?_); rfl; rfl; rfl; rfl; rfl; rfl; rfl; (intro w5 hg5 hcs ho5 hs5 hb5); have c0 := hcs 0 _ rfl; have c1 := hcs 1 _ rfl; have c2 := hcs 2 _ rfl; have c3 := hcs 3 _ rfl; have c4 := hcs 4 _ rfl; have c5 := hcs 5 _ rfl; have c6 := hcs 6 _ rfl; clear hcs ho5; refine Hid.out ?_))
    refine Lib.hid ?_
    go_wp2
    refine bodyPost_ret (v := .tuple #[outV 0 0 0, .bool false]) (by simp [results, Tryz.results5, go_sem, c0, c1, c2, c3, c4, c5, c6, outV]) rfl ⟨.inr ⟨HX.out, rfl⟩, hb5⟩

end Go.Proofs.YtdcgoaikfbbneaaGreatDoor.ints
