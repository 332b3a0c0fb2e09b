/- impl.values: what a token may stand for. -/
import Derived.Test.YtpneioocmpagmaaGreatDoorTt
import Derived.Laws.Externs
import Derived.Deep.DeepCutAuto
import Derived.WalkLawsBesides
namespace Go.Proofs.YtpneioocmpagmaaGreatDoor.tx
open Go.RowKit
set_option linter.unusedVariables false
set_option linter.unusedSimpArgs false

theorem conv_any (w : World) (b : Nat) : ∃ r n, (convert 98 93 (.float .f32 b)).run Tryz.prog w = .ok (.float .f64 r) (w.drewN n) := by
  have h1 := Tryz.underlying98
  have h2 := Tryz.underlying93
  cases hd : FloatKind.f32.decode b with
  | nan s t =>
    by_cases hf : (Question.nanConv FloatKind.f64 b).forced = true
    · exact ⟨_, 0, by simp [convert, run_underlying h1, run_underlying h2, Conv.floatToFloat, hd, hf]; exact ⟨rfl, rfl⟩⟩
    · exact ⟨_, 1, by simp [convert, run_underlying h1, run_underlying h2, Conv.floatToFloat, hd, hf]; exact ⟨rfl, rfl⟩⟩
  | infinity s => exact ⟨_, 0, by simp [convert, run_underlying h1, run_underlying h2, Conv.floatToFloat, hd]; exact ⟨rfl, rfl⟩⟩
  | number s m e =>
    by_cases hi : (FloatKind.f64.decode (FloatKind.f64.encode (.number s m e))).isInfinity = true
    · by_cases hf : (Question.floatToFloat b).forced = true
      · exact ⟨_, 0, by simp [convert, run_underlying h1, run_underlying h2, Conv.floatToFloat, hd, hi, hf]; exact ⟨rfl, rfl⟩⟩
      · exact ⟨_, 1, by simp [convert, run_underlying h1, run_underlying h2, Conv.floatToFloat, hd, hi, hf]; exact ⟨rfl, rfl⟩⟩
    · exact ⟨_, 0, by simp [convert, run_underlying h1, run_underlying h2, Conv.floatToFloat, hd, hi]; exact ⟨rfl, rfl⟩⟩

theorem bits64 (n : Nat) (w : World) : (callFunc 48 #[.float .f64 n]).run Tryz.prog w = .ok (.value (.int .u64 n)) w := by
  rw [run_callFunc_extern (e := Extern.MathFloatBits.float64bits) Tryz.func48 (by kernel_rfl) (by kernel_rfl) (by kernel_rfl) (by kernel_rfl)]
  rfl

def zeroVals : Array Value := #[.bool false, .bool false, .int .i64 0, .bool false, .int .i32 0, .bool false, .int .u64 0, .bool false, .int .u32 0, .bool false, .int .u64 0, .bool false, .int .u64 0, .bool false, .string ⟨#[]⟩, .bool false, .string ⟨#[]⟩, .bool false]

theorem infoV : (Tryz.prog.info? 42).map (·.size) = some 18 := by kernel_rfl

/-- What stands while the values are gathered: the token's block, the result's, the values'. -/
structure Inv (w : World) (tok vals : Array Value) (W : World) : Prop where
  below : Below w.heap.size w W
  a : W.heap[w.heap.size]? = some (.cells tok 76 (0, 0))
  r : W.heap[w.heap.size + 1]? = some (.cells zeroVals 42 (0, 0))
  v : W.heap[w.heap.size + 1 + 1]? = some (.cells vals 42 (0, 0))

theorem Inv.call {w W W' : World} {tok vals : Array Value} (h : Inv w tok vals W) (hb : Below W.heap.size W W') : Inv w tok vals W' :=
  ⟨h.below.trans (hb.mono h.below.size), (hb.block _ (Array.getElem?_eq_some_iff.1 h.a).1).trans h.a, (hb.block _ (Array.getElem?_eq_some_iff.1 h.r).1).trans h.r, (hb.block _ (Array.getElem?_eq_some_iff.1 h.v).1).trans h.v⟩

theorem Inv.set {w W : World} {tok vals : Array Value} (h : Inv w tok vals W) (j : Nat) (x : Value) : Inv w tok (vals.setIfInBounds j x) (W.setCell ⟨w.heap.size + 1 + 1, j, none⟩ x) :=
  ⟨below_set h.below _ (by show w.heap.size ≤ w.heap.size + 1 + 1; omega) _, (blk_other _ _ _ (by show w.heap.size + 1 + 1 ≠ w.heap.size; omega)).trans h.a, (blk_other _ _ _ (by show w.heap.size + 1 + 1 ≠ w.heap.size + 1; omega)).trans h.r, blk_set h.v j x⟩

theorem abs_code {P : Program} {c : Code} {Q : Exit → Act → World → Prop} {a : Act} {W : World} (R : World → Prop) (h : R W) (k : ∀ W', R W' → c.wp P Q a W') : c.wp P Q a W := k W h

theorem Inv.drewN {w W : World} {tok vals : Array Value} (h : Inv w tok vals W) (n : Nat) : Inv w tok vals (W.drewN n) := ⟨below_drewN h.below n, h.a, h.r, h.v⟩

theorem below_of_keeps {w w' : World} (h : Keeps w.heap.size w w') : Below w.heap.size w w' := ⟨h.os, h.tape, h.output, h.size, fun i hi => h.block i hi (by omega)⟩

/-- What impl.values says. -/
def ValSays (QB : Bool → Bool → Prop) (QI Qi QU Qu : Int → Bool → Prop) (QF Qf : Bool → Prop) (QE QS : ByteArray → Bool → Prop) (e : Ending) : Prop :=
  ∃ (x0 : Bool) (y0 : Bool) (x1 : Int) (y1 : Bool) (x2 : Int) (y2 : Bool) (x3 : Int) (y3 : Bool) (x4 : Int) (y4 : Bool) (x5 : Nat) (y5 : Bool) (x6 : Nat) (y6 : Bool) (x7 : ByteArray) (y7 : Bool) (x8 : ByteArray) (y8 : Bool), e = .returned (.agg #[.bool x0, .bool y0, .int .i64 x1, .bool y1, .int .i32 x2, .bool y2, .int .u64 x3, .bool y3, .int .u32 x4, .bool y4, .int .u64 x5, .bool y5, .int .u64 x6, .bool y6, .string x7, .bool y7, .string x8, .bool y8]) ∧ QB x0 y0 ∧ QI x1 y1 ∧ Qi x2 y2 ∧ QU x3 y3 ∧ Qu x4 y4 ∧ QF y5 ∧ Qf y6 ∧ QE x7 y7 ∧ QS x8 y8

set_option maxHeartbeats 16000000 in
set_option maxRecDepth 100000 in
theorem values_any (t : Tok) (hraw : t.raw.oneCell' = true) (QB : Bool → Bool → Prop) (QI Qi QU Qu : Int → Bool → Prop) (QF Qf : Bool → Prop) (QE QS : ByteArray → Bool → Prop) (w : World)
    (h0 : ∀ W, Below w.heap.size w W → Calls Tryz.prog 53 #[t.v] W fun e w' => (∃ (x : Bool) (y : Bool), QB x y ∧ e = .returned (.tuple #[.bool x, .bool y])) ∧ Below W.heap.size W w')
    (h1 : ∀ W, Below w.heap.size w W → Calls Tryz.prog 54 #[t.v] W fun e w' => (∃ (x : Int) (y : Bool), QI x y ∧ e = .returned (.tuple #[.int .i64 x, .bool y])) ∧ Below W.heap.size W w')
    (h2 : ∀ W, Below w.heap.size w W → Calls Tryz.prog 55 #[t.v] W fun e w' => (∃ (x : Int) (y : Bool), Qi x y ∧ e = .returned (.tuple #[.int .i32 x, .bool y])) ∧ Below W.heap.size W w')
    (h3 : ∀ W, Below w.heap.size w W → Calls Tryz.prog 56 #[t.v] W fun e w' => (∃ (x : Int) (y : Bool), QU x y ∧ e = .returned (.tuple #[.int .u64 x, .bool y])) ∧ Below W.heap.size W w')
    (h4 : ∀ W, Below w.heap.size w W → Calls Tryz.prog 57 #[t.v] W fun e w' => (∃ (x : Int) (y : Bool), Qu x y ∧ e = .returned (.tuple #[.int .u32 x, .bool y])) ∧ Below W.heap.size W w')
    (h5 : ∀ W, Below w.heap.size w W → Calls Tryz.prog 58 #[t.v] W fun e w' => (∃ (x : Nat) (y : Bool), QF y ∧ e = .returned (.tuple #[.float .f64 x, .bool y])) ∧ Below W.heap.size W w')
    (h6 : ∀ W, Below w.heap.size w W → Calls Tryz.prog 59 #[t.v] W fun e w' => (∃ (x : Nat) (y : Bool), Qf y ∧ e = .returned (.tuple #[.float .f32 x, .bool y])) ∧ Below W.heap.size W w')
    (h7 : ∀ W, Below w.heap.size w W → Calls Tryz.prog 60 #[t.v] W fun e w' => (∃ (x : ByteArray) (y : Bool), QE x y ∧ e = .returned (.tuple #[.string x, .bool y])) ∧ Below W.heap.size W w')
    (h8 : ∀ W, Below w.heap.size w W → Calls Tryz.prog 61 #[t.v] W fun e w' => (∃ (x : ByteArray) (y : Bool), QS x y ∧ e = .returned (.tuple #[.string x, .bool y])) ∧ Below W.heap.size W w') :
    Calls Tryz.prog 32 #[t.v] w fun e w' => ValSays QB QI Qi QU Qu QF Qf QE QS e ∧ Below w.heap.size w w' := by
  have H0 := Lib.hid h0
  have H1 := Lib.hid h1
  have H2 := Lib.hid h2
  have H3 := Lib.hid h3
  have H4 := Lib.hid h4
  have H5 := Lib.hid h5
  have H6 := Lib.hid h6
  have H7 := Lib.hid h7
  have H8 := Lib.hid h8
  clear h0 h1 h2 h3 h4 h5 h6 h7 h8
  have hbits := bits64
  have hAV : ¬ w.heap.size = w.heap.size + 1 + 1 := by omega
  have hVA : ¬ w.heap.size + 1 + 1 = w.heap.size := by omega
  unfold Tok.v
  go_enter Tryz.func32, Tryz.ntmps32
  go_wp2_with fail
  refine (H0.out _ (by go_grown)).mono ?_
  rintro e w1 ⟨⟨x0, y0, q0, rfl⟩, hb1⟩
  have I0 : Inv w #[.int .u8 t.kd, .int .u8 t.ats, .int .u8 t.na, .int .i64 t.p, t.raw, .string t.s] #[.bool false, .bool false, .int .i64 0, .bool false, .int .i32 0, .bool false, .int .u64 0, .bool false, .int .u32 0, .bool false, .int .u64 0, .bool false, .int .u64 0, .bool false, .string ⟨#[]⟩, .bool false, .string ⟨#[]⟩, .bool false] (((w.alloc (.cells #[.int .u8 t.kd, .int .u8 t.ats, .int .u8 t.na, .int .i64 t.p, t.raw, .string t.s] 76)).alloc (.cells #[.bool false, .bool false, .int .i64 0, .bool false, .int .i32 0, .bool false, .int .u64 0, .bool false, .int .u32 0, .bool false, .int .u64 0, .bool false, .int .u64 0, .bool false, .string ⟨#[]⟩, .bool false, .string ⟨#[]⟩, .bool false] 42)).alloc (.cells #[.bool false, .bool false, .int .i64 0, .bool false, .int .i32 0, .bool false, .int .u64 0, .bool false, .int .u32 0, .bool false, .int .u64 0, .bool false, .int .u64 0, .bool false, .string ⟨#[]⟩, .bool false, .string ⟨#[]⟩, .bool false] 42)) := by
    refine ⟨by go_grown, ?_, ?_, ?_⟩
    · exact alloc_blk (alloc_blk (heap_alloc_new w _))
    · have e := heap_alloc_new (w.alloc (.cells #[.int .u8 t.kd, .int .u8 t.ats, .int .u8 t.na, .int .i64 t.p, t.raw, .string t.s] 76)) (.cells #[.bool false, .bool false, .int .i64 0, .bool false, .int .i32 0, .bool false, .int .u64 0, .bool false, .int .u32 0, .bool false, .int .u64 0, .bool false, .int .u64 0, .bool false, .string ⟨#[]⟩, .bool false, .string ⟨#[]⟩, .bool false] 42)
      rw [World.size_alloc] at e
      exact alloc_blk e
    · have e := heap_alloc_new ((w.alloc (.cells #[.int .u8 t.kd, .int .u8 t.ats, .int .u8 t.na, .int .i64 t.p, t.raw, .string t.s] 76)).alloc (.cells #[.bool false, .bool false, .int .i64 0, .bool false, .int .i32 0, .bool false, .int .u64 0, .bool false, .int .u32 0, .bool false, .int .u64 0, .bool false, .int .u64 0, .bool false, .string ⟨#[]⟩, .bool false, .string ⟨#[]⟩, .bool false] 42)) (.cells #[.bool false, .bool false, .int .i64 0, .bool false, .int .i32 0, .bool false, .int .u64 0, .bool false, .int .u32 0, .bool false, .int .u64 0, .bool false, .int .u64 0, .bool false, .string ⟨#[]⟩, .bool false, .string ⟨#[]⟩, .bool false] 42)
      rw [World.size_alloc, World.size_alloc] at e
      exact e
  have I1 := Lib.hid (I0.call hb1)
  clear hb1 I0
  have p0 : w1.cell? ⟨w.heap.size + 1 + 1, 0, none⟩ = some (.bool false) := blk_cell I1.out.v rfl
  have p1 : w1.cell? ⟨w.heap.size + 1 + 1, 1, none⟩ = some (.bool false) := blk_cell I1.out.v rfl
  have f0 := blk_frozen I1.out.v 0
  have f1 := blk_frozen I1.out.v 1
  have J1 : Inv w #[.int .u8 t.kd, .int .u8 t.ats, .int .u8 t.na, .int .i64 t.p, t.raw, .string t.s] #[.bool x0, .bool y0, .int .i64 0, .bool false, .int .i32 0, .bool false, .int .u64 0, .bool false, .int .u32 0, .bool false, .int .u64 0, .bool false, .int .u64 0, .bool false, .string ⟨#[]⟩, .bool false, .string ⟨#[]⟩, .bool false] ((w1.setCell ⟨w.heap.size + 1 + 1, 0, none⟩ (.bool x0)).setCell ⟨w.heap.size + 1 + 1, 1, none⟩ (.bool y0)) := (I1.out.set 0 (.bool x0)).set 1 (.bool y0)
  go_wp2_with ((with_reducible refine wpList_load_row ?_ 76 (.tmp 1) ?_ w.heap.size ?_ 76 #[.int .u8 t.kd, .int .u8 t.ats, .int .u8 t.na, .int .i64 t.p, t.raw, .string t.s] (0, 0) _ J1.a Tryz.underlying76 ?_ ?_ ?_); rfl; rfl; rfl; rfl; exact infoT)
  refine (H1.out _ J1.below).mono ?_
  rintro e w2 ⟨⟨x1, y1, q1, rfl⟩, hb2⟩
  have I2 := Lib.hid (J1.call hb2)
  clear hb2 J1 p0 p1 f0 f1
  have p0 : w2.cell? ⟨w.heap.size + 1 + 1, 2, none⟩ = some (.int .i64 0) := blk_cell I2.out.v rfl
  have p1 : w2.cell? ⟨w.heap.size + 1 + 1, 3, none⟩ = some (.bool false) := blk_cell I2.out.v rfl
  have f0 := blk_frozen I2.out.v 2
  have f1 := blk_frozen I2.out.v 3
  have J2 : Inv w #[.int .u8 t.kd, .int .u8 t.ats, .int .u8 t.na, .int .i64 t.p, t.raw, .string t.s] #[.bool x0, .bool y0, .int .i64 x1, .bool y1, .int .i32 0, .bool false, .int .u64 0, .bool false, .int .u32 0, .bool false, .int .u64 0, .bool false, .int .u64 0, .bool false, .string ⟨#[]⟩, .bool false, .string ⟨#[]⟩, .bool false] ((w2.setCell ⟨w.heap.size + 1 + 1, 2, none⟩ (.int .i64 x1)).setCell ⟨w.heap.size + 1 + 1, 3, none⟩ (.bool y1)) := (I2.out.set 2 (.int .i64 x1)).set 3 (.bool y1)
  go_wp2_with ((with_reducible refine wpList_load_row ?_ 76 (.tmp 1) ?_ w.heap.size ?_ 76 #[.int .u8 t.kd, .int .u8 t.ats, .int .u8 t.na, .int .i64 t.p, t.raw, .string t.s] (0, 0) _ J2.a Tryz.underlying76 ?_ ?_ ?_); rfl; rfl; rfl; rfl; exact infoT)
  refine (H2.out _ J2.below).mono ?_
  rintro e w3 ⟨⟨x2, y2, q2, rfl⟩, hb3⟩
  have I3 := Lib.hid (J2.call hb3)
  clear hb3 J2 p0 p1 f0 f1
  have p0 : w3.cell? ⟨w.heap.size + 1 + 1, 4, none⟩ = some (.int .i32 0) := blk_cell I3.out.v rfl
  have p1 : w3.cell? ⟨w.heap.size + 1 + 1, 5, none⟩ = some (.bool false) := blk_cell I3.out.v rfl
  have f0 := blk_frozen I3.out.v 4
  have f1 := blk_frozen I3.out.v 5
  have J3 : Inv w #[.int .u8 t.kd, .int .u8 t.ats, .int .u8 t.na, .int .i64 t.p, t.raw, .string t.s] #[.bool x0, .bool y0, .int .i64 x1, .bool y1, .int .i32 x2, .bool y2, .int .u64 0, .bool false, .int .u32 0, .bool false, .int .u64 0, .bool false, .int .u64 0, .bool false, .string ⟨#[]⟩, .bool false, .string ⟨#[]⟩, .bool false] ((w3.setCell ⟨w.heap.size + 1 + 1, 4, none⟩ (.int .i32 x2)).setCell ⟨w.heap.size + 1 + 1, 5, none⟩ (.bool y2)) := (I3.out.set 4 (.int .i32 x2)).set 5 (.bool y2)
  go_wp2_with ((with_reducible refine wpList_load_row ?_ 76 (.tmp 1) ?_ w.heap.size ?_ 76 #[.int .u8 t.kd, .int .u8 t.ats, .int .u8 t.na, .int .i64 t.p, t.raw, .string t.s] (0, 0) _ J3.a Tryz.underlying76 ?_ ?_ ?_); rfl; rfl; rfl; rfl; exact infoT)
  refine (H3.out _ J3.below).mono ?_
  rintro e w4 ⟨⟨x3, y3, q3, rfl⟩, hb4⟩
  have I4 := Lib.hid (J3.call hb4)
  clear hb4 J3 p0 p1 f0 f1
  have p0 : w4.cell? ⟨w.heap.size + 1 + 1, 6, none⟩ = some (.int .u64 0) := blk_cell I4.out.v rfl
  have p1 : w4.cell? ⟨w.heap.size + 1 + 1, 7, none⟩ = some (.bool false) := blk_cell I4.out.v rfl
  have f0 := blk_frozen I4.out.v 6
  have f1 := blk_frozen I4.out.v 7
  have J4 : Inv w #[.int .u8 t.kd, .int .u8 t.ats, .int .u8 t.na, .int .i64 t.p, t.raw, .string t.s] #[.bool x0, .bool y0, .int .i64 x1, .bool y1, .int .i32 x2, .bool y2, .int .u64 x3, .bool y3, .int .u32 0, .bool false, .int .u64 0, .bool false, .int .u64 0, .bool false, .string ⟨#[]⟩, .bool false, .string ⟨#[]⟩, .bool false] ((w4.setCell ⟨w.heap.size + 1 + 1, 6, none⟩ (.int .u64 x3)).setCell ⟨w.heap.size + 1 + 1, 7, none⟩ (.bool y3)) := (I4.out.set 6 (.int .u64 x3)).set 7 (.bool y3)
  go_wp2_with ((with_reducible refine wpList_load_row ?_ 76 (.tmp 1) ?_ w.heap.size ?_ 76 #[.int .u8 t.kd, .int .u8 t.ats, .int .u8 t.na, .int .i64 t.p, t.raw, .string t.s] (0, 0) _ J4.a Tryz.underlying76 ?_ ?_ ?_); rfl; rfl; rfl; rfl; exact infoT)
  refine (H4.out _ J4.below).mono ?_
  rintro e w5 ⟨⟨x4, y4, q4, rfl⟩, hb5⟩
  have I5 := Lib.hid (J4.call hb5)
  clear hb5 J4 p0 p1 f0 f1
  have p0 : w5.cell? ⟨w.heap.size + 1 + 1, 8, none⟩ = some (.int .u32 0) := blk_cell I5.out.v rfl
  have p1 : w5.cell? ⟨w.heap.size + 1 + 1, 9, none⟩ = some (.bool false) := blk_cell I5.out.v rfl
  have f0 := blk_frozen I5.out.v 8
  have f1 := blk_frozen I5.out.v 9
  have J5 : Inv w #[.int .u8 t.kd, .int .u8 t.ats, .int .u8 t.na, .int .i64 t.p, t.raw, .string t.s] #[.bool x0, .bool y0, .int .i64 x1, .bool y1, .int .i32 x2, .bool y2, .int .u64 x3, .bool y3, .int .u32 x4, .bool y4, .int .u64 0, .bool false, .int .u64 0, .bool false, .string ⟨#[]⟩, .bool false, .string ⟨#[]⟩, .bool false] ((w5.setCell ⟨w.heap.size + 1 + 1, 8, none⟩ (.int .u32 x4)).setCell ⟨w.heap.size + 1 + 1, 9, none⟩ (.bool y4)) := (I5.out.set 8 (.int .u32 x4)).set 9 (.bool y4)
  go_wp2_with ((with_reducible refine wpList_load_row ?_ 76 (.tmp 1) ?_ w.heap.size ?_ 76 #[.int .u8 t.kd, .int .u8 t.ats, .int .u8 t.na, .int .i64 t.p, t.raw, .string t.s] (0, 0) _ J5.a Tryz.underlying76 ?_ ?_ ?_); rfl; rfl; rfl; rfl; exact infoT)
  refine (H5.out _ J5.below).mono ?_
  rintro e w6 ⟨⟨x5, y5, q5, rfl⟩, hb6⟩
  have I6 := Lib.hid (J5.call hb6)
  clear hb6 J5 p0 p1 f0 f1
  have p0 : w6.cell? ⟨w.heap.size + 1 + 1, 10, none⟩ = some (.int .u64 0) := blk_cell I6.out.v rfl
  have p1 : w6.cell? ⟨w.heap.size + 1 + 1, 11, none⟩ = some (.bool false) := blk_cell I6.out.v rfl
  have f0 := blk_frozen I6.out.v 10
  have f1 := blk_frozen I6.out.v 11
  have J6 : Inv w #[.int .u8 t.kd, .int .u8 t.ats, .int .u8 t.na, .int .i64 t.p, t.raw, .string t.s] #[.bool x0, .bool y0, .int .i64 x1, .bool y1, .int .i32 x2, .bool y2, .int .u64 x3, .bool y3, .int .u32 x4, .bool y4, .int .u64 x5, .bool y5, .int .u64 0, .bool false, .string ⟨#[]⟩, .bool false, .string ⟨#[]⟩, .bool false] ((w6.setCell ⟨w.heap.size + 1 + 1, 10, none⟩ (.int .u64 x5)).setCell ⟨w.heap.size + 1 + 1, 11, none⟩ (.bool y5)) := (I6.out.set 10 (.int .u64 x5)).set 11 (.bool y5)
  go_wp2_with ((with_reducible refine wpList_load_row ?_ 76 (.tmp 1) ?_ w.heap.size ?_ 76 #[.int .u8 t.kd, .int .u8 t.ats, .int .u8 t.na, .int .i64 t.p, t.raw, .string t.s] (0, 0) _ J6.a Tryz.underlying76 ?_ ?_ ?_); rfl; rfl; rfl; rfl; exact infoT)
  refine (H6.out _ J6.below).mono ?_
  rintro e w7 ⟨⟨x6, y6, q6, rfl⟩, hb7⟩
  have I7 := Lib.hid (J6.call hb7)
  clear hb7 J6 p0 p1 f0 f1
  have p0 : w7.cell? ⟨w.heap.size + 1 + 1, 12, none⟩ = some (.int .u64 0) := blk_cell I7.out.v rfl
  have p1 : w7.cell? ⟨w.heap.size + 1 + 1, 13, none⟩ = some (.bool false) := blk_cell I7.out.v rfl
  have f0 := blk_frozen I7.out.v 12
  have f1 := blk_frozen I7.out.v 13
  obtain ⟨r6, n6, hc6⟩ := conv_any w7 x6
  have J7 : Inv w #[.int .u8 t.kd, .int .u8 t.ats, .int .u8 t.na, .int .i64 t.p, t.raw, .string t.s] #[.bool x0, .bool y0, .int .i64 x1, .bool y1, .int .i32 x2, .bool y2, .int .u64 x3, .bool y3, .int .u32 x4, .bool y4, .int .u64 x5, .bool y5, .int .u64 r6, .bool y6, .string ⟨#[]⟩, .bool false, .string ⟨#[]⟩, .bool false] (((w7.drewN n6).setCell ⟨w.heap.size + 1 + 1, 12, none⟩ (.int .u64 r6)).setCell ⟨w.heap.size + 1 + 1, 13, none⟩ (.bool y6)) := ((I7.out.drewN n6).set 12 (.int .u64 r6)).set 13 (.bool y6)
  go_wp2_with ((with_reducible refine wpList_load_row ?_ 76 (.tmp 1) ?_ w.heap.size ?_ 76 #[.int .u8 t.kd, .int .u8 t.ats, .int .u8 t.na, .int .i64 t.p, t.raw, .string t.s] (0, 0) _ J7.a Tryz.underlying76 ?_ ?_ ?_); rfl; rfl; rfl; rfl; exact infoT)
  refine (H7.out _ J7.below).mono ?_
  rintro e w8 ⟨⟨x7, y7, q7, rfl⟩, hb8⟩
  have I8 := Lib.hid (J7.call hb8)
  clear hb8 J7 p0 p1 f0 f1 hc6
  have p0 : w8.cell? ⟨w.heap.size + 1 + 1, 14, none⟩ = some (.string ⟨#[]⟩) := blk_cell I8.out.v rfl
  have p1 : w8.cell? ⟨w.heap.size + 1 + 1, 15, none⟩ = some (.bool false) := blk_cell I8.out.v rfl
  have f0 := blk_frozen I8.out.v 14
  have f1 := blk_frozen I8.out.v 15
  have J8 : Inv w #[.int .u8 t.kd, .int .u8 t.ats, .int .u8 t.na, .int .i64 t.p, t.raw, .string t.s] #[.bool x0, .bool y0, .int .i64 x1, .bool y1, .int .i32 x2, .bool y2, .int .u64 x3, .bool y3, .int .u32 x4, .bool y4, .int .u64 x5, .bool y5, .int .u64 r6, .bool y6, .string x7, .bool y7, .string ⟨#[]⟩, .bool false] ((w8.setCell ⟨w.heap.size + 1 + 1, 14, none⟩ (.string x7)).setCell ⟨w.heap.size + 1 + 1, 15, none⟩ (.bool y7)) := (I8.out.set 14 (.string x7)).set 15 (.bool y7)
  go_wp2_with ((with_reducible refine wpList_load_row ?_ 76 (.tmp 1) ?_ w.heap.size ?_ 76 #[.int .u8 t.kd, .int .u8 t.ats, .int .u8 t.na, .int .i64 t.p, t.raw, .string t.s] (0, 0) _ J8.a Tryz.underlying76 ?_ ?_ ?_); rfl; rfl; rfl; rfl; exact infoT)
  refine (H8.out _ J8.below).mono ?_
  rintro e w9 ⟨⟨x8, y8, q8, rfl⟩, hb9⟩
  have I9 := Lib.hid (J8.call hb9)
  clear hb9 J8 p0 p1 f0 f1
  have p0 : w9.cell? ⟨w.heap.size + 1 + 1, 16, none⟩ = some (.string ⟨#[]⟩) := blk_cell I9.out.v rfl
  have p1 : w9.cell? ⟨w.heap.size + 1 + 1, 17, none⟩ = some (.bool false) := blk_cell I9.out.v rfl
  have f0 := blk_frozen I9.out.v 16
  have f1 := blk_frozen I9.out.v 17
  go_upto_region 13 with (fail)
  refine abs_code (Inv w #[.int .u8 t.kd, .int .u8 t.ats, .int .u8 t.na, .int .i64 t.p, t.raw, .string t.s] #[.bool x0, .bool y0, .int .i64 x1, .bool y1, .int .i32 x2, .bool y2, .int .u64 x3, .bool y3, .int .u32 x4, .bool y4, .int .u64 x5, .bool y5, .int .u64 r6, .bool y6, .string x7, .bool y7, .string x8, .bool y8]) ((I9.out.set 16 (.string x8)).set 17 (.bool y8)) ?_
  intro wy IY
  clear p0 p1 f0 f1 I9
  have HV9 := IY.v
  have HR9 := IY.r
  have HK9 : Keeps w.heap.size w wy := Keeps.of IY.below
  clear IY I1 I2 I3 I4 I5 I6 I7 I8 H0 H1 H2 H3 H4 H5 H6 H7 H8 hbits hAV hVA
  go_wp2_with (first | ((with_reducible refine wpList_load_row ?_ 42 (.tmp 3) ?_ (w.heap.size + 1 + 1) ?_ 42 #[.bool x0, .bool y0, .int .i64 x1, .bool y1, .int .i32 x2, .bool y2, .int .u64 x3, .bool y3, .int .u32 x4, .bool y4, .int .u64 x5, .bool y5, .int .u64 r6, .bool y6, .string x7, .bool y7, .string x8, .bool y8] (0, 0) _ HV9 Tryz.underlying42 ?_ ?_ ?_); rfl; rfl; rfl; rfl; exact infoV) | ((with_reducible refine store_own ?_ 42 (.tmp 2) (.tmp 77) ?_ (w.heap.size + 1) #[.bool x0, .bool y0, .int .i64 x1, .bool y1, .int .i32 x2, .bool y2, .int .u64 x3, .bool y3, .int .u32 x4, .bool y4, .int .u64 x5, .bool y5, .int .u64 r6, .bool y6, .string x7, .bool y7, .string x8, .bool y8] ?_ ?_ 42 zeroVals HR9 18 infoV ?_ ?_ ?_ w.heap.size w HK9 (Nat.le_succ _) ?_); rfl; rfl; rfl; rfl; rfl; rfl; rfl; (intro wz hgz hcs hoz hsz hkz); refine Hid.out ?_))
  refine Lib.hid ?_
  have HKZ := Lib.hid (And.intro hkz hgz)
  clear hgz hcs hoz hsz hkz HR9 HK9 HV9
  go_wp2
  refine bodyPost_ret (v := .agg #[.bool x0, .bool y0, .int .i64 x1, .bool y1, .int .i32 x2, .bool y2, .int .u64 x3, .bool y3, .int .u32 x4, .bool y4, .int .u64 x5, .bool y5, .int .u64 r6, .bool y6, .string x7, .bool y7, .string x8, .bool y8]) (results_cell_row rfl _ _ (w.heap.size + 1) 42 #[.bool x0, .bool y0, .int .i64 x1, .bool y1, .int .i32 x2, .bool y2, .int .u64 x3, .bool y3, .int .u32 x4, .bool y4, .int .u64 x5, .bool y5, .int .u64 r6, .bool y6, .string x7, .bool y7, .string x8, .bool y8] (0, 0) _ rfl HKZ.out.2 Tryz.underlying42 rfl infoV) rfl ⟨⟨x0, y0, x1, y1, x2, y2, x3, y3, x4, y4, x5, y5, r6, y6, x7, y7, x8, y8, rfl, q0, q1, q2, q3, q4, q5, q6, q7, q8⟩, below_of_keeps HKZ.out.1⟩

end Go.Proofs.YtpneioocmpagmaaGreatDoor.tx

