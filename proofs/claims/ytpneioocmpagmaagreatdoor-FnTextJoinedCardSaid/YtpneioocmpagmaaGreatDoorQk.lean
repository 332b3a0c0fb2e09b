/- The text form's token at a string: what its methods say. -/
import Derived.Test.YtpneioocmpagmaaGreatDoorTx
import Derived.Test.YtpneioocmpagmaaGreatDoorQh
namespace Go.Proofs.YtpneioocmpagmaaGreatDoor.tx
open Go.RowKit
set_option linter.unusedVariables false
set_option linter.unusedSimpArgs false

set_option maxHeartbeats 4000000 in
set_option maxRecDepth 100000 in
theorem stok_Bool (p : Int) (raw : Value) (hraw : raw.oneCell' = true) (s : ByteArray) (w : World) :
    Calls Tryz.prog 53 #[(⟨3, 2, 0, p, raw, s⟩ : Tok).v] w fun e w' => e = .returned (.tuple #[.bool false, .bool false]) ∧ Below w.heap.size w w' := by
  unfold Tok.v
  go_enter Tryz.func53, Tryz.ntmps53
  go_wp2_with fail
  go_ret2
  exact ⟨rfl, by go_grown⟩

set_option maxHeartbeats 4000000 in
set_option maxRecDepth 100000 in
theorem stok_Int64 (p : Int) (raw : Value) (hraw : raw.oneCell' = true) (s : ByteArray) (w : World) :
    Calls Tryz.prog 54 #[(⟨3, 2, 0, p, raw, s⟩ : Tok).v] w fun e w' => e = .returned (.tuple #[.int .i64 0, .bool false]) ∧ Below w.heap.size w w' := by
  unfold Tok.v
  go_enter Tryz.func54, Tryz.ntmps54
  go_wp2_with fail
  go_ret2
  exact ⟨rfl, by go_grown⟩

set_option maxHeartbeats 4000000 in
set_option maxRecDepth 100000 in
theorem stok_Int32 (p : Int) (raw : Value) (hraw : raw.oneCell' = true) (s : ByteArray) (w : World) :
    Calls Tryz.prog 55 #[(⟨3, 2, 0, p, raw, s⟩ : Tok).v] w fun e w' => e = .returned (.tuple #[.int .i32 0, .bool false]) ∧ Below w.heap.size w w' := by
  unfold Tok.v
  go_enter Tryz.func55, Tryz.ntmps55
  go_wp2_with fail
  go_ret2
  exact ⟨rfl, by go_grown⟩

set_option maxHeartbeats 4000000 in
set_option maxRecDepth 100000 in
theorem stok_Uint64 (p : Int) (raw : Value) (hraw : raw.oneCell' = true) (s : ByteArray) (w : World) :
    Calls Tryz.prog 56 #[(⟨3, 2, 0, p, raw, s⟩ : Tok).v] w fun e w' => e = .returned (.tuple #[.int .u64 0, .bool false]) ∧ Below w.heap.size w w' := by
  unfold Tok.v
  go_enter Tryz.func56, Tryz.ntmps56
  go_wp2_with fail
  go_ret2
  exact ⟨rfl, by go_grown⟩

set_option maxHeartbeats 4000000 in
set_option maxRecDepth 100000 in
theorem stok_Uint32 (p : Int) (raw : Value) (hraw : raw.oneCell' = true) (s : ByteArray) (w : World) :
    Calls Tryz.prog 57 #[(⟨3, 2, 0, p, raw, s⟩ : Tok).v] w fun e w' => e = .returned (.tuple #[.int .u32 0, .bool false]) ∧ Below w.heap.size w w' := by
  unfold Tok.v
  go_enter Tryz.func57, Tryz.ntmps57
  go_wp2_with fail
  go_ret2
  exact ⟨rfl, by go_grown⟩

set_option maxHeartbeats 4000000 in
set_option maxRecDepth 100000 in
theorem stok_Float64 (p : Int) (raw : Value) (hraw : raw.oneCell' = true) (s : ByteArray) (w : World) :
    Calls Tryz.prog 58 #[(⟨3, 2, 0, p, raw, s⟩ : Tok).v] w fun e w' => e = .returned (.tuple #[.float .f64 0, .bool false]) ∧ Below w.heap.size w w' := by
  unfold Tok.v
  go_enter Tryz.func58, Tryz.ntmps58
  go_wp2_with fail
  go_ret2
  exact ⟨rfl, by go_grown⟩

set_option maxHeartbeats 4000000 in
set_option maxRecDepth 100000 in
theorem stok_Float32 (p : Int) (raw : Value) (hraw : raw.oneCell' = true) (s : ByteArray) (w : World) :
    Calls Tryz.prog 59 #[(⟨3, 2, 0, p, raw, s⟩ : Tok).v] w fun e w' => e = .returned (.tuple #[.float .f32 0, .bool false]) ∧ Below w.heap.size w w' := by
  unfold Tok.v
  go_enter Tryz.func59, Tryz.ntmps59
  go_wp2_with fail
  go_ret2
  exact ⟨rfl, by go_grown⟩

set_option maxHeartbeats 4000000 in
set_option maxRecDepth 100000 in
theorem stok_Enum (p : Int) (raw : Value) (hraw : raw.oneCell' = true) (s : ByteArray) (w : World) :
    Calls Tryz.prog 60 #[(⟨3, 2, 0, p, raw, s⟩ : Tok).v] w fun e w' => e = .returned (.tuple #[.string ⟨#[]⟩, .bool false]) ∧ Below w.heap.size w w' := by
  unfold Tok.v
  go_enter Tryz.func60, Tryz.ntmps60
  go_wp2_with fail
  go_ret2
  exact ⟨rfl, by go_grown⟩

set_option maxHeartbeats 4000000 in
set_option maxRecDepth 100000 in
theorem stok_String (p : Int) (raw : Value) (hraw : raw.oneCell' = true) (s : ByteArray) (w : World) :
    Calls Tryz.prog 61 #[(⟨3, 2, 0, p, raw, s⟩ : Tok).v] w fun e w' => e = .returned (.tuple #[.string s, .bool true]) ∧ Below w.heap.size w w' := by
  unfold Tok.v
  go_enter Tryz.func61, Tryz.ntmps61
  go_wp2_with fail
  go_ret2
  exact ⟨rfl, by go_grown⟩

theorem str_vals (t : Tok) (k1 : t.kd = 3) (k2 : t.ats = 2) (k3 : t.na = 0) (s : ByteArray) (k4 : t.s = s) (k5 : t.raw.oneCell' = true) (w : World) :
    Calls Tryz.prog 32 #[t.v] w fun e w' => ValSays (fun _ _ => True) (fun _ _ => True) (fun _ _ => True) (fun _ _ => True) (fun _ _ => True) (fun _ => True) (fun _ => True) (fun _ _ => True) (fun x y => x = s ∧ y = true) e ∧ Below w.heap.size w w' := by
  obtain ⟨a1, a2, a3, p, raw, s'⟩ := t
  simp only at k1 k2 k3 k4 k5
  subst k1 k2 k3 k4
  refine values_any _ k5 _ _ _ _ _ _ _ _ _ w ?_ ?_ ?_ ?_ ?_ ?_ ?_ ?_ ?_
  · exact fun W hW => (stok_Bool p raw k5 _ W).mono fun e w' ⟨h, hb⟩ => ⟨⟨_, _, trivial, h⟩, hb⟩
  · exact fun W hW => (stok_Int64 p raw k5 _ W).mono fun e w' ⟨h, hb⟩ => ⟨⟨_, _, trivial, h⟩, hb⟩
  · exact fun W hW => (stok_Int32 p raw k5 _ W).mono fun e w' ⟨h, hb⟩ => ⟨⟨_, _, trivial, h⟩, hb⟩
  · exact fun W hW => (stok_Uint64 p raw k5 _ W).mono fun e w' ⟨h, hb⟩ => ⟨⟨_, _, trivial, h⟩, hb⟩
  · exact fun W hW => (stok_Uint32 p raw k5 _ W).mono fun e w' ⟨h, hb⟩ => ⟨⟨_, _, trivial, h⟩, hb⟩
  · exact fun W hW => (stok_Float64 p raw k5 _ W).mono fun e w' ⟨h, hb⟩ => ⟨⟨_, _, trivial, h⟩, hb⟩
  · exact fun W hW => (stok_Float32 p raw k5 _ W).mono fun e w' ⟨h, hb⟩ => ⟨⟨_, _, trivial, h⟩, hb⟩
  · exact fun W hW => (stok_Enum p raw k5 _ W).mono fun e w' ⟨h, hb⟩ => ⟨⟨_, _, trivial, h⟩, hb⟩
  · exact fun W hW => (stok_String p raw k5 _ W).mono fun e w' ⟨h, hb⟩ => ⟨⟨_, _, ⟨rfl, rfl⟩, h⟩, hb⟩

end Go.Proofs.YtpneioocmpagmaaGreatDoor.tx
