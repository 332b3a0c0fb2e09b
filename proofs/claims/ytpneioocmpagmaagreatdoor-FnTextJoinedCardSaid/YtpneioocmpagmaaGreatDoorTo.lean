/- The text form's reader: number.string. -/
import Derived.Test.YtpneioocmpagmaaGreatDoorTn
namespace Go.Proofs.YtpneioocmpagmaaGreatDoor.tx
open Go.RowKit
set_option linter.unusedVariables false
set_option linter.unusedSimpArgs false

/-- A part of a text. -/
def part (T : List UInt8) (p size : Nat) : List UInt8 := (T.drop p).take size

theorem part_len {T : List UInt8} {p size : Nat} (h : p + size ≤ T.length) : (part T p size).length = size := by
  unfold part; rw [List.length_take, List.length_drop]; omega

theorem part_row {w : World} {b : Nat} {T : List UInt8} {p size : Nat} (hr : RowM w b 0 T) (h : p + size ≤ T.length) : RowM w b p (part T p size) := by
  intro j hj
  rw [part_len h] at hj
  have := hr (p + j) (by omega)
  rw [Nat.zero_add] at this
  rw [this]
  unfold part
  rw [List.getD_eq_getElem?_getD, List.getD_eq_getElem?_getD, List.getElem?_take, if_pos hj, List.getElem?_drop]

set_option maxHeartbeats 8000000 in
set_option maxRecDepth 100000 in
theorem num_string (b L cap pos off n c size : Nat) (neg : Bool) (T : List UInt8) (hT : T.length = L) (hL : L ≤ cap) (hcap : cap ≤ 9223372036854775807) (hL47 : L ≤ 140737488355000) (hin : InAt b L cap pos off n c) (hs : 1 ≤ size) (hk : pos + size ≤ L) (w : World) (hr : RowM w b 0 T) :
    Calls Tryz.prog 106 #[numV 0 neg size, .slice (some ⟨b, off, none⟩) n c] w fun e w' => e = .returned (.string ⟨(part T pos size).toArray⟩) ∧ Below w.heap.size w w' := by
  obtain ⟨i1, i2, i3, i4⟩ := id hin
  obtain ⟨rfl, hc'⟩ := i4 (by omega)
  have hb : b < w.heap.size := cell_lt (cell_at hT hr (p := off) (by omega))
  have CV := fun (W : World) (c : Nat) (hW : Below w.heap.size w W) => conv_row (w := W) (b := b) (o := off) (c := c) (tx := part T off size) (part_row (hr.below hW hb) (by omega))
  rw [part_len (by omega)] at CV
  have t1 : (size : Int) ≤ (c : Int) := by omega
  have t2 : (0 : Int) ≤ (size : Int) := by omega
  have t3 : (size : Int) ≤ 140737488355000 := by omega
  have cv := CV (w.alloc (.cells #[.int .u8 0, .bool neg, .int .i64 size, .int .i64 0] 166)) c ((Below.refl _ _).alloc (Nat.le_refl _) _)
  obtain ⟨x, hx⟩ : ∃ x : ByteArray, x = ⟨(part T off size).toArray⟩ := ⟨_, rfl⟩
  rw [← hx] at cv ⊢
  clear CV hr hin i1 i2 i3 i4 hT hc' hx hs hk hL hcap hL47 hb
  unfold numV
  go_enter Tryz.func106, Tryz.ntmps106
  cases neg
  all_goals
    go_wp2_with fail
    go_ret
    exact ⟨rfl, by go_grown⟩

end Go.Proofs.YtpneioocmpagmaaGreatDoor.tx
