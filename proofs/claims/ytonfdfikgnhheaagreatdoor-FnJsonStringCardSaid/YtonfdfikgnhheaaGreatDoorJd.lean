/- The JSON writer: prepareNext without an indent, WriteString, NewEncoder without an indent. -/
import Derived.Test.YtonfdfikgnhheaaGreatDoorJc
import Derived.Defers
namespace Go.Proofs.YtonfdfikgnhheaaGreatDoor.js
open Go.RowKit
set_option linter.unusedVariables false
set_option linter.unusedSimpArgs false

/-- A writer without an indent, in block E: what it has written is g; its last kind. -/
structure IsEnc (w : World) (E B : Nat) (lk : Nat) (v : Value) (g : List UInt8) : Prop where
  ind : w.cell? ⟨E, 0, none⟩ = some (.string ⟨#[]⟩)
  last : w.cell? ⟨E, 1, none⟩ = some (.int .u8 lk)
  out : w.cell? ⟨E, 3, none⟩ = some v
  f1 : w.frozen? ⟨E, 1, none⟩ = false
  f3 : w.frozen? ⟨E, 3, none⟩ = false
  own : OwnB w B v g
  lt : E < B
  le : B ≤ w.heap.size

theorem IsEnc.below {w w' : World} {E B lk : Nat} {v : Value} {g : List UInt8} (h : IsEnc w E B lk v g) (hb : Below w.heap.size w w') : IsEnc w' E B lk v g := by
  have hE := Nat.lt_of_lt_of_le h.lt h.le
  exact ⟨(hb.cell (p := ⟨E, 0, none⟩) hE).trans h.ind, (hb.cell (p := ⟨E, 1, none⟩) hE).trans h.last, (hb.cell (p := ⟨E, 3, none⟩) hE).trans h.out,
    (hb.frozen (p := ⟨E, 1, none⟩) hE).trans h.f1, (hb.frozen (p := ⟨E, 3, none⟩) hE).trans h.f3, own_below h.own hb, h.lt, Nat.le_trans h.le hb.size⟩

theorem own_setCell {w : World} {B : Nat} {v : Value} {g : List UInt8} (h : OwnB w B v g) {a : Addr} (ha : a.block < B) (u : Value) : OwnB (w.setCell a u) B v g :=
  ownsRow_setCell_below h ha u

theorem IsEnc.setLast {w : World} {E B lk : Nat} {v : Value} {g : List UInt8} (h : IsEnc w E B lk v g) (nx : Nat) : IsEnc (w.setCell ⟨E, 1, none⟩ (.int .u8 nx)) E B nx v g := by
  refine ⟨?_, World.cell?_setCell_same w _ _ h.last, ?_, by simpa using h.f1, by simpa using h.f3, own_setCell h.own h.lt _, h.lt, by simpa using h.le⟩
  · rw [World.cell?_setCell_other w _ _ _ (by simp)]; exact h.ind
  · rw [World.cell?_setCell_other w _ _ _ (by simp)]; exact h.out

set_option maxHeartbeats 4000000 in
set_option maxRecDepth 100000 in
theorem next_done (b2 b3 E : Nat) (nx : Nat) (x : Value) (u : FrameMode) (w : World) (h2 : w.cell? ⟨b2, 0, none⟩ = some (.pointer (some ⟨E, 0, none⟩))) (h3 : w.cell? ⟨b3, 0, none⟩ = some (.int .u8 nx)) (h1 : w.cell? ⟨E, 1, none⟩ = some x) (hf : w.frozen? ⟨E, 1, none⟩ = false) :
    CallsD Tryz.prog 136 #[.pointer (some ⟨b3, 0, none⟩), .pointer (some ⟨b2, 0, none⟩)] u w fun e u' w' => u' = u ∧ (e = .returned (.tuple #[]) ∧ w' = w.setCell ⟨E, 1, none⟩ (.int .u8 nx)) := by
  go_enter_d Tryz.func136, Tryz.ntmps136
  go_wp2
  go_end0
  exact ⟨rfl, rfl⟩

set_option maxHeartbeats 4000000 in
set_option maxRecDepth 100000 in
theorem prepare_first (w : World) (E B : Nat) (nx : Nat) (v : Value) (g : List UInt8) (h : IsEnc w E B 0 v g) :
    Calls Tryz.prog 104 #[.pointer (some ⟨E, 0, none⟩), .int .u8 nx] w fun e w' => e = .returned (.tuple #[]) ∧ IsEnc w' E B nx v g ∧ Below E w w' := by
  have hmf : ∀ (fn : Fn) (first cap : Array Value) (w : World), (Instr.makeFunc fn first cap).run Tryz.prog w = .ok (.func fn first cap) w := fun _ _ _ _ => rfl
  have HH := Lib.hid h
  have hE : E < w.heap.size := Nat.lt_of_lt_of_le h.lt h.le
  have c0 := h.ind
  have c1 := h.last
  have e0 : bits BinOp.and IntKind.u8 0 42 = 0 := by decide
  clear h
  go_enter_defers Tryz.func104, Tryz.ntmps104
  go_wp2
  have hI := HH.out.below (w' := (w.alloc (.cells #[.pointer (some ⟨E, 0, none⟩)] 64)).alloc (.cells #[.int .u8 nx] 117)) (by go_grown)
  refine leaves_cons (f := 136) (args := #[.pointer (some ⟨w.heap.size + 1, 0, none⟩), .pointer (some ⟨w.heap.size, 0, none⟩)]) (by simp) (by simp [go_sem]) ?_
  refine (next_done w.heap.size (w.heap.size + 1) E nx (.int .u8 (0 : Nat)) .returning _ (by simp) (by simp) hI.last hI.f1).mono ?_
  rintro e u' w2 ⟨rfl, rfl, rfl⟩
  simp [Leaves, settle, results, Tryz.results104, go_sem]
  exact ⟨hI.setLast nx, (((Below.refl E w).alloc (Nat.le_of_lt hE) _).alloc (by simp; omega) _).setCell (p := ⟨E, 1, none⟩) (Nat.le_refl E) _⟩

theorem IsEnc.setOut {w : World} {E B lk : Nat} {v v' : Value} {g' : List UInt8} (ind : w.cell? ⟨E, 0, none⟩ = some (.string ⟨#[]⟩)) (last : w.cell? ⟨E, 1, none⟩ = some (.int .u8 lk)) (out : w.cell? ⟨E, 3, none⟩ = some v)
    (f1 : w.frozen? ⟨E, 1, none⟩ = false) (f3 : w.frozen? ⟨E, 3, none⟩ = false) (own : OwnB w B v' g') (lt : E < B) (le : B ≤ w.heap.size) : IsEnc (w.setCell ⟨E, 3, none⟩ v') E B lk v' g' := by
  refine ⟨?_, ?_, World.cell?_setCell_same w _ _ out, by simpa using f1, by simpa using f3, own_setCell own lt _, lt, by simpa using le⟩
  · rw [World.cell?_setCell_other w _ _ _ (by simp)]; exact ind
  · rw [World.cell?_setCell_other w _ _ _ (by simp)]; exact last

theorem own_form {w : World} {B : Nat} {v : Value} {g : List UInt8} (h : OwnB w B v g) : ∃ a n c, v = .slice a n c := by
  rcases h.2 with ⟨rfl, _⟩ | ⟨gb, cap, cur, rfl, _⟩
  · exact ⟨_, _, _, rfl⟩
  · exact ⟨_, _, _, rfl⟩

def WSays (w : World) (E B : Nat) (l g : List UInt8) (e : Ending) (w' : World) : Prop :=
  (Lib.validD l = true ∧ e = .returned .nilIface ∧ (∃ v', IsEnc w' E B 2 v' (g ++ 34 :: enc l ++ [34])) ∧ Below E w w') ∨
  (Lib.validD l = false ∧ (∃ T p, e = .returned (.iface T p)) ∧ Below E w w')

set_option maxHeartbeats 4000000 in
set_option maxRecDepth 100000 in
theorem write_string (s : ByteArray) (w : World) (E B : Nat) (v : Value) (g : List UInt8) (h : IsEnc w E B 0 v g) (EB : ∀ w', Below E w w' → EncEnv w') (hlen : g.length + 6 * s.size + 2 ≤ 140737488355328) :
    Calls Tryz.prog 53 #[.pointer (some ⟨E, 0, none⟩), .string s] w fun e w' => WSays w E B s.data.toList g e w' := by
  have HP := Lib.hid (prepare_first w E B 2 v g h)
  have HB := Lib.hid (And.intro h.lt h.le)
  have HE := Lib.hid EB
  obtain ⟨l, hl⟩ : ∃ l, l = s.data.toList := ⟨_, rfl⟩
  have HA := Lib.hid (fun w1 (hi : IsEnc w1 E B 2 v g) (hb : Below E w w1) => append_string s v g B w1 hi.le hi.own hlen (fun w' hw' => EB w' (hb.trans (hw'.mono (Nat.le_of_lt hi.lt)))))
  rw [← hl] at HA ⊢
  clear h EB hlen hl
  go_enter Tryz.func53, Tryz.ntmps53
  go_wp2_with fail
  refine HP.out.mono ?_
  rintro e w1 ⟨rfl, hi, hb⟩
  have hc3 := hi.out
  have HI := Lib.hid hi
  have HB1 := Lib.hid hb
  clear hi hb
  go_wp2_with fail
  refine (HA.out w1 HI.out HB1.out).mono ?_
  rintro e w2 (⟨hv, v', rfl, hown, hb⟩ | ⟨hv, v', T, p, g', rfl, hown, hb⟩)
  · obtain ⟨va, vn, vc, rfl⟩ := own_form hown
    have k0 := (hb.cell (p := ⟨E, 0, none⟩) HB.out.1).trans HI.out.ind
    have k1 := (hb.cell (p := ⟨E, 1, none⟩) HB.out.1).trans HI.out.last
    have k3 := (hb.cell (p := ⟨E, 3, none⟩) HB.out.1).trans HI.out.out
    have f1 := (hb.frozen (p := ⟨E, 1, none⟩) HB.out.1).trans HI.out.f1
    have f3 := (hb.frozen (p := ⟨E, 3, none⟩) HB.out.1).trans HI.out.f3
    have HK := Lib.hid (IsEnc.setOut k0 k1 k3 f1 f3 hown HB.out.1 (Nat.le_trans HI.out.le hb.size))
    have HW := Lib.hid (HB1.out.trans (hb.mono (Nat.le_of_lt HB.out.1)))
    have HV := Lib.hid hv
    clear hb hown hv k0 k1 f1
    go_wp2_with fail
    go_ret
    exact .inl ⟨HV.out, rfl, ⟨_, HK.out⟩, HW.out.setCell (Nat.le_refl _) _⟩
  · obtain ⟨va, vn, vc, rfl⟩ := own_form hown
    have k3 := (hb.cell (p := ⟨E, 3, none⟩) HB.out.1).trans HI.out.out
    have f3 := (hb.frozen (p := ⟨E, 3, none⟩) HB.out.1).trans HI.out.f3
    have HW := Lib.hid (HB1.out.trans (hb.mono (Nat.le_of_lt HB.out.1)))
    have HV := Lib.hid hv
    clear hb hown hv
    go_wp2_with fail
    go_ret
    exact .inr ⟨HV.out, ⟨_, _, rfl⟩, HW.out.setCell (Nat.le_refl _) _⟩

set_option maxHeartbeats 4000000 in
set_option maxRecDepth 100000 in
theorem new_encoder (w : World) :
    Calls Tryz.prog 27 #[.slice none 0 0, .string ⟨#[]⟩] w fun e w' => e = .returned (.tuple #[.pointer (some ⟨w.heap.size, 0, none⟩), .nilIface]) ∧ IsEnc w' w.heap.size (w.heap.size + 1) 0 (.slice none 0 0) [] ∧ Below w.heap.size w w' := by
  go_enter Tryz.func27, Tryz.ntmps27
  go_wp2
  go_ret2
  refine ⟨rfl, ⟨by simp, by simp, by simp, by simp [go_sem], by simp [go_sem], World.ownsRow_nil _ _ _ _, by omega, by simp⟩, by go_grown⟩

end Go.Proofs.YtonfdfikgnhheaaGreatDoor.js
