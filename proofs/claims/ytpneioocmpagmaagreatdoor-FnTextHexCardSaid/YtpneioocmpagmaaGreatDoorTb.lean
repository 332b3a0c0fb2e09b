/- The text form's reader: consume, at blanks and remarks. -/
import Derived.Test.YtpneioocmpagmaaGreatDoorTk
import Derived.Lib.BytesEntry
import Derived.Laws.Externs
namespace Go.Proofs.YtpneioocmpagmaaGreatDoor.tx
open Go.RowKit
set_option linter.unusedVariables false
set_option linter.unusedSimpArgs false

def lenV : Value → Nat
  | .slice _ n _ => n
  | _ => 0

theorem index_first : ∀ (l : List UInt8) (i : Nat), i < l.length → (l.getD i 0).toNat = 10 → (∀ j, j < i → (l.getD j 0).toNat ≠ 10) → Lib.indexByte l 10 = i
  | [], i, h, _, _ => by simp at h
  | c :: l, 0, _, h1, _ => by
    have : c = 10 := UInt8.toNat_inj.1 (by simpa using h1)
    subst this
    rfl
  | c :: l, i + 1, h, h1, h2 => by
    have hc : ¬ c = 10 := fun e => by
      have := h2 0 (by omega)
      subst e
      exact this rfl
    have ih := index_first l i (by simpa using h) (by simpa using h1) (fun j hj => by simpa using h2 (j + 1) (by omega))
    unfold Lib.indexByte
    rw [if_neg (by simpa using hc), ih, if_neg (by simp)]
    omega

theorem bytesOf_row (l : List UInt8) : Lib.bytesOf (l.map fun b => (b.toNat : Int)) = l := by
  unfold Lib.bytesOf
  simp [List.map_map, Function.comp_def]

set_option maxHeartbeats 1000000 in
theorem index_byte {w : World} (b o c i : Nat) (m : List UInt8) (hr : RowM w b o m) (hi : i < m.length) (h1 : (m.getD i 0).toNat = 10) (h2 : ∀ j, j < i → (m.getD j 0).toNat ≠ 10) :
    Calls Tryz.prog 130 #[.slice (some ⟨b, o, none⟩) m.length c, .int .u8 10] w fun e w' => e = .returned (.int .i64 i) ∧ w = w' := by
  have hx : (callFunc 161 #[.slice (some ⟨b, o, none⟩) m.length c, .int .u8 10]).run Tryz.prog w = .ok (.value (.int .i64 i)) w := by
    rw [run_callFunc_extern (e := Extern.BytealgIndexByte.indexByte) Tryz.func161 (by kernel_rfl) (by kernel_rfl) (by kernel_rfl) (by kernel_rfl)]
    have := Lib.run_indexByteSlice (P := Tryz.prog) (w := w) b o m.length c (m.map fun b => (b.toNat : Int)) (by simp) (fun j hj => by
      rw [hr j hj]
      simp [List.getD_eq_getElem?_getD, List.getElem?_eq_getElem hj]) 10
    rw [bytesOf_row, show (10 : Int).toNat.toUInt8 = 10 from rfl, index_first m i hi h1 h2] at this
    simp only [Sem.run_bind, this, Result.andThen_ok]
  clear hr h1 h2
  go_enter Tryz.func130, Tryz.ntmps130
  go_wp2_with fail
  go_ret
  exact ⟨rfl, rfl⟩

theorem row_cut {w : World} {b k : Nat} {T : List UInt8} (h : RowM w b 0 T) : RowM w b k (T.drop k) := row_drop h rfl

theorem sk_le {T : List UInt8} {k p : Nat} (h : Sk T k p) (hk : k ≤ T.length) : k ≤ p ∧ p ≤ T.length := by
  induction h with
  | stop k _ => exact ⟨Nat.le_refl _, hk⟩
  | blank k p hlt _ _ ih => have := ih (by omega); omega
  | remark k i p hlt _ _ _ _ ih => have := ih (by omega); omega

set_option maxHeartbeats 8000000 in
set_option maxRecDepth 100000 in
theorem tconsume (b L cap pos off n c k p : Nat) (T : List UInt8) (hT : T.length = L) (hk : k ≤ n) (hL : L ≤ cap) (hcap : cap ≤ 9223372036854775807) (hv : InAt b L cap pos off n c) (w : World)
    (hr : RowM w b 0 T) (hsk : Sk T (pos + k) p) :
    Calls Tryz.prog 100 #[.slice (some ⟨b, off, none⟩) n c, .int .i64 k] w fun e w' => (∃ off' n' c', InAt b L cap p off' n' c' ∧ e = .returned (.slice (some ⟨b, off', none⟩) n' c')) ∧ w = w' := by
  have HR := Lib.hid hr
  have HTL := Lib.hid hT
  have HVV := Lib.hid hv
  have HS := Lib.hid hsk
  obtain ⟨v1, v2, v3, v4⟩ := hv
  have HV4 := Lib.hid v4
  clear hr hT v4 hsk
  have t1 : (k : Int) ≤ (n : Int) := by omega
  have t2 : (0 : Int) ≤ (k : Int) := by omega
  have t3 : (k : Int) ≤ (c : Int) := by omega
  have hcases : (c = k ∧ n = k) ∨ ¬ c = k := by omega
  rcases hcases with ⟨rfl, rfl⟩ | hck
  all_goals
    go_enter Tryz.func100, Tryz.ntmps100
    go_wp2_with fail
    go_loop [0] (fun v => ∃ pos' off' n' c' : Nat, InAt b L cap pos' off' n' c' ∧ Sk T pos' p ∧ v = .slice (some ⟨b, off', none⟩) n' c') (fun v => lenV v)
    case atStart => first | exact ⟨_, _, _, _, inAt_end HVV.out (Nat.le_refl _) rfl, HS.out, rfl⟩ | exact ⟨_, _, _, _, inAt_cut HVV.out hk hL, HS.out, rfl⟩
    case round =>
      obtain ⟨pos', off', n', c', hin, hsk, rfl⟩ := hrel
      have HIN := Lib.hid hin
      clear hin
      by_cases hn : 0 < n'
      · obtain ⟨i1, i2, i3, i4⟩ := HIN.out
        obtain ⟨rfl, hc'⟩ := i4 hn
        have hlt : off' < T.length := by have := HTL.out; omega
        have hcell : w.cell? ⟨b, off', none⟩ = some (.int .u8 ((T.getD off' 0).toNat : Int)) := by have := HR.out off' hlt; rw [Nat.zero_add] at this; exact this
        obtain ⟨x, hx⟩ : ∃ x, x = (T.getD off' 0).toNat := ⟨_, rfl⟩
        rw [← hx] at hcell
        have s0 : (0 : Int) < (n' : Int) := by omega
        have s1 : (1 : Int) ≤ (n' : Int) := by omega
        have s2 : (1 : Int) ≤ (c' : Int) := by omega
        have HI1 := Lib.hid (And.intro i1 (And.intro i2 (And.intro hc' hlt)))
        clear i1 i2 i3 i4 hc' hlt
        cases hsk with
        | stop _ hst =>
          have hst' := hst HI1.out.2.2.2
          rw [← hx] at hst'
          have x5 : ((x : Int) == 35) = false := by rw [beq_eq_false_iff_ne]; omega
          rcases ws_cases x with ⟨hws, _⟩ | ⟨_, x1, x2, x3, x4⟩
          · rw [hws] at hst'; cases hst'.1
          · clear hst hst' hx
            go_wp2_with fail
            go_ret
            exact ⟨⟨_, _, _, HIN.out, rfl⟩, rfl⟩
        | blank _ _ hl hws hnx =>
          rw [← hx] at hws
          have HNX := Lib.hid hnx
          clear hnx hl
          rcases ws_cases x with ⟨_, hxs⟩ | ⟨hws', _⟩
          · clear hws hx
            by_cases hc1 : c' = 1
            · obtain rfl : n' = 1 := by have := HI1.out; omega
              subst hc1
              clear s0 s1 s2 hn
              rcases hxs with rfl | rfl | rfl | rfl
              all_goals
                go_wp2_with fail
                go_round
                case rel => exact ⟨_, _, _, _, inAt_end HIN.out (Nat.le_refl _) rfl, HNX.out, rfl⟩
                case measure => simp [lenV]
            · rcases hxs with rfl | rfl | rfl | rfl
              all_goals
                go_wp2_with fail
                go_round
                case rel => exact ⟨_, _, _, _, inAt_cut HIN.out (by omega : 1 ≤ n') hL, HNX.out, rfl⟩
                case measure => simp [lenV]; omega
          · rw [hws'] at hws; cases hws
        | remark _ i _ hl h35 h10 hall hnx =>
          rw [← hx] at h35
          subst h35
          have HNX := Lib.hid hnx
          have HX : Hid (Calls Tryz.prog 130 #[.slice (some ⟨b, off', none⟩) n' c', .int .u8 10] w fun e w' => e = .returned (.int .i64 i) ∧ w = w') := Lib.hid (by
            have := index_byte (w := w) b off' c' i (T.drop off') (row_cut HR.out) (by rw [List.length_drop]; omega) (by rw [getD_drop]; exact h10) (fun j hj => by rw [getD_drop]; exact hall j hj)
            rw [List.length_drop, show T.length - off' = n' from by have := HTL.out; have := HI1.out.1; omega] at this
            exact this)
          have hin1 : i + 1 ≤ n' := by have := HTL.out; have := HI1.out.1; omega
          have u1 : (i : Int) + 1 ≤ (n' : Int) := by omega
          have u2 : (i : Int) + 1 ≤ (c' : Int) := by have := HI1.out; omega
          have u3 : (0 : Int) ≤ (i : Int) + 1 := by omega
          have u4 : (0 : Int) ≤ (i : Int) := by omega
          have uw : IntKind.i64.wrap ((i : Int) + 1) = ((i + 1 : Nat) : Int) := by rw [IntKind.wrap_i64]; have := HI1.out; omega
          have HIN1 := Lib.hid hin1
          clear hnx h10 hall hl hx hin1
          by_cases hc1 : c' = i + 1
          · obtain rfl : n' = i + 1 := by have := HI1.out; have := HIN1.out; omega
            subst hc1
            go_wp2_with ((with_reducible refine HX.out.mono ?_); rintro e w' ⟨rfl, rfl⟩)
            go_round
            case rel => exact ⟨_, _, _, _, inAt_end HIN.out (Nat.le_refl _) rfl, HNX.out, rfl⟩
            case measure => simp [lenV]
          · go_wp2_with ((with_reducible refine HX.out.mono ?_); rintro e w' ⟨rfl, rfl⟩)
            go_round
            case rel => exact ⟨_, _, _, _, inAt_cut HIN.out HIN1.out hL, HNX.out, rfl⟩
            case measure => simp [lenV]; omega
      · obtain rfl : n' = 0 := by omega
        have hpp : p = pos' := by
          have := HIN.out.1
          have := HTL.out
          cases hsk with
          | stop => rfl
          | blank _ _ hl _ _ => omega
          | remark _ _ _ hl _ _ _ _ => omega
        subst hpp
        clear hsk
        go_wp2_with fail
        go_ret
        exact ⟨⟨_, _, _, HIN.out, rfl⟩, rfl⟩

end Go.Proofs.YtpneioocmpagmaaGreatDoor.tx

