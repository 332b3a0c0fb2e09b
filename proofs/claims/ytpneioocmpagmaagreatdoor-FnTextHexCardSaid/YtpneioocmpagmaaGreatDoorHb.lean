/- The text form's reader: parseNumber at a number of base 16 or 8 that ends the text. -/
import Derived.Test.YtpneioocmpagmaaGreatDoorTn
import Derived.Test.YtpneioocmpagmaaGreatDoorNum
import Derived.Test.YtpneioocmpagmaaGreatDoorTo
import Derived.Deep.RegionWith
import Derived.Test.YtpneioocmpagmaaGreatDoorTq
import Derived.Test.YtpneioocmpagmaaGreatDoorTy
namespace Go.Proofs.YtpneioocmpagmaaGreatDoor.tx
open Go.RowKit Go.Proofs.YtpneioocmpagmaaGreatDoor.hx
set_option linter.unusedVariables false
set_option linter.unusedSimpArgs false

/-- The text from p to its end is a number of base 16 (kd 1) or 8 (kd 2). -/
structure BasedAt (T : List UInt8) (L p kd : Nat) : Prop where
  first : (T.getD p 0).toNat = 48
  lt2 : p + 1 < L
  rest : (kd = 1 ∧ (T.getD (p + 1) 0).toNat = 120 ∧ p + 2 < L ∧ ∀ j, p + 2 ≤ j → j < L → Hx (T.getD j 0).toNat) ∨ (kd = 2 ∧ ∀ j, p + 1 ≤ j → j < L → 48 ≤ (T.getD j 0).toNat ∧ (T.getD j 0).toNat ≤ 55)

theorem BasedAt.lt {T : List UInt8} {L p kd : Nat} (h : BasedAt T L p kd) : p < L := by have := h.lt2; omega

set_option maxHeartbeats 40000000 in
set_option maxRecDepth 100000 in
theorem num_hex (b L cap p0 off n c : Nat) (T : List UInt8) (hT : T.length = L) (hL : L ≤ cap) (hcap : cap ≤ 9223372036854775807) (hL47 : L ≤ 140737488355000) (hin : InAt b L cap p0 off n c)
    (h0 : (T.getD p0 0).toNat = 48) (h1 : (T.getD (p0 + 1) 0).toNat = 120) (h2 : p0 + 2 < L) (hd : ∀ j, p0 + 2 ≤ j → j < L → Hx (T.getD j 0).toNat) (w : World) (hr : RowM w b 0 T) :
    Calls Tryz.prog 105 #[.slice (some ⟨b, off, none⟩) n c] w fun e w' => e = .returned (numV 1 false (L - p0)) ∧ Below w.heap.size w w' := by
  obtain ⟨i1, i2, i3, i4⟩ := id hin
  obtain ⟨rfl, hc'⟩ := i4 (by omega)
  have hx := cell_at hT hr (p := off) (by omega)
  have hx1 := cell_at hT hr (p := off + 1) (by omega)
  rw [h0] at hx
  rw [h1] at hx1
  have HRW := Lib.hid (fun p (hp : p < L) => cell_at hT hr hp)
  have s0 : ((n : Int) == 0) = false := by rw [beq_eq_false_iff_ne]; omega
  have s1 : (0 : Int) < (n : Int) := by omega
  have s2 : (1 : Int) < (n : Int) := by omega
  have s3 : (2 : Int) ≤ (c : Int) := by omega
  have s4 : (1 : Int) ≤ (c : Int) := by omega
  have s5 : (2 : Int) ≤ (n : Int) := by omega
  have hc2 : ¬ c = 2 := by omega
  have hbl : b < w.heap.size := cell_lt hx
  have hbn : ¬ b = w.heap.size := by omega
  have b1 : bits .and .u8 1 3 = 1 := by decide
  have e45 : (((48 : Nat) : Int) == 45) = false := rfl
  have e48 : (((48 : Nat) : Int) == 48) = true := rfl
  have e120 : (((120 : Nat) : Int) == 120) = true := rfl
  have HIN2 := Lib.hid (inAt_cut hin (show 2 ≤ n by omega) hL)
  have HD := Lib.hid hd
  have HLL := Lib.hid (And.intro hL h2)
  clear hd hT hr hin hc' i1 i2 i3 i4 h0 h1 h2
  go_enter Tryz.func105, Tryz.ntmps105
  go_wp2_with fail
  go_loop [9, 6] (fun v9 v6 => ∃ k : Nat, 2 ≤ k ∧ AlongD b L cap off k v9 v6) (fun _ v6 => lenV v6)
  case atStart => exact ⟨2, Nat.le_refl _, _, _, _, HIN2.out, rfl, rfl⟩
  case round =>
    obtain ⟨k, hk2, o3, n3, c3, hin3, rfl, rfl⟩ := hrel
    have HIN := Lib.hid hin3
    have hk47 : (k : Int) ≤ 140737488355000 := by have := hin3.1; omega
    have hk0 : (0 : Int) ≤ (k : Int) := by omega
    by_cases hn : 0 < n3
    · obtain ⟨rfl, hcc⟩ := hin3.2.2.2 hn
      have h1 := hin3.1
      have h2 := hin3.2.1
      have hz := HRW.out (off + k) (by omega)
      have hdd := HD.out (off + k) (by omega) (by omega)
      obtain ⟨z, hzz⟩ : ∃ z, z = (T.getD (off + k) 0).toNat := ⟨_, rfl⟩
      rw [← hzz] at hz hdd
      have t1 : (0 : Int) < (n3 : Int) := by omega
      have t2 : (1 : Int) ≤ (n3 : Int) := by omega
      have t3 : (1 : Int) ≤ (c3 : Int) := by omega
      have HNX : Hid ((c3 = 1 → n3 = 1 ∧ InAt b L cap (off + (k + 1)) (off + k) 0 0) ∧ (¬ c3 = 1 → InAt b L cap (off + (k + 1)) (off + k + 1) (n3 - 1) (c3 - 1))) := Lib.hid ⟨fun h => by
        have hn1 : n3 = 1 := by omega
        subst hn1
        exact ⟨rfl, inAt_end (pos := off + k) (k := 1) HIN.out (Nat.le_refl _) h⟩, fun h => inAt_cut (pos := off + k) (k := 1) HIN.out (show 1 ≤ n3 by omega) HLL.out.1⟩
      have e1 : (48 : Int) ≤ (z : Int) := by unfold Hx at hdd; omega
      have HK2 : Hid (2 ≤ k + 1) := Lib.hid (by omega)
      rcases hdd with ⟨g0, g1⟩ | ⟨g0, g1⟩ | ⟨g0, g1⟩
      · have e2 : (z : Int) ≤ 57 := by omega
        clear hin3 hzz hcc h1 h2 hn g0 g1
        by_cases hc3 : c3 = 1
        · obtain ⟨rfl, hnx⟩ := HNX.out.1 hc3
          have HX := Lib.hid hnx
          subst hc3
          clear hnx t1 t2 t3
          go_wp2_with fail
          go_round
          case rel => exact ⟨k + 1, HK2.out, _, _, _, HX.out, by go_num, rfl⟩
          case measure => simp [lenV]
        · have HX := Lib.hid (HNX.out.2 hc3)
          go_wp2_with fail
          go_round
          case rel => exact ⟨k + 1, HK2.out, _, _, _, HX.out, by go_num, rfl⟩
          case measure => simp [lenV]; omega
      · have e2 : ¬ (z : Int) ≤ 57 := by omega
        have e3 : (97 : Int) ≤ (z : Int) := by omega
        have e4 : (z : Int) ≤ 102 := by omega
        clear hin3 hzz hcc h1 h2 hn g0 g1
        by_cases hc3 : c3 = 1
        · obtain ⟨rfl, hnx⟩ := HNX.out.1 hc3
          have HX := Lib.hid hnx
          subst hc3
          clear hnx t1 t2 t3
          go_wp2_with fail
          go_round
          case rel => exact ⟨k + 1, HK2.out, _, _, _, HX.out, by go_num, rfl⟩
          case measure => simp [lenV]
        · have HX := Lib.hid (HNX.out.2 hc3)
          go_wp2_with fail
          go_round
          case rel => exact ⟨k + 1, HK2.out, _, _, _, HX.out, by go_num, rfl⟩
          case measure => simp [lenV]; omega
      · have e2 : ¬ (z : Int) ≤ 57 := by omega
        have e3 : ¬ (97 : Int) ≤ (z : Int) := by omega
        have e4 : (65 : Int) ≤ (z : Int) := by omega
        have e5 : (z : Int) ≤ 70 := by omega
        clear hin3 hzz hcc h1 h2 hn g0 g1
        by_cases hc3 : c3 = 1
        · obtain ⟨rfl, hnx⟩ := HNX.out.1 hc3
          have HX := Lib.hid hnx
          subst hc3
          clear hnx t1 t2 t3
          go_wp2_with fail
          go_round
          case rel => exact ⟨k + 1, HK2.out, _, _, _, HX.out, by go_num, rfl⟩
          case measure => simp [lenV]
        · have HX := Lib.hid (HNX.out.2 hc3)
          go_wp2_with fail
          go_round
          case rel => exact ⟨k + 1, HK2.out, _, _, _, HX.out, by go_num, rfl⟩
          case measure => simp [lenV]; omega
    · obtain rfl : n3 = 0 := by omega
      have hkL : off + k = L := hin3.1
      have HSZ : Hid ((k : Int) = ((L - off : Nat) : Int)) := Lib.hid (by omega)
      have k2 : ((k : Int) == 2) = false := by rw [beq_eq_false_iff_ne]; have := HLL.out.2; omega
      clear hin3 hn hkL
      go_wp2_with fail
      refine bodyPost_ret (v := numV 1 false (L - off)) (by have := HSZ.out; simp [results, Tryz.results105, go_sem, numV]; omega) rfl ⟨rfl, by go_grown⟩

set_option maxHeartbeats 40000000 in
set_option maxRecDepth 100000 in
theorem num_oct (b L cap p0 off n c : Nat) (T : List UInt8) (hT : T.length = L) (hL : L ≤ cap) (hcap : cap ≤ 9223372036854775807) (hL47 : L ≤ 140737488355000) (hin : InAt b L cap p0 off n c)
    (h0 : (T.getD p0 0).toNat = 48) (h2 : p0 + 1 < L) (hd : ∀ j, p0 + 1 ≤ j → j < L → 48 ≤ (T.getD j 0).toNat ∧ (T.getD j 0).toNat ≤ 55) (w : World) (hr : RowM w b 0 T) :
    Calls Tryz.prog 105 #[.slice (some ⟨b, off, none⟩) n c] w fun e w' => e = .returned (numV 2 false (L - p0)) ∧ Below w.heap.size w w' := by
  obtain ⟨i1, i2, i3, i4⟩ := id hin
  obtain ⟨rfl, hc'⟩ := i4 (by omega)
  have hx := cell_at hT hr (p := off) (by omega)
  have hx1 := cell_at hT hr (p := off + 1) (by omega)
  rw [h0] at hx
  have h1 := hd (off + 1) (Nat.le_refl _) h2
  obtain ⟨y, hyy⟩ : ∃ y, y = (T.getD (off + 1) 0).toNat := ⟨_, rfl⟩
  rw [← hyy] at hx1 h1
  have HRW := Lib.hid (fun p (hp : p < L) => cell_at hT hr hp)
  have s0 : ((n : Int) == 0) = false := by rw [beq_eq_false_iff_ne]; omega
  have s1 : (0 : Int) < (n : Int) := by omega
  have s2 : (1 : Int) < (n : Int) := by omega
  have s3 : (2 : Int) ≤ (c : Int) := by omega
  have s4 : (1 : Int) ≤ (c : Int) := by omega
  have s5 : (2 : Int) ≤ (n : Int) := by omega
  have hbl : b < w.heap.size := cell_lt hx
  have hbn : ¬ b = w.heap.size := by omega
  have b1 : bits .and .u8 2 3 = 2 := by decide
  have e45 : (((48 : Nat) : Int) == 45) = false := rfl
  have e48 : (((48 : Nat) : Int) == 48) = true := rfl
  have e120 : ((y : Int) == 120) = false := by rw [beq_eq_false_iff_ne]; omega
  have e88 : ((y : Int) == 88) = false := by rw [beq_eq_false_iff_ne]; omega
  have y0 : (48 : Int) ≤ (y : Int) := by omega
  have y1 : (y : Int) ≤ 55 := by omega
  have HNC : Hid ((c = 2 → InAt b L cap (off + 2) off 0 0 ∧ n = 2) ∧ (¬ c = 2 → InAt b L cap (off + 2) (off + 2) (n - 2) (c - 2))) := Lib.hid ⟨fun h => by
    have hn2 : n = 2 := by omega
    subst hn2
    exact ⟨inAt_end (pos := off) (k := 2) hin (Nat.le_refl _) h, rfl⟩, fun h => inAt_cut (pos := off) (k := 2) hin (show 2 ≤ n by omega) hL⟩
  have HD := Lib.hid hd
  have HLL := Lib.hid (And.intro hL h2)
  clear hd hT hr hin hc' i1 i2 i3 i4 h0 h1 h2 hyy
  by_cases hc2 : c = 2
  · obtain ⟨HI2, rfl⟩ := HNC.out.1 hc2
    have HIN2 := Lib.hid HI2
    subst hc2
    clear HI2
    go_enter Tryz.func105, Tryz.ntmps105
    go_wp2_with fail
    go_loop [10, 6] (fun v10 v6 => ∃ k : Nat, 2 ≤ k ∧ AlongD b L cap off k v10 v6) (fun _ v6 => lenV v6)
    case atStart => exact ⟨2, Nat.le_refl _, _, _, _, HIN2.out, rfl, rfl⟩
    case round =>
      obtain ⟨k, hk2, o3, n3, c3, hin3, rfl, rfl⟩ := hrel
      have hkL : off + k + n3 = L := hin3.1
      have hk47 : (k : Int) ≤ 140737488355000 := by omega
      have hk0 : (0 : Int) ≤ (k : Int) := by omega
      have hL2 : L = off + 2 := by have := HIN2.out.1; omega
      obtain rfl : n3 = 0 := by omega
      have HSZ : Hid ((k : Int) = ((L - off : Nat) : Int)) := Lib.hid (by omega)
      clear hin3 hkL hL2
      go_wp2_with fail
      refine bodyPost_ret (v := numV 2 false (L - off)) (by have := HSZ.out; simp [results, Tryz.results105, go_sem, numV]; omega) rfl ⟨rfl, by go_grown⟩
  · have HIN2 := Lib.hid (HNC.out.2 hc2)
    go_enter Tryz.func105, Tryz.ntmps105
    go_wp2_with fail
    go_loop [10, 6] (fun v10 v6 => ∃ k : Nat, 2 ≤ k ∧ AlongD b L cap off k v10 v6) (fun _ v6 => lenV v6)
    case atStart => exact ⟨2, Nat.le_refl _, _, _, _, HIN2.out, rfl, rfl⟩
    case round =>
      obtain ⟨k, hk2, o3, n3, c3, hin3, rfl, rfl⟩ := hrel
      have HIN := Lib.hid hin3
      have hk47 : (k : Int) ≤ 140737488355000 := by have := hin3.1; omega
      have hk0 : (0 : Int) ≤ (k : Int) := by omega
      by_cases hn : 0 < n3
      · obtain ⟨rfl, hcc⟩ := hin3.2.2.2 hn
        have h1 := hin3.1
        have h2 := hin3.2.1
        have hz := HRW.out (off + k) (by omega)
        have hdd := HD.out (off + k) (by omega) (by omega)
        obtain ⟨z, hzz⟩ : ∃ z, z = (T.getD (off + k) 0).toNat := ⟨_, rfl⟩
        rw [← hzz] at hz hdd
        have e1 : (48 : Int) ≤ (z : Int) := by omega
        have e2 : (z : Int) ≤ 55 := by omega
        have t1 : (0 : Int) < (n3 : Int) := by omega
        have t2 : (1 : Int) ≤ (n3 : Int) := by omega
        have t3 : (1 : Int) ≤ (c3 : Int) := by omega
        have HK2 : Hid (2 ≤ k + 1) := Lib.hid (by omega)
        have HNX : Hid ((c3 = 1 → n3 = 1 ∧ InAt b L cap (off + (k + 1)) (off + k) 0 0) ∧ (¬ c3 = 1 → InAt b L cap (off + (k + 1)) (off + k + 1) (n3 - 1) (c3 - 1))) := Lib.hid ⟨fun h => by
          have hn1 : n3 = 1 := by omega
          subst hn1
          exact ⟨rfl, inAt_end (pos := off + k) (k := 1) HIN.out (Nat.le_refl _) h⟩, fun h => inAt_cut (pos := off + k) (k := 1) HIN.out (show 1 ≤ n3 by omega) HLL.out.1⟩
        clear hin3 hzz hcc h1 h2 hdd hn
        by_cases hc3 : c3 = 1
        · obtain ⟨rfl, hnx⟩ := HNX.out.1 hc3
          have HX := Lib.hid hnx
          subst hc3
          clear hnx t1 t2 t3
          go_wp2_with fail
          go_round
          case rel => exact ⟨k + 1, HK2.out, _, _, _, HX.out, by go_num, rfl⟩
          case measure => simp [lenV]
        · have HX := Lib.hid (HNX.out.2 hc3)
          go_wp2_with fail
          go_round
          case rel => exact ⟨k + 1, HK2.out, _, _, _, HX.out, by go_num, rfl⟩
          case measure => simp [lenV]; omega
      · obtain rfl : n3 = 0 := by omega
        have hkL : off + k = L := hin3.1
        have HSZ : Hid ((k : Int) = ((L - off : Nat) : Int)) := Lib.hid (by omega)
        clear hin3 hn hkL
        go_wp2_with fail
        refine bodyPost_ret (v := numV 2 false (L - off)) (by have := HSZ.out; simp [results, Tryz.results105, go_sem, numV]; omega) rfl ⟨rfl, by go_grown⟩

theorem num_based (b L cap p0 off n c kd : Nat) (T : List UInt8) (hT : T.length = L) (hL : L ≤ cap) (hcap : cap ≤ 9223372036854775807) (hL47 : L ≤ 140737488355000) (hin : InAt b L cap p0 off n c) (hi : BasedAt T L p0 kd) (w : World) (hr : RowM w b 0 T) :
    Calls Tryz.prog 105 #[.slice (some ⟨b, off, none⟩) n c] w fun e w' => e = .returned (numV kd false (L - p0)) ∧ Below w.heap.size w w' := by
  rcases hi.rest with ⟨rfl, h1, h2, hd⟩ | ⟨rfl, hd⟩
  · exact num_hex b L cap p0 off n c T hT hL hcap hL47 hin hi.first h1 h2 hd w hr
  · exact num_oct b L cap p0 off n c T hT hL hcap hL47 hin hi.first hi.lt2 hd w hr

end Go.Proofs.YtpneioocmpagmaaGreatDoor.tx

/- The text form's reader: number.string and parseNumberValue at a number of base 16 or 8. -/
namespace Go.Proofs.YtpneioocmpagmaaGreatDoor.tx
open Go.RowKit Go.Proofs.YtpneioocmpagmaaGreatDoor.hx
set_option linter.unusedVariables false
set_option linter.unusedSimpArgs false

set_option maxHeartbeats 8000000 in
set_option maxRecDepth 100000 in
theorem num_string_k (b L cap pos off n c size : Nat) (kd : Nat) (hkd : kd < 4) (T : List UInt8) (hT : T.length = L) (hL : L ≤ cap) (hcap : cap ≤ 9223372036854775807) (hL47 : L ≤ 140737488355000) (hin : InAt b L cap pos off n c) (hs : 1 ≤ size) (hk : pos + size ≤ L) (w : World) (hr : RowM w b 0 T) :
    Calls Tryz.prog 106 #[numV kd false size, .slice (some ⟨b, off, none⟩) n c] w fun e w' => e = .returned (.string ⟨(part T pos size).toArray⟩) ∧ Below w.heap.size w w' := by
  obtain ⟨i1, i2, i3, i4⟩ := id hin
  obtain ⟨rfl, hc'⟩ := i4 (by omega)
  have hb : b < w.heap.size := cell_lt (cell_at hT hr (p := off) (by omega))
  have CV := fun (W : World) (c : Nat) (hW : Below w.heap.size w W) => conv_row (w := W) (b := b) (o := off) (c := c) (tx := part T off size) (part_row (hr.below hW hb) (by omega))
  rw [part_len (by omega)] at CV
  have t1 : (size : Int) ≤ (c : Int) := by omega
  have t2 : (0 : Int) ≤ (size : Int) := by omega
  have t3 : (size : Int) ≤ 140737488355000 := by omega
  have cv := CV (w.alloc (.cells #[.int .u8 kd, .bool false, .int .i64 size, .int .i64 0] 166)) c ((Below.refl _ _).alloc (Nat.le_refl _) _)
  obtain ⟨x, hx⟩ : ∃ x : ByteArray, x = ⟨(part T off size).toArray⟩ := ⟨_, rfl⟩
  rw [← hx] at cv ⊢
  clear CV hr hin i1 i2 i3 i4 hT hc' hx hs hk hL hcap hL47 hb
  unfold numV
  go_enter Tryz.func106, Tryz.ntmps106
  have k4 : ((kd : Int) == 4) = false := by rw [beq_eq_false_iff_ne]; omega
  go_wp2_with fail
  go_ret
  exact ⟨rfl, by go_grown⟩

set_option maxHeartbeats 8000000 in
set_option maxRecDepth 100000 in
theorem number_value_k (q b L cap oo oc : Nat) (T : List UInt8) (hx : Cx q b L cap T) (t : Tok) (sv : Value) (pos kd : Nat) (hkd : kd < 4) (hi : BasedAt T L pos kd) (w : World) (hs : St q b L cap oo oc T w t sv pos) :
    Calls Tryz.prog 110 #[.pointer (some ⟨q, 0, none⟩)] w fun e w' =>
      (∃ t' : Tok, e = .returned (.tuple #[t'.v, .bool true]) ∧ MkTok t' b pos (L - pos) 3 1 kd ⟨(part T pos (L - pos)).toArray⟩) ∧ St q b L cap oo oc T w' t sv L ∧ Keeps q w w' := by
  obtain ⟨off, n, c, hin, hd, hr, hq⟩ := id hs
  have hpl := hi.lt
  have hbq := hx.hbq
  have HN := Lib.hid (fun (W : World) (hW : Below w.heap.size w W) => num_based b L cap pos off n c kd T hx.hT hx.hL hx.hcap hx.hL47 hin hi W (hr.below hW (by omega)))
  have HS := Lib.hid (fun (W : World) (hW : Below w.heap.size w W) => num_string_k b L cap pos off n c (L - pos) kd hkd T hx.hT hx.hL hx.hcap hx.hL47 hin (by omega) (by omega) W (hr.below hW (by omega)))
  have HC := Lib.hid (fun W (hW : Below w.heap.size w W) => dconsume q b L cap oo oc T hx t sv pos (L - pos) L W (hs.below hx hW) (by omega) (by rw [show pos + (L - pos) = L by omega]; exact .stop L (fun h => by have := hx.hT; omega)))
  obtain ⟨i1, i2, i3, i4⟩ := id hin
  have HRAW : Hid (RawV b pos (L - pos) (.slice (some ⟨b, off, none⟩) (L - pos) c)) := Lib.hid ⟨off, c, rfl, by omega, fun h => (i4 (by omega)).1⟩
  obtain ⟨size, hsize⟩ : ∃ size, size = L - pos := ⟨_, rfl⟩
  rw [← hsize] at HN HS HC HRAW ⊢
  have t1 : (size : Int) ≤ (c : Int) := by omega
  have t2 : (0 : Int) ≤ (size : Int) := by omega
  have t3 : ((size : Int) == 0) = false := by rw [beq_eq_false_iff_ne]; omega
  have e1 : IntKind.i64.wrap ((L : Int) - (n : Int)) = (pos : Int) := by rw [IntKind.wrap_i64]; have := hx.hL47; omega
  have c9 := dec_orig hd
  have c10 := dec_inv hd
  unfold inV at c10
  have HK : Hid (∀ W, Below w.heap.size w W → W.cell? ⟨q, 9, none⟩ = some (.slice (some ⟨b, oo, none⟩) L oc) ∧ W.cell? ⟨q, 10, none⟩ = some (.slice (some ⟨b, off, none⟩) n c)) := Lib.hid (fun W hW => ⟨(hW.cell (p := ⟨q, 9, none⟩) hq).trans c9, (hW.cell (p := ⟨q, 10, none⟩) hq).trans c10⟩)
  have hne1 : ¬ q = w.heap.size := by omega
  obtain ⟨sz, hsz⟩ : ∃ sz : ByteArray, sz = ⟨(part T pos size).toArray⟩ := ⟨_, rfl⟩
  rw [← hsz] at HS ⊢
  have HBQ : Hid (b < q) := Lib.hid hbq
  clear hd hr hin i1 i2 i3 i4 hx hs hpl hbq hi hsize hsz
  go_enter Tryz.func110, Tryz.ntmps110
  go_wp2_with fail
  refine (HN.out _ (by go_grown)).mono ?_
  rintro e w2 ⟨rfl, hb2⟩
  have hbw2 : Below w.heap.size w w2 := ((Below.refl _ _).alloc (Nat.le_refl _) _).trans (hb2.mono (by simp))
  have hR2 : w2.heap[w.heap.size]? = some (.cells zeroTok 76 (0, 0)) := (hb2.block w.heap.size (by simp)).trans (heap_alloc_new w _)
  have hs2 : w.heap.size + 1 ≤ w2.heap.size := by have := hb2.size; simpa using this
  have k9 := (HK.out w2 hbw2).1
  have k10 := (HK.out w2 hbw2).2
  have hq2 : q < w2.heap.size := by omega
  have hne2 : ¬ q = w2.heap.size := by omega
  have HB2 := Lib.hid hbw2
  have HR2 := Lib.hid hR2
  clear hb2 hbw2 hR2 c9 c10
  unfold numV
  have b128 : bits .or .u8 0 128 = 128 := by decide
  have HNC : Hid (∀ (ng : Bool) (W : World), Below (w2.alloc (.cells #[.int .u8 kd, .bool ng, .int .i64 size, .int .i64 0] 166)).heap.size (w2.alloc (.cells #[.int .u8 kd, .bool ng, .int .i64 size, .int .i64 0] 166)) W →
      W.cell? ⟨q, 9, none⟩ = some (.slice (some ⟨b, oo, none⟩) L oc) ∧ W.cell? ⟨q, 10, none⟩ = some (.slice (some ⟨b, off, none⟩) n c) ∧ W.cell? ⟨w2.heap.size, 0, none⟩ = some (.int .u8 kd) ∧ W.cell? ⟨w2.heap.size, 1, none⟩ = some (.bool ng) ∧ W.cell? ⟨w2.heap.size, 2, none⟩ = some (.int .i64 size) ∧ W.cell? ⟨w2.heap.size, 3, none⟩ = some (.int .i64 0)) := Lib.hid (fun ng W hW => by
    have g : ∀ j v, (#[.int .u8 kd, .bool ng, .int .i64 size, .int .i64 0] : Array Value)[j]? = some v → W.cell? ⟨w2.heap.size, j, none⟩ = some v := fun j v hj => by
      rw [hW.cell (p := ⟨w2.heap.size, j, none⟩) (by simp)]
      simpa using hj
    have k := HK.out W (HB2.out.trans (((Below.refl _ _).alloc (Nat.le_refl _) _).trans (hW.mono (by simp)) |>.mono HB2.out.size))
    exact ⟨k.1, k.2, g 0 _ rfl, g 1 _ rfl, g 2 _ rfl, g 3 _ rfl⟩)
  · skip
    go_wp2_with fail
    obtain ⟨W3, hW3⟩ : ∃ W3, W3 = w2.alloc (.cells #[.int .u8 kd, .bool false, .int .i64 size, .int .i64 0] 166) := ⟨_, rfl⟩
    have HK3 := Lib.hid (HNC.out false)
    rw [← hW3] at HK3 ⊢
    have hbw3 : Below w.heap.size w W3 := by rw [hW3]; exact HB2.out.alloc HB2.out.size _
    have HB3 := Lib.hid hbw3
    have HS3 : Hid (W3.heap.size = w2.heap.size + 1) := Lib.hid (by rw [hW3]; simp)
    have hs3 : w2.heap.size < W3.heap.size := by have := HS3.out; omega
    have hq3 : q < W3.heap.size := by omega
    have hn3 : ¬ q = W3.heap.size := by omega
    have hn4 : ¬ w2.heap.size = W3.heap.size := by omega
    have hR3 : W3.heap[w.heap.size]? = some (.cells zeroTok 76 (0, 0)) := by rw [hW3]; exact alloc_blk HR2.out
    have HR3 := Lib.hid hR3
    have hw3 : w.heap.size ≤ W3.heap.size := hbw3.size
    clear hW3 hbw3 hR3 k9 k10
    go_region_held3 (fun w' => w'.cell? ⟨q, 9, none⟩ = some (.slice (some ⟨b, oo, none⟩) L oc) ∧ w'.cell? ⟨q, 10, none⟩ = some (.slice (some ⟨b, off, none⟩) n c) ∧ w'.cell? ⟨w2.heap.size, 0, none⟩ = some (.int .u8 kd) ∧ w'.cell? ⟨w2.heap.size, 1, none⟩ = some (.bool false) ∧ w'.cell? ⟨w2.heap.size, 2, none⟩ = some (.int .i64 size) ∧ w'.cell? ⟨w2.heap.size, 3, none⟩ = some (.int .i64 0))
      (first | exact HK3.out _ (by go_grown) | exact HK3.out _ (hbs5 _ _ hb4' (by first | assumption | omega)) | exact HK3.out _ (hbs5 _ _ (by go_grown) (by first | assumption | omega)) | go_keep)
      ((go_at_call 106; refine (HS.out _ (HB3.out.trans (Below.mono (by go_grown) hw3))).mono ?_; rintro e w4 ⟨rfl, hb4⟩; have hb4' : Below W3.heap.size W3 w4 := Below.trans (by go_grown) (hb4.mono (by simp)); have hz4 := hb4.size; (try simp at hz4); have g0 := hb4.cell (p := ⟨W3.heap.size, 0, none⟩); (try simp at g0); have y0 := hb4.frozen (p := ⟨W3.heap.size, 0, none⟩); (try simp at y0); have g1 := hb4.cell (p := ⟨W3.heap.size, 1, none⟩); (try simp at g1); have y1 := hb4.frozen (p := ⟨W3.heap.size, 1, none⟩); (try simp at y1); have g2 := hb4.cell (p := ⟨W3.heap.size, 2, none⟩); (try simp at g2); have y2 := hb4.frozen (p := ⟨W3.heap.size, 2, none⟩); (try simp at y2); have g3 := hb4.cell (p := ⟨W3.heap.size, 3, none⟩); (try simp at g3); have y3 := hb4.frozen (p := ⟨W3.heap.size, 3, none⟩); (try simp at y3); have g4 := hb4.cell (p := ⟨W3.heap.size, 4, none⟩); (try simp at g4); have y4 := hb4.frozen (p := ⟨W3.heap.size, 4, none⟩); (try simp at y4); have g5 := hb4.cell (p := ⟨W3.heap.size, 5, none⟩); (try simp at g5); have y5 := hb4.frozen (p := ⟨W3.heap.size, 5, none⟩); (try simp at y5)))
    all_goals
      have hbw4 : Below w.heap.size w w4 := HB3.out.trans (hb4'.mono hw3)
      have hr4 : w4.heap[w.heap.size]? = some (.cells zeroTok 76 (0, 0)) := (hb4'.block _ (by omega)).trans HR3.out
      have hlt4 : w.heap.size < w4.heap.size := by have := hb4'.size; omega
      have hnum4 := (HK3.out w4 hb4').2.2.2.2.1
    case _ =>
      refine abs_exit (AfterTok w w2.heap.size (.int .i64 size) _ #[.int .u8 3, .int .u8 1, .int .u8 kd, .int .i64 pos, .slice (some ⟨b, off, none⟩) size c, .string sz]) (by first | exact after_new hlt4 hbw4 hr4 hnum4 | exact after_drew (after_new hlt4 hbw4 hr4 hnum4)) ?_
      intro w5 ha5
      have HA5 := Lib.hid ha5
      have hn5 := ha5.num
      have hF := ha5.hF
      have hqF : ¬ q = w4.heap.size := by omega
      have HST := Lib.hid hF
      clear ha5  hr4 hbw4 hnum4
      go_wp2_with fail
      refine (HC.out _ HA5.out.below).mono ?_
      rintro e w6 ⟨rfl, hs6, v, hw6⟩
      have hk6 : Keeps q w w6 := by rw [hw6]; exact (Keeps.of HA5.out.below).setCell 10 _
      have hR6 : w6.heap[w.heap.size]? = some (.cells zeroTok 76 (0, 0)) := by rw [hw6, blk_other _ _ _ hne1]; exact HA5.out.res
      have hc6 : ∀ j x, (#[.int .u8 3, .int .u8 1, .int .u8 kd, .int .i64 pos, .slice (some ⟨b, off, none⟩) size c, .string sz] : Array Value)[j]? = some x → w6.cell? ⟨w4.heap.size, j, none⟩ = some x := fun j x hj => by
        rw [hw6, World.cell?_setCell_other w5 _ _ _ (fun e => hqF (congrArg Addr.block e))]
        exact HA5.out.cell j x hj
      have k0 := hc6 0 _ rfl
      have k1 := hc6 1 _ rfl
      have k2 := hc6 2 _ rfl
      have k3 := hc6 3 _ rfl
      have k4 := hc6 4 _ rfl
      have k5 := hc6 5 _ rfl
      have HS6 := Lib.hid hs6
      have HQW : Hid (b < w.heap.size ∧ q < w.heap.size) := Lib.hid ⟨by have := HBQ.out; omega, hq⟩
      clear hc6 hs6 hw6 hqF hF
      go_wp2_with ((with_reducible refine store_own ?_ 76 (.tmp 2) (.tmp 54) ?_ w.heap.size #[.int .u8 3, .int .u8 1, .int .u8 kd, .int .i64 pos, .slice (some ⟨b, off, none⟩) size c, .string sz] ?_ ?_ 76 zeroTok hR6 6 infoT ?_ ?_ ?_ q w hk6 (Nat.le_refl _) ?_); rfl; rfl; rfl; rfl; rfl; rfl; rfl; (intro w7 hg7 hcs ho7 hs7 hk7); refine Hid.out ?_)
      refine Lib.hid ?_
      have c0 := hcs 0 _ rfl
      have c1 := hcs 1 _ rfl
      have c2 := hcs 2 _ rfl
      have c3 := hcs 3 _ rfl
      have c4 := hcs 4 _ rfl
      have c5 := hcs 5 _ rfl
      have HG7 := Lib.hid (And.intro ho7 (And.intro hs7 hk7))
      clear k0 k1 k2 k3 k4 k5 hR6 hk6 hg7 hcs ho7 hs7 hk7
      go_wp2
      refine bodyPost_ret (v := .tuple #[(⟨3, 1, kd, pos, .slice (some ⟨b, off, none⟩) size c, sz⟩ : Tok).v, .bool true]) (by simp [results, Tryz.results110, go_sem, Tok.v, c0, c1, c2, c3, c4, c5]) rfl ⟨⟨_, rfl, rfl, rfl, rfl, rfl, HRAW.out, rfl⟩, ?_, HG7.out.2.2⟩
      exact HS6.out.same (HG7.out.1 q (by have := HQW.out; omega)) (HG7.out.1 b (by have := HQW.out; omega)) (by have := HG7.out.2.1; omega)
    case _ =>
      refine abs_exit (AfterTok w w2.heap.size (.int .i64 size) _ #[.int .u8 3, .int .u8 1, .int .u8 kd, .int .i64 pos, .slice (some ⟨b, off, none⟩) size c, .string sz]) (by first | exact after_set (by omega) (by have := hb4'.size; omega) hbw4 hr4 g0 g1 g2 g3 g4 g5 hnum4 (by omega) | exact after_drew (after_set (by omega) (by omega) hbw4 hr4 g0 g1 g2 g3 g4 g5 hnum4 (by omega))) ?_
      intro w5 ha5
      have HA5 := Lib.hid ha5
      have hn5 := ha5.num
      have hF := ha5.hF
      have hqF : ¬ q = W3.heap.size := by omega
      have HST := Lib.hid hF
      clear ha5 g0 g1 g2 g3 g4 g5 y0 y1 y2 y3 y4 y5 hr4 hbw4 hnum4
      go_wp2_with fail
      refine (HC.out _ HA5.out.below).mono ?_
      rintro e w6 ⟨rfl, hs6, v, hw6⟩
      have hk6 : Keeps q w w6 := by rw [hw6]; exact (Keeps.of HA5.out.below).setCell 10 _
      have hR6 : w6.heap[w.heap.size]? = some (.cells zeroTok 76 (0, 0)) := by rw [hw6, blk_other _ _ _ hne1]; exact HA5.out.res
      have hc6 : ∀ j x, (#[.int .u8 3, .int .u8 1, .int .u8 kd, .int .i64 pos, .slice (some ⟨b, off, none⟩) size c, .string sz] : Array Value)[j]? = some x → w6.cell? ⟨W3.heap.size, j, none⟩ = some x := fun j x hj => by
        rw [hw6, World.cell?_setCell_other w5 _ _ _ (fun e => hqF (congrArg Addr.block e))]
        exact HA5.out.cell j x hj
      have k0 := hc6 0 _ rfl
      have k1 := hc6 1 _ rfl
      have k2 := hc6 2 _ rfl
      have k3 := hc6 3 _ rfl
      have k4 := hc6 4 _ rfl
      have k5 := hc6 5 _ rfl
      have HS6 := Lib.hid hs6
      have HQW : Hid (b < w.heap.size ∧ q < w.heap.size) := Lib.hid ⟨by have := HBQ.out; omega, hq⟩
      clear hc6 hs6 hw6 hqF hF
      go_wp2_with ((with_reducible refine store_own ?_ 76 (.tmp 2) (.tmp 54) ?_ w.heap.size #[.int .u8 3, .int .u8 1, .int .u8 kd, .int .i64 pos, .slice (some ⟨b, off, none⟩) size c, .string sz] ?_ ?_ 76 zeroTok hR6 6 infoT ?_ ?_ ?_ q w hk6 (Nat.le_refl _) ?_); rfl; rfl; rfl; rfl; rfl; rfl; rfl; (intro w7 hg7 hcs ho7 hs7 hk7); refine Hid.out ?_)
      refine Lib.hid ?_
      have c0 := hcs 0 _ rfl
      have c1 := hcs 1 _ rfl
      have c2 := hcs 2 _ rfl
      have c3 := hcs 3 _ rfl
      have c4 := hcs 4 _ rfl
      have c5 := hcs 5 _ rfl
      have HG7 := Lib.hid (And.intro ho7 (And.intro hs7 hk7))
      clear k0 k1 k2 k3 k4 k5 hR6 hk6 hg7 hcs ho7 hs7 hk7
      go_wp2
      refine bodyPost_ret (v := .tuple #[(⟨3, 1, kd, pos, .slice (some ⟨b, off, none⟩) size c, sz⟩ : Tok).v, .bool true]) (by simp [results, Tryz.results110, go_sem, Tok.v, c0, c1, c2, c3, c4, c5]) rfl ⟨⟨_, rfl, rfl, rfl, rfl, rfl, HRAW.out, rfl⟩, ?_, HG7.out.2.2⟩
      exact HS6.out.same (HG7.out.1 q (by have := HQW.out; omega)) (HG7.out.1 b (by have := HQW.out; omega)) (by have := HG7.out.2.1; omega)

end Go.Proofs.YtpneioocmpagmaaGreatDoor.tx

/- The text form's reader: parseScalar at a number of base 16 or 8. -/
namespace Go.Proofs.YtpneioocmpagmaaGreatDoor.tx
open Go.RowKit Go.Proofs.YtpneioocmpagmaaGreatDoor.hx
set_option linter.unusedVariables false
set_option linter.unusedSimpArgs false

set_option maxHeartbeats 8000000 in
set_option maxRecDepth 100000 in
theorem literal_no_k (q b L cap oo oc : Nat) (T : List UInt8) (hx : Cx q b L cap T) (t : Tok) (sv : Value) (pos kd : Nat) (hi : BasedAt T L pos kd) (w : World) (hs : St q b L cap oo oc T w t sv pos) :
    Calls Tryz.prog 109 #[.pointer (some ⟨q, 0, none⟩)] w fun e w' => e = .returned (.tuple #[tok0.v, .bool false]) ∧ Below w.heap.size w w' := by
  obtain ⟨off, n, c, hin, hd, hr, hq⟩ := id hs
  have hbq := hx.hbq
  have hlt := hi.lt
  have HN : Hid (∀ W, Below w.heap.size w W → Calls Tryz.prog 104 #[.slice (some ⟨b, off, none⟩) n c, .bool true] W fun e w' => e = .returned (.int .i64 0) ∧ W = w') := Lib.hid (fun W hW => by
    have hrW := hr.below hW (by omega)
    have h1 := hi.first
    exact ident_no b L cap pos off n c T hx.hT hin hlt true (digit_not_ids (by omega)) (.inr (by omega)) W hrW)
  have c10 := dec_inv hd
  unfold inV at c10
  have hne1 : ¬ q = w.heap.size := by omega
  clear hd hr hin hx hs hi hlt hbq
  go_enter Tryz.func109, Tryz.ntmps109
  go_wp2_with fail
  refine (HN.out _ (by go_grown)).mono ?_
  rintro e w' ⟨rfl, rfl⟩
  go_wp2_with fail
  refine bodyPost_ret (v := .tuple #[tok0.v, .bool false]) (by simp [results, Tryz.results109, go_sem, Tok.v, tok0]) rfl ⟨rfl, by go_grown⟩

set_option maxHeartbeats 8000000 in
set_option maxRecDepth 100000 in
theorem scalar_k (q b L cap oo oc : Nat) (T : List UInt8) (hx : Cx q b L cap T) (t : Tok) (sv : Value) (pos kd : Nat) (hkd : kd < 4) (hi : BasedAt T L pos kd) (w : World) (hs : St q b L cap oo oc T w t sv pos) :
    Calls Tryz.prog 79 #[.pointer (some ⟨q, 0, none⟩)] w fun e w' =>
      Gave w q b L cap oo oc T t sv L 3 1 kd pos (L - pos) ⟨(part T pos (L - pos)).toArray⟩ .nilIface e w' := by
  obtain ⟨off, n, c, hin, hd, hr, hq⟩ := id hs
  have hbq := hx.hbq
  have hlt := hi.lt
  have HL := Lib.hid (fun (W : World) (hW : Below w.heap.size w W) => literal_no_k q b L cap oo oc T hx t sv pos kd hi W (hs.below hx hW))
  have HV := Lib.hid (fun (W : World) (hW : Below w.heap.size w W) => number_value_k q b L cap oo oc T hx t sv pos kd hkd hi W (hs.below hx hW))
  obtain ⟨i1, i2, i3, i4⟩ := id hin
  obtain ⟨rfl, hc'⟩ := i4 (by omega)
  have c10 := dec_inv hd
  unfold inV at c10
  have hcx := cell_at hx.hT hr hlt
  have hch : (T.getD off 0).toNat = 48 := hi.first
  obtain ⟨x, hxx⟩ : ∃ x, x = (T.getD off 0).toNat := ⟨_, rfl⟩
  rw [← hxx] at hcx hch
  have x34 : ((x : Int) == 34) = false := by rw [beq_eq_false_iff_ne]; omega
  have x39 : ((x : Int) == 39) = false := by rw [beq_eq_false_iff_ne]; omega
  have hn0 : (0 : Int) < (n : Int) := by omega
  have hne1 : ¬ q = w.heap.size := by omega
  have hbl : b < w.heap.size := by omega
  have hbn : ¬ b = w.heap.size := by omega
  have HQ := Lib.hid (And.intro hq hbq)
  obtain ⟨sz, hsz⟩ : ∃ sz : ByteArray, sz = ⟨(part T off (L - off)).toArray⟩ := ⟨_, rfl⟩
  obtain ⟨size, hsize⟩ : ∃ size, size = L - off := ⟨_, rfl⟩
  rw [← hsz, ← hsize] at HV ⊢
  clear hd hr hin hx hs hi hlt i1 i2 i3 i4 hc' hxx hch hbq hsz hsize
  go_enter Tryz.func79, Tryz.ntmps79
  go_wp2_with fail
  refine (HL.out _ (by go_grown)).mono ?_
  rintro e w2 ⟨rfl, hb2⟩
  have hbw2 : Below w.heap.size w w2 := ((Below.refl _ _).alloc (Nat.le_refl _) _).trans (hb2.mono (by simp))
  have hR2 : w2.heap[w.heap.size]? = some (.cells zeroTok 76 (0, 0)) := (hb2.block w.heap.size (by simp)).trans (heap_alloc_new w _)
  have hs2 : w.heap.size < w2.heap.size := by have := hb2.size; simp at this; omega
  have HB2 := Lib.hid (And.intro hbw2 hR2)
  clear hb2 hbw2 hR2 c10 hcx x34 x39
  unfold tok0 Tok.v
  go_wp2_with fail
  refine (HV.out _ (HB2.out.1.alloc (Nat.le_of_lt hs2) _)).mono ?_
  rintro e w4 ⟨⟨t', rfl, hmk⟩, hs4, hk4⟩
  obtain ⟨o5, c5, rfl, m6, m7⟩ := mk_tok hmk
  clear hmk
  have hR4 : w4.heap[w.heap.size]? = some (.cells zeroTok 76 (0, 0)) := (hk4.block w.heap.size (by simp; omega) (fun e => hne1 e.symm)).trans (alloc_blk HB2.out.2)
  have hkw4 : Keeps q w w4 := (Keeps.of (HB2.out.1.alloc (Nat.le_of_lt hs2) _)).trans hk4
  have hw4 : w.heap.size < w4.heap.size := by have := hk4.size; simp at this; omega
  have H4 := Lib.hid (And.intro (And.intro m6 m7) (And.intro hs4 (And.intro hkw4 hR4)))
  clear hs4 hk4 hkw4 hR4 m6 m7
  unfold Tok.v
  go_wp2_with ((with_reducible refine store_own ?_ 76 (.tmp 2) (.tmp 41) ?_ w.heap.size #[.int .u8 (3 : Nat), .int .u8 (1 : Nat), .int .u8 kd, .int .i64 off, .slice (some ⟨b, o5, none⟩) size c5, .string sz] ?_ ?_ 76 zeroTok (alloc_blk H4.out.2.2.2) 6 infoT ?_ ?_ ?_ q w (H4.out.2.2.1.trans (Keeps.of ((Below.refl _ _).alloc (Nat.le_refl _) _))) (Nat.le_refl _) ?_); rfl; rfl; rfl; rfl; rfl; rfl; rfl; (intro w7 hg7 hcs ho7 hs7 hk7); refine Hid.out ?_)
  refine Lib.hid ?_
  have c0 := hcs 0 _ rfl
  have c1 := hcs 1 _ rfl
  have c2 := hcs 2 _ rfl
  have c3 := hcs 3 _ rfl
  have c4 := hcs 4 _ rfl
  have c5' := hcs 5 _ rfl
  have HG7 := Lib.hid (And.intro ho7 (And.intro hs7 hk7))
  clear hg7 hcs ho7 hs7 hk7
  go_wp2
  refine bodyPost_ret (v := .tuple #[(⟨3, 1, kd, off, .slice (some ⟨b, o5, none⟩) size c5, sz⟩ : Tok).v, .nilIface]) (by simp [results, Tryz.results79, go_sem, Tok.v, c0, c1, c2, c3, c4, c5']) rfl ⟨⟨_, rfl, rfl, rfl, rfl, rfl, ⟨o5, c5, rfl, H4.out.1.1, H4.out.1.2⟩, rfl⟩, ?_, HG7.out.2.2⟩
  exact st_after H4.out.2.1 HG7.out.1 HG7.out.2.1 (by have := HQ.out; omega) (by have := HQ.out; omega)

end Go.Proofs.YtpneioocmpagmaaGreatDoor.tx

/- The three readings at a number of base 16 or 8. -/
namespace Go.Proofs.YtpneioocmpagmaaGreatDoor.tx
open Go.RowKit Go.Proofs.YtpneioocmpagmaaGreatDoor.hx
set_option linter.unusedVariables false
set_option linter.unusedSimpArgs false

theorem reads_k (l : List UInt8) (hmax : l.length ≤ 140737488350000) (kd : Nat) (hkd : kd < 4) (hi : BasedAt (97 :: 58 :: 32 :: l) (l.length + 3) 3 kd) :
    Reads (97 :: 58 :: 32 :: l) (l.length + 3) 3 1 kd ⟨(part (97 :: 58 :: 32 :: l) 3 (l.length + 3 - 3)).toArray⟩ := by
  obtain ⟨T, hT⟩ : ∃ T, T = 97 :: 58 :: 32 :: l := ⟨_, rfl⟩
  obtain ⟨L, hL⟩ : ∃ L, L = l.length + 3 := ⟨_, rfl⟩
  have hTL : T.length = L := by rw [hT, hL]; simp
  have g0 : T.getD 0 0 = 97 := by rw [hT]; rfl
  have g1 : T.getD 1 0 = 58 := by rw [hT]; rfl
  have g2 : T.getD 2 0 = 32 := by rw [hT]; rfl
  rw [← hT, ← hL] at hi ⊢
  have hlt3 : 3 < L := hi.lt
  have hc3 := hi.first
  have s33 : Sk T 3 3 := .stop 3 (fun _ => digit_not_ws (by omega))
  have s00 : Sk T 0 0 := .stop 0 (fun _ => by rw [g0]; exact ⟨rfl, by decide⟩)
  have s11 : Sk T (0 + 1) 1 := .stop 1 (fun _ => by rw [g1]; exact ⟨rfl, by decide⟩)
  have s23 : Sk T (1 + 1) 3 := .blank 2 3 (by omega) (by rw [g2]; rfl) s33
  refine ⟨fun q b cap hx W hs => ?_⟩
  refine (read_tok q b L cap 0 cap T hx tok0 (.slice none 0 0) 0 3 2 129 0 0 1 ⟨#[]⟩ W hs (by decide) (fun W' _ hs' => ?_)).mono ?_
  · exact next_field q b L cap 0 cap T hx tok0 (.slice none 0 0) 0 0 3 2 129 0 1 ⟨#[]⟩ W' hs' s00 (by omega) (fun W'' hs'' => field_name q b L cap 0 cap T hx tok0 (.slice none 0 0) 0 1 1 3 W'' hs'' (Nat.le_refl _) (by rw [g0]; decide) (fun j hj => by
      obtain rfl : j = 0 := by omega
      rw [Nat.add_zero, g0]; decide) (fun _ => by rw [Nat.zero_add, g1]; decide) s11 (by omega) (by rw [g1]; rfl) s23 (by omega))
  rintro e W1 ⟨t1, rfl, hm1, hs1, hk1⟩
  refine ⟨t1, rfl, raw_sl hm1.2.2.2.2.1, hk1, fun W1' hb1 => ?_⟩
  refine (read_tok q b L cap 0 cap T hx t1 (.slice none 0 0) 3 L 3 1 kd 3 (L - 3) ⟨(part T 3 (L - 3)).toArray⟩ W1' (hs1.below hx hb1) (by decide) (fun W' _ hs' => ?_)).mono ?_
  · rw [hm1.1]
    exact next_scalar q b L cap 0 cap T hx t1 (.slice none 0 0) 3 3 L 3 1 kd (L - 3) ⟨(part T 3 (L - 3)).toArray⟩ W' hs' s33 hlt3 (by omega) (fun W'' _ hs'' => scalar_k q b L cap 0 cap T hx t1 (.slice none 0 0) 3 kd hkd hi W'' hs'')
  rintro e W2 ⟨t2, rfl, hm2, hs2, hk2⟩
  obtain ⟨_, _, _, _, _, hrow2, _⟩ := id hs2
  refine ⟨t2, rfl, ⟨hm2.1, hm2.2.1, hm2.2.2.1, hm2.2.2.2.2.2, 3, L - 3, hm2.2.2.2.2.1, by omega⟩, hrow2, hk2, fun W2' hb2 => ?_⟩
  refine (read_tok q b L cap 0 cap T hx t2 (.slice none 0 0) L L 1 0 0 L 0 ⟨#[]⟩ W2' (hs2.below hx hb2) (by decide) (fun W' _ hs' => ?_)).mono ?_
  · rw [hm2.1]
    exact next_end q b L cap 0 cap T hx t2 L W' hs' (.stop L (fun h => by omega))
  rintro e W3 ⟨t3, rfl, hm3, hs3, hk3⟩
  exact ⟨t3, rfl, hm3.1, raw_sl hm3.2.2.2.2.1, hk3⟩

end Go.Proofs.YtpneioocmpagmaaGreatDoor.tx

