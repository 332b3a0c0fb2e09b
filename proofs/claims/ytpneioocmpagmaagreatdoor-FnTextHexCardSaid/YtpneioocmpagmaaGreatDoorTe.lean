/- The text form's reader: parseIdent at a name. -/
import Derived.Test.YtpneioocmpagmaaGreatDoorTd
import Derived.Deep.DeepCutAuto
import Derived.Deep.CutBlock
import Derived.Outline
namespace Go.Proofs.YtpneioocmpagmaaGreatDoor.tx
open Go.RowKit
set_option linter.unusedVariables false
set_option linter.unusedSimpArgs false

theorem ids_cases {c : Nat} (h : IdS c) : c = 95 ∨ (((c : Int) == 95) = false ∧ (97 : Int) ≤ c ∧ (c : Int) ≤ 122) ∨ (((c : Int) == 95) = false ∧ (c : Int) < 97 ∧ (65 : Int) ≤ c ∧ (c : Int) ≤ 90) := by
  unfold IdS at h
  simp only [beq_eq_false_iff_ne]
  omega

/-- Where the walk along a name stands: k bytes behind pos. -/
def Along (b L cap pos k : Nat) (v5 v6 : Value) : Prop := ∃ off n c, InAt b L cap (pos + k) off n c ∧ v5 = .int .i64 k ∧ v6 = .slice (some ⟨b, off, none⟩) n c

theorem along_next {b L cap pos k n c off : Nat} (hL : L ≤ cap) (hin : InAt b L cap (pos + k) off n c) (hn : 0 < n) : (c = 1 → n = 1 ∧ InAt b L cap (pos + (k + 1)) off 0 0) ∧ (¬ c = 1 → InAt b L cap (pos + (k + 1)) (off + 1) (n - 1) (c - 1)) := by
  have h0 := hin.2.1
  refine ⟨fun h => ⟨by omega, ?_⟩, fun h => ?_⟩
  · have h1 : n = 1 := by omega
    subst h1
    have := inAt_end hin (Nat.le_refl _) h
    exact this
  · have := inAt_cut hin (show 1 ≤ n from hn) hL
    exact this

set_option maxHeartbeats 8000000 in
set_option maxRecDepth 100000 in
theorem ident_yes (b L cap pos off n c m : Nat) (T : List UInt8) (hT : T.length = L) (hL : L ≤ cap) (hcap : cap ≤ 9223372036854775807) (hL47 : L ≤ 140737488355000) (hin : InAt b L cap pos off n c) (ng : Bool) (hm : 1 ≤ m) (hle : pos + m ≤ L) (h0 : IdS (T.getD pos 0).toNat)
    (hall : ∀ j, j < m → IdC (T.getD (pos + j) 0).toNat) (hend : pos + m < L → Dlm (T.getD (pos + m) 0).toNat) (w : World) (hr : RowM w b 0 T) :
    Calls Tryz.prog 104 #[.slice (some ⟨b, off, none⟩) n c, .bool ng] w fun e w' => e = .returned (.int .i64 m) ∧ w = w' := by
  have HIN0 := Lib.hid hin
  obtain ⟨i1, i2, i3, i4⟩ := hin
  obtain ⟨rfl, hc'⟩ := i4 (by omega)
  have hx := cell_at hT hr (p := off) (by omega)
  obtain ⟨x, hxx⟩ : ∃ x, x = (T.getD off 0).toNat := ⟨_, rfl⟩
  rw [← hxx] at hx h0
  have x45 : ((x : Int) == 45) = false := by rw [beq_eq_false_iff_ne]; unfold IdS at h0; omega
  have s0 : ((n : Int) == 0) = false := by rw [beq_eq_false_iff_ne]; omega
  have s1 : (0 : Int) < (n : Int) := by omega
  have s2 : (1 : Int) ≤ (n : Int) := by omega
  have s3 : (1 : Int) ≤ (c : Int) := by omega
  have HA := Lib.hid (And.intro hall (And.intro hend (And.intro hle (And.intro hT hr))))
  have hcs := ids_cases h0
  have HN0 := Lib.hid hL47
  clear h0 hr hxx i1 i2 i3 i4 hc' hT hall hend hle
  have HCS := Lib.hid hcs
  have HN1 : Hid (0 < n) := Lib.hid (by omega)
  clear hcs
  go_enter Tryz.func104, Tryz.ntmps104
  go_upto_region 5 with (fail)
  go_cut [17] (fun v17 wx => v17 = .bool false ∧ w = wx)
  case first =>
    cases ng
    all_goals
      go_wp2_with (first | go_meet | fail)
  case rest =>
    obtain ⟨rfl, rfl⟩ := hcut
    go_upto_block 0 with (fail)
    go_cut [5, 6] (fun v5 v6 wx => Along b L cap off 1 v5 v6 ∧ w = wx)
    case first => as_aux_lemma =>
      have hcap1 : c = 1 ∨ ¬ c = 1 := by omega
      rcases hcap1 with rfl | hc1
      · obtain ⟨rfl, hnx⟩ := (along_next (k := 0) hL (show InAt b L cap (off + 0) off n _ from HIN0.out) HN1.out).1 rfl
        have HX := Lib.hid hnx
        clear hnx
        rcases HCS.out with rfl | ⟨y1, y2, y3⟩ | ⟨y1, y2, y3, y4⟩
        all_goals
          go_wp2_with (first | go_meet | fail)
          first | exact ⟨⟨_, _, _, HX.out, rfl, rfl⟩, rfl⟩ | exact ⟨_, _, _, HX.out, rfl, rfl⟩
      · have HX := Lib.hid ((along_next (k := 0) hL (show InAt b L cap (off + 0) off n _ from HIN0.out) HN1.out).2 hc1)
        rcases HCS.out with rfl | ⟨y1, y2, y3⟩ | ⟨y1, y2, y3, y4⟩
        all_goals
          go_wp2_with (first | go_meet | fail)
          first | exact ⟨⟨_, _, _, HX.out, rfl, rfl⟩, rfl⟩ | exact ⟨_, _, _, HX.out, rfl, rfl⟩
    case rest => as_aux_lemma =>
      obtain ⟨⟨o0, n0, c0, hi0, rfl, rfl⟩, rfl⟩ := hcut
      have HI0 := Lib.hid hi0
      clear hi0 hx x45 s0 s1 s2 s3
      go_wp2_with fail
      go_loop [5, 6] (fun v5 v6 => ∃ k : Nat, k ≤ m ∧ Along b L cap off k v5 v6) (fun _ v6 => lenV v6)
      case atStart => exact ⟨1, hm, _, _, _, HI0.out, rfl, rfl⟩
      case round =>
        obtain ⟨k, hkm, o1, n1, c1, hin1, rfl, rfl⟩ := hrel
        have HIN := Lib.hid hin1
        have hn1 : off + k + n1 = L := hin1.1
        have hnc : n1 ≤ c1 := hin1.2.1
        have hk47 : (k : Int) ≤ 140737488355000 := by have := HN0.out; omega
        have hk0 : (0 : Int) ≤ (k : Int) := by omega
        by_cases hlt : k < m
        · obtain ⟨rfl, hcc⟩ := hin1.2.2.2 (by have := HA.out.2.2.1; omega)
          have hy := cell_at HA.out.2.2.2.1 HA.out.2.2.2.2 (p := off + k) (by have := HA.out.2.2.1; omega)
          have hidc := id_cases (HA.out.1 k hlt)
          obtain ⟨y, hyy⟩ : ∃ y, y = (T.getD (off + k) 0).toNat := ⟨_, rfl⟩
          rw [← hyy] at hy hidc
          have t1 : (0 : Int) < (n1 : Int) := by have := HA.out.2.2.1; omega
          have t2 : (1 : Int) ≤ (n1 : Int) := by omega
          have t3 : (1 : Int) ≤ (c1 : Int) := by omega
          have HNX := Lib.hid (along_next hL HIN.out (by omega))
          have HLT := Lib.hid hlt
          clear hin1 hyy hlt hcc hkm hn1
          have hcapn : c1 = 1 ∨ ¬ c1 = 1 := by omega
          rcases hcapn with rfl | hc2
          · obtain ⟨rfl, hnx⟩ := HNX.out.1 rfl
            have HX := Lib.hid hnx
            clear hnx t1 t2 t3 hnc
            rcases hidc with rfl | ⟨z1, z2, z3⟩ | ⟨z1, z2, z3, z4⟩ | ⟨z1, z2, z3, z4, z5⟩
            all_goals
              go_wp2_with fail
              go_round
              case rel => exact ⟨k + 1, HLT.out, _, _, _, HX.out, by go_num, rfl⟩
              case measure => simp [lenV]
          · have HX := Lib.hid (HNX.out.2 hc2)
            rcases hidc with rfl | ⟨z1, z2, z3⟩ | ⟨z1, z2, z3, z4⟩ | ⟨z1, z2, z3, z4, z5⟩
            all_goals
              go_wp2_with fail
              go_round
              case rel => exact ⟨k + 1, HLT.out, _, _, _, HX.out, by go_num, rfl⟩
              case measure => simp [lenV]; omega
        · obtain rfl : k = m := by omega
          by_cases hlast : 0 < n1
          · obtain ⟨rfl, hcc⟩ := hin1.2.2.2 hlast
            have hy := cell_at HA.out.2.2.2.1 HA.out.2.2.2.2 (p := off + k) (by omega)
            have hd := HA.out.2.1 (by omega)
            obtain ⟨y, hyy⟩ : ∃ y, y = (T.getD (off + k) 0).toNat := ⟨_, rfl⟩
            rw [← hyy] at hy hd
            have HD := Lib.hid (fun w => is_delim_yes y hd w)
            have t1 : (0 : Int) < (n1 : Int) := by omega
            obtain ⟨z0, hz⟩ := dlm_cases hd
            clear hd hin1 hyy hlast hcc hlt hkm
            rcases hz with z | ⟨z, z'⟩ | ⟨z, z'⟩ | z
            all_goals
              go_wp2_with ((with_reducible refine (HD.out _).mono ?_); rintro e w' ⟨rfl, rfl⟩)
              go_ret
              exact ⟨rfl, rfl⟩
          · obtain rfl : n1 = 0 := by omega
            clear hin1
            go_wp2_with fail
            go_ret
            exact ⟨rfl, rfl⟩

end Go.Proofs.YtpneioocmpagmaaGreatDoor.tx

