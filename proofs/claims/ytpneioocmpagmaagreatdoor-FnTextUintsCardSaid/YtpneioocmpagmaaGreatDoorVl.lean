/- laws.FnTextUints. -/
import Derived.Test.YtpneioocmpagmaaGreatDoorVk
import Derived.Test.YtpneioocmpagmaaGreatDoorTg
import Derived.Test.YtpneioocmpagmaaGreatDoorTz
namespace Go.Proofs.YtpneioocmpagmaaGreatDoor.dc
open Go.RowKit Go.Proofs.YtpneioocmpagmaaGreatDoor.pu Go.Proofs.YtpneioocmpagmaaGreatDoor.num Go.Proofs.YtpneioocmpagmaaGreatDoor.fl Go.Proofs.YtpneioocmpagmaaGreatDoor.jn Go.Proofs.YtpneioocmpagmaaGreatDoor.tx
set_option linter.unusedVariables false
set_option linter.unusedSimpArgs false

theorem reads_dec (u : Nat) (h1 : u ≤ 18446744073709551615) : Reads (97 :: 58 :: 32 :: Lib.decDigits u) ((Lib.decDigits u).length + 3) 3 1 0 ⟨(Lib.decDigits u).toArray⟩ := by
  have hlen := dec_len20 u h1
  have hi := intAt_itoa (u : Int)
  rw [itoa_nat, if_neg (by omega), show decide ((u : Int) < 0) = false from decide_eq_false (by omega)] at hi
  have := reads_int (Lib.decDigits u) (by omega) _ _ hi
  rw [part_head3] at this
  exact this

set_option maxHeartbeats 16000000 in
set_option maxRecDepth 100000 in
theorem law_walk (u : Nat) (h1 : u ≤ 18446744073709551615) (w : World) (he : Errs w) (hE : ∀ w', Below w.heap.size w w' → SEnv w') :
    Calls Tryz.prog 7 #[.int .u64 (u : Int)] w fun e w' => e = .returned (.bool true) ∧ Below w.heap.size w w' := by
  have hlen := dec_len20 u h1
  have hne := dec_ne u
  obtain ⟨D, hD⟩ : ∃ D : ByteArray, D = ⟨(Lib.decDigits u).toArray⟩ := ⟨_, rfl⟩
  have HS := Lib.hid (digits_walk (u + 1) u (by omega) (by omega))
  rw [← hD] at HS
  have CV := Lib.hid (conv_bytes (Lib.decDigits u))
  rw [← hD] at CV
  have HD := Lib.hid hD
  clear hD
  have HV := Lib.hid (fun (W : World) (hW : Below w.heap.size w W) => uint_vals u h1 W (he.below hW) (fun w' h => hE w' (hW.trans (h.mono hW.size))))
  have HR := Lib.hid (reads_dec u h1)
  have HU := Lib.hid h1
  obtain ⟨n, hn⟩ : ∃ n : Int, n = (u : Int) := ⟨_, rfl⟩
  have HN := Lib.hid hn
  rw [← hn] at HS HV ⊢
  clear hE he h1 hn
  go_enter Tryz.func7, Tryz.ntmps7
  go_wp2_with (go_at_call 17; (with_reducible refine (HS.out _).mono ?_); rintro e w1 ⟨rfl, hb1⟩; obtain ⟨cap, C, fr, hcv, hrow⟩ := CV.out w1; have HROW := Lib.hid hrow; clear hrow)
  refine (text_scalar (Lib.decDigits u) hne (by omega) ⟨w1.heap.size, 0, none⟩ cap 0 ⟨(Lib.decDigits u).toArray⟩ HR.out (fun _ _ => True) (QRn (-9223372036854775808) 9223372036854775807 n) (QRn (-2147483648) 2147483647 n) (QIn n) (QRn 0 4294967295 n) (fun _ => True) (fun _ => True) (fun _ _ => True) (fun _ _ => True) _ (fun j u hj => HROW.out j u hj) (fun t k1 k2 k3 k4 k5 W hW => HV.out W ((show Below w.heap.size w ((w1.alloc (.cells C 5 fr)).drew) from by have hz := hb1.size; go_grown).trans (hW.mono (show Below w.heap.size w ((w1.alloc (.cells C 5 fr)).drew) from by have hz := hb1.size; go_grown).size)) t k1 k2 k3 k4 k5)).mono ?_
  rintro e w2 ⟨⟨v, rs, rfl, x0, y0, x1, y1, x2, y2, x3, y3, x4, y4, x5, y5, x6, y6, x7, y7, x8, y8, hv, q0, q1, q2, q3, q4, q5, q6, q7, q8⟩, hb2⟩
  injection hv with hv
  subst hv
  have HB : Hid (Below w.heap.size w w2) := Lib.hid ((show Below w.heap.size w ((w1.alloc (.cells C 5 fr)).drew) from by have hz := hb1.size; go_grown).trans (hb2.mono (show Below w.heap.size w ((w1.alloc (.cells C 5 fr)).drew) from by have hz := hb1.size; go_grown).size))
  obtain ⟨e1, rfl⟩ := q3
  obtain rfl := e1.symm
  have h0 : 0 ≤ n := by have := HN.out; omega
  have h1 : n ≤ 18446744073709551615 := by have := HN.out; have := HU.out; omega
  clear hb1 hb2 q0 q5 q6 q7 q8 hcv hlen hne
  have wu : IntKind.u64.wrap n = n := by rw [IntKind.wrap_u64]; omega
  rcases (by omega : n ≤ 2147483647 ∨ (2147483647 < n ∧ n ≤ 4294967295) ∨ (4294967295 < n ∧ n ≤ 9223372036854775807) ∨ 9223372036854775807 < n) with hr | ⟨hr, hr'⟩ | ⟨hr, hr'⟩ | hr
  · obtain ⟨rfl, rfl⟩ := qr_in q1 (by omega) (by omega)
    obtain ⟨rfl, rfl⟩ := qr_in q2 (by omega) (by omega)
    obtain ⟨rfl, rfl⟩ := qr_in q4 (by omega) (by omega)
    have g1 : n ≤ 9223372036854775807 := by omega
    have g2 : n ≤ 4294967295 := by omega
    clear q1 q2 q4
    as_aux_lemma =>
      go_wp2_with fail
      go_ret
      exact ⟨rfl, by have hb := HB.out; have hz := hb.size; go_grown⟩
  · obtain ⟨rfl, rfl⟩ := qr_in q1 (by omega) (by omega)
    obtain rfl := qr_out q2 (by omega)
    obtain ⟨rfl, rfl⟩ := qr_in q4 (by omega) (by omega)
    have g1 : n ≤ 9223372036854775807 := by omega
    have g3 : ¬ n ≤ 2147483647 := by omega
    clear q1 q2 q4
    as_aux_lemma =>
      go_wp2_with fail
      go_ret
      exact ⟨(show Ending.returned (Value.bool (!decide (n ≤ 2147483647))) = _ from by rw [decide_eq_false (by omega)]; rfl), by have hb := HB.out; have hz := hb.size; go_grown⟩
  · obtain ⟨rfl, rfl⟩ := qr_in q1 (by omega) (by omega)
    obtain rfl := qr_out q2 (by omega)
    obtain rfl := qr_out q4 (by omega)
    have g2 : ¬ n ≤ 4294967295 := by omega
    have g3 : ¬ n ≤ 2147483647 := by omega
    clear q1 q2 q4
    as_aux_lemma =>
      go_wp2_with fail
      go_ret
      exact ⟨(show Ending.returned (Value.bool (!decide (n ≤ 4294967295) && !decide (n ≤ 2147483647))) = _ from by rw [decide_eq_false (show ¬ n ≤ 2147483647 by omega), decide_eq_false (show ¬ n ≤ 4294967295 by omega)]; rfl), by have hb := HB.out; have hz := hb.size; go_grown⟩
  · obtain rfl := qr_out q1 (by omega)
    obtain rfl := qr_out q2 (by omega)
    obtain rfl := qr_out q4 (by omega)
    have g1 : ¬ n ≤ 9223372036854775807 := by omega
    have g2 : ¬ n ≤ 4294967295 := by omega
    have g3 : ¬ n ≤ 2147483647 := by omega
    clear q1 q2 q4
    as_aux_lemma =>
      go_wp2_with fail
      go_ret
      exact ⟨(show Ending.returned (Value.bool (!decide (n ≤ 9223372036854775807) && !decide (n ≤ 4294967295) && !decide (n ≤ 2147483647))) = _ from by rw [decide_eq_false (show ¬ n ≤ 2147483647 by omega), decide_eq_false (show ¬ n ≤ 4294967295 by omega), decide_eq_false (show ¬ n ≤ 9223372036854775807 by omega)]; rfl), by have hb := HB.out; have hz := hb.size; go_grown⟩

end Go.Proofs.YtpneioocmpagmaaGreatDoor.dc

