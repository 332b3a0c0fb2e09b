/- laws.FnTextInts. -/
import Derived.Test.YtpneioocmpagmaaGreatDoorTl
import Derived.Test.YtpneioocmpagmaaGreatDoorTz
namespace Go.Proofs.YtpneioocmpagmaaGreatDoor.tx
open Go.RowKit Go.Proofs.YtpneioocmpagmaaGreatDoor.pu Go.Proofs.YtpneioocmpagmaaGreatDoor.num Go.Proofs.YtpneioocmpagmaaGreatDoor.fl Go.Proofs.YtpneioocmpagmaaGreatDoor.jn
set_option linter.unusedVariables false
set_option linter.unusedSimpArgs false

/-- Bytes out of a string. -/
theorem conv_bytes (l : List UInt8) (W : World) : ∃ c C fr, (convert 9 25 (.string ⟨l.toArray⟩)).run Tryz.prog W = .ok (.slice (some ⟨W.heap.size, 0, none⟩) l.length c) (W.drew.alloc (.cells C 5 fr)) ∧ ∀ j u, (l.map bb)[j]? = some u → (W.drew.alloc (.cells C 5 fr)).cell? ((⟨W.heap.size, 0, none⟩ : Addr).add j) = some u := by
  have CV := run_bytes_of_string (P := Tryz.prog) W 9 25 5 ⟨l.toArray⟩ Tryz.underlying9 Tryz.underlying25 Tryz.underlying5
  have hs : (⟨l.toArray⟩ : ByteArray).size = l.length := by show l.toArray.size = _; simp
  rw [hs] at CV
  refine ⟨_, _, _, CV, fun j u hj => ?_⟩
  have hj' : j < l.length := by
    have := (List.getElem?_eq_some_iff.1 hj).1
    simpa using this
  rw [add_pos, Nat.zero_add, cell_of_row (W.drew.alloc _) W.heap.size j _ 5 _ (heap_alloc_new W.drew _)]
  rw [bytesRow_at _ _ j (by show j < l.toArray.size; simpa using hj'), ← hj, List.getElem?_map, List.getElem?_eq_getElem hj']
  simp [bb]

theorem qr_in {lo hi n x : Int} {y : Bool} (h : QRn lo hi n x y) (h0 : lo ≤ n) (h1 : n ≤ hi) : y = true ∧ n = x := by
  rcases h with ⟨_, _, rfl, rfl⟩ | ⟨h, _⟩
  · exact ⟨rfl, rfl⟩
  · exact absurd ⟨h0, h1⟩ h

theorem qr_out {lo hi n x : Int} {y : Bool} (h : QRn lo hi n x y) (h0 : n < lo ∨ hi < n) : y = false := by
  rcases h with ⟨h1, h2, _⟩ | ⟨_, rfl⟩
  · omega
  · rfl

set_option maxHeartbeats 16000000 in
set_option maxRecDepth 100000 in
theorem law_walk (n : Int) (h0 : -9223372036854775808 ≤ n) (h1 : n ≤ 9223372036854775807) (w : World) (he : Errs w) (hE : ∀ w', Below w.heap.size w w' → FEnv w') :
    Calls Tryz.prog 6 #[.int .i64 n] w fun e w' => e = .returned (.bool true) ∧ Below w.heap.size w w' := by
  have hlen := itoa_short n h0 h1
  obtain ⟨D, hD⟩ : ∃ D : ByteArray, D = ⟨(Lib.itoa n).toArray⟩ := ⟨_, rfl⟩
  have HS := Lib.hid (signed_walk n h0 h1)
  rw [← hD] at HS
  have CV := Lib.hid (conv_bytes (Lib.itoa n))
  rw [← hD] at CV
  have HD := Lib.hid hD
  clear hD
  have HV := Lib.hid (fun (W : World) (hW : Below w.heap.size w W) => int_vals n h0 h1 W (he.below hW) (fun w' h => hE w' (hW.trans (h.mono hW.size))))
  clear hE he
  go_enter Tryz.func6, Tryz.ntmps6
  go_wp2_with (go_at_call 16; (with_reducible refine (HS.out _).mono ?_); rintro e w1 ⟨rfl, hb1⟩; obtain ⟨cap, C, fr, hcv, hrow⟩ := CV.out w1; have HROW := Lib.hid hrow; clear hrow)
  refine (text_scalar (Lib.itoa n) (itoa_ne n) (by omega) ⟨w1.heap.size, 0, none⟩ cap (if decide (n < 0) = true then 128 else 0) ⟨(Lib.itoa n).toArray⟩ (by have := reads_int (Lib.itoa n) (by omega) _ _ (intAt_itoa n); rw [part_head3] at this; exact this) (fun _ _ => True) (QIn n) (QRn (-2147483648) 2147483647 n) (QRn 0 18446744073709551615 n) (QRn 0 4294967295 n) (fun _ => True) (fun _ => True) (fun _ _ => True) (fun _ _ => True) _ (fun j u hj => HROW.out j u hj) (fun t k1 k2 k3 k4 k5 W hW => HV.out W ((show Below w.heap.size w ((w1.alloc (.cells C 5 fr)).drew) from by have hz := hb1.size; go_grown).trans (hW.mono (show Below w.heap.size w ((w1.alloc (.cells C 5 fr)).drew) from by have hz := hb1.size; go_grown).size)) t k1 k2 k3 k4 k5)).mono ?_
  rintro e w2 ⟨⟨v, rs, rfl, x0, y0, x1, y1, x2, y2, x3, y3, x4, y4, x5, y5, x6, y6, x7, y7, x8, y8, hv, q0, q1, q2, q3, q4, q5, q6, q7, q8⟩, hb2⟩
  injection hv with hv
  subst hv
  have HB : Hid (Below w.heap.size w w2) := Lib.hid ((show Below w.heap.size w ((w1.alloc (.cells C 5 fr)).drew) from by have hz := hb1.size; go_grown).trans (hb2.mono (show Below w.heap.size w ((w1.alloc (.cells C 5 fr)).drew) from by have hz := hb1.size; go_grown).size))
  obtain ⟨e1, rfl⟩ := q1
  obtain rfl := e1.symm
  clear hb1 hb2 q0 q5 q6 q7 q8 hcv
  rcases (by omega : n < -2147483648 ∨ (-2147483648 ≤ n ∧ n < 0) ∨ (0 ≤ n ∧ n ≤ 2147483647) ∨ (2147483647 < n ∧ n ≤ 4294967295) ∨ 4294967295 < n) with hr | ⟨hr, hr'⟩ | ⟨hr, hr'⟩ | ⟨hr, hr'⟩ | hr
  · obtain rfl := qr_out q2 (by omega)
    obtain rfl := qr_out q3 (by omega)
    obtain rfl := qr_out q4 (by omega)
    clear q2 q3 q4
    as_aux_lemma =>
      go_wp2_with fail
      go_ret
      exact ⟨rfl, by have hb := HB.out; have hz := hb.size; go_grown⟩
  · obtain ⟨rfl, rfl⟩ := qr_in q2 (by omega) (by omega)
    obtain rfl := qr_out q3 (by omega)
    obtain rfl := qr_out q4 (by omega)
    clear q2 q3 q4
    as_aux_lemma =>
      go_wp2_with fail
      go_ret
      exact ⟨rfl, by have hb := HB.out; have hz := hb.size; go_grown⟩
  · obtain ⟨rfl, rfl⟩ := qr_in q2 (by omega) (by omega)
    obtain ⟨rfl, rfl⟩ := qr_in q3 (by omega) (by omega)
    obtain ⟨rfl, rfl⟩ := qr_in q4 (by omega) (by omega)
    have hr9 : n ≤ 4294967295 := by omega
    clear q2 q3 q4
    as_aux_lemma =>
      go_wp2_with fail
      go_ret
      exact ⟨rfl, by have hb := HB.out; have hz := hb.size; go_grown⟩
  · obtain rfl := qr_out q2 (by omega)
    obtain ⟨rfl, rfl⟩ := qr_in q3 (by omega) (by omega)
    obtain ⟨rfl, rfl⟩ := qr_in q4 (by omega) (by omega)
    have hr9 : n ≤ 4294967295 := by omega
    clear q2 q3 q4
    as_aux_lemma =>
      go_wp2_with fail
      go_ret
      exact ⟨rfl, by have hb := HB.out; have hz := hb.size; go_grown⟩
  · obtain rfl := qr_out q2 (by omega)
    obtain ⟨rfl, rfl⟩ := qr_in q3 (by omega) (by omega)
    obtain rfl := qr_out q4 (by omega)
    clear q2 q3 q4
    as_aux_lemma =>
      go_wp2_with fail
      go_ret
      exact ⟨rfl, by have hb := HB.out; have hz := hb.size; go_grown⟩

end Go.Proofs.YtpneioocmpagmaaGreatDoor.tx

