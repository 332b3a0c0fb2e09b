/- The text form's reader at strings: parseScalar, the three readings. -/
import Derived.Test.YtpneioocmpagmaaGreatDoorQl
import Derived.Test.YtpneioocmpagmaaGreatDoorQn
namespace Go.Proofs.YtpneioocmpagmaaGreatDoor.tx
open Go.RowKit
set_option linter.unusedVariables false
set_option linter.unusedSimpArgs false

set_option maxHeartbeats 8000000 in
set_option maxRecDepth 100000 in
theorem scalar_string (q b L cap oo oc : Nat) (T : List UInt8) (hx : Cx q b L cap T) (t : Tok) (sv : Value) (pos e : Nat) (os : List (List UInt8)) (hj : Jn T L e pos os) (hne : os ≠ []) (hn : os.length ≤ 1000) (h34 : pos < L ∧ T.getD pos 0 = 34) (w : World)
    (hs : St q b L cap oo oc T w t sv pos) (hE : ∀ w', Keeps q w w' → DecEnv w') :
    Calls Tryz.prog 79 #[.pointer (some ⟨q, 0, none⟩)] w fun en w' => Gave w q b L cap oo oc T t sv e 3 2 0 pos (e - pos) (strOf os.flatten) .nilIface en w' := by
  obtain ⟨off, n, c, hin, hd, hr, hq⟩ := id hs
  have hbq := hx.hbq
  have HV := Lib.hid (fun (W : World) (hW : Below w.heap.size w W) => string_value q b L cap oo oc T hx t sv pos e os hj hne hn W (hs.below hx hW) (fun w' h => hE w' ((Keeps.of hW).trans h)))
  obtain ⟨i1, i2, i3, i4⟩ := id hin
  obtain ⟨rfl, hc'⟩ := i4 (by omega)
  have c10 := dec_inv hd
  unfold inV at c10
  have hcx := cell_at hx.hT hr h34.1
  rw [h34.2] at hcx
  have hn0 : (0 : Int) < (n : Int) := by omega
  have hne1 : ¬ q = w.heap.size := by omega
  have hbl : b < w.heap.size := by omega
  have HQ := Lib.hid (And.intro hq hbq)
  obtain ⟨sz, hsz⟩ : ∃ sz : ByteArray, sz = strOf os.flatten := ⟨_, rfl⟩
  obtain ⟨size, hsize⟩ : ∃ size, size = e - off := ⟨_, rfl⟩
  rw [← hsz, ← hsize] at HV ⊢
  clear hd hr hin hx hs hj hne hn hE i1 i2 i3 i4 hc' hbq hsz hsize h34
  go_enter Tryz.func79, Tryz.ntmps79
  go_wp2_with fail
  refine (HV.out _ ((Below.refl _ _).alloc (Nat.le_refl _) _)).mono ?_
  rintro en w4 ⟨⟨t', rfl, hmk⟩, hs4, hk4⟩
  obtain ⟨o5, c5, rfl, m6, m7⟩ := mk_tok hmk
  clear hmk
  have hR4 : w4.heap[w.heap.size]? = some (.cells zeroTok 76 (0, 0)) := (hk4.block w.heap.size (by simp) (fun e => hne1 e.symm)).trans (heap_alloc_new w _)
  have hkw4 : Keeps q w w4 := (Keeps.of ((Below.refl _ _).alloc (Nat.le_refl _) _)).trans hk4
  have hw4 : w.heap.size < w4.heap.size := by have := hk4.size; simp at this; omega
  have H4 := Lib.hid (And.intro (And.intro m6 m7) (And.intro hs4 (And.intro hkw4 hR4)))
  clear hs4 hk4 hkw4 hR4 m6 m7 hcx c10
  unfold Tok.v
  go_wp2_with ((with_reducible refine store_own ?_ 76 (.tmp 2) (.tmp 26) ?_ w.heap.size #[.int .u8 (3 : Nat), .int .u8 (2 : Nat), .int .u8 (0 : Nat), .int .i64 off, .slice (some ⟨b, o5, none⟩) size c5, .string sz] ?_ ?_ 76 zeroTok H4.out.2.2.2 6 infoT ?_ ?_ ?_ q w H4.out.2.2.1 (Nat.le_refl _) ?_); rfl; rfl; rfl; rfl; rfl; rfl; rfl; (intro w7 hg7 hcs ho7 hs7 hk7); refine Hid.out ?_)
  refine Lib.hid ?_
  have c0 := hcs 0 _ rfl
  have c1 := hcs 1 _ rfl
  have c2 := hcs 2 _ rfl
  have c3 := hcs 3 _ rfl
  have c4 := hcs 4 _ rfl
  have c5' := hcs 5 _ rfl
  have HG7 := Lib.hid (And.intro ho7 (And.intro hs7 hk7))
  clear hg7 hcs ho7 hs7 hk7
  go_wp2
  refine bodyPost_ret (v := .tuple #[(⟨3, 2, 0, off, .slice (some ⟨b, o5, none⟩) size c5, sz⟩ : Tok).v, .nilIface]) (by simp [results, Tryz.results79, go_sem, Tok.v, c0, c1, c2, c3, c4, c5']) rfl ⟨⟨_, rfl, rfl, rfl, rfl, rfl, ⟨o5, c5, rfl, H4.out.1.1, H4.out.1.2⟩, rfl⟩, ?_, HG7.out.2.2⟩
  exact H4.out.2.1.same (HG7.out.1 q (by have := HQ.out; omega)) (HG7.out.1 b (by have := HQ.out; omega)) (by have := HG7.out.2.1; omega)

theorem reads_string (l : List UInt8) (os : List (List UInt8)) (hmax : l.length ≤ 140737488350000) (hb : Bl l os) (hne : os ≠ []) (hn : os.length ≤ 1000) :
    ReadsE (97 :: 58 :: 32 :: l) (l.length + 3) 3 2 0 (strOf os.flatten) := by
  obtain ⟨T, hT⟩ : ∃ T, T = 97 :: 58 :: 32 :: l := ⟨_, rfl⟩
  obtain ⟨L, hL⟩ : ∃ L, L = l.length + 3 := ⟨_, rfl⟩
  have hTL : T.length = L := by rw [hT, hL]; simp
  have g0 : T.getD 0 0 = 97 := by rw [hT]; rfl
  have g1 : T.getD 1 0 = 58 := by rw [hT]; rfl
  have g2 : T.getD 2 0 = 32 := by rw [hT]; rfl
  obtain ⟨p, s3p, hjn, hp⟩ := jn_of hb T 3 (by omega) (by rw [hT]; rfl)
  obtain ⟨hpL, hp34⟩ := hp hne
  rw [hTL] at hjn hpL
  rw [← hT, ← hL]
  have spp : Sk T p p := .stop p (fun _ => by rw [hp34]; exact ⟨rfl, by decide⟩)
  have s00 : Sk T 0 0 := .stop 0 (fun _ => by rw [g0]; exact ⟨rfl, by decide⟩)
  have s11 : Sk T (0 + 1) 1 := .stop 1 (fun _ => by rw [g1]; exact ⟨rfl, by decide⟩)
  have s2p : Sk T (1 + 1) p := .blank 2 p (by omega) (by rw [g2]; rfl) s3p
  refine ⟨fun q b cap hx W hs hE => ?_⟩
  refine (read_tok q b L cap 0 cap T hx tok0 (.slice none 0 0) 0 p 2 129 0 0 1 ⟨#[]⟩ W hs (by decide) (fun W' _ hs' => ?_)).mono ?_
  · exact next_field q b L cap 0 cap T hx tok0 (.slice none 0 0) 0 0 p 2 129 0 1 ⟨#[]⟩ W' hs' s00 (by omega) (fun W'' hs'' => field_name q b L cap 0 cap T hx tok0 (.slice none 0 0) 0 1 1 p W'' hs'' (Nat.le_refl _) (by rw [g0]; decide) (fun j hj => by
      obtain rfl : j = 0 := by omega
      rw [Nat.add_zero, g0]; decide) (fun _ => by rw [Nat.zero_add, g1]; decide) s11 (by omega) (by rw [g1]; rfl) s2p (by omega))
  rintro e W1 ⟨t1, rfl, hm1, hs1, hk1⟩
  refine ⟨t1, rfl, raw_sl hm1.2.2.2.2.1, hk1, fun W1' hb1 => ?_⟩
  refine (read_tok q b L cap 0 cap T hx t1 (.slice none 0 0) p L 3 2 0 p (L - p) (strOf os.flatten) W1' (hs1.below hx hb1) (by decide) (fun W' hk' hs' => ?_)).mono ?_
  · rw [hm1.1]
    exact next_scalar q b L cap 0 cap T hx t1 (.slice none 0 0) p p L 3 2 0 (L - p) (strOf os.flatten) W' hs' spp hpL (by rw [hp34]; decide) (fun W'' hk'' hs'' => scalar_string q b L cap 0 cap T hx t1 (.slice none 0 0) p L os hjn hne hn ⟨hpL, hp34⟩ W'' hs'' (fun w' h => hE w' (hk1.trans ((Keeps.of hb1).trans (hk'.trans (hk''.trans h))))))
  rintro e W2 ⟨t2, rfl, hm2, hs2, hk2⟩
  obtain ⟨_, _, _, _, _, hrow2, _⟩ := id hs2
  refine ⟨t2, rfl, ⟨hm2.1, hm2.2.1, hm2.2.2.1, hm2.2.2.2.2.2, p, L - p, hm2.2.2.2.2.1, by omega⟩, hrow2, hk2, fun W2' hb2 => ?_⟩
  refine (read_tok q b L cap 0 cap T hx t2 (.slice none 0 0) L L 1 0 0 L 0 ⟨#[]⟩ W2' (hs2.below hx hb2) (by decide) (fun W' _ hs' => ?_)).mono ?_
  · rw [hm2.1]
    exact next_end q b L cap 0 cap T hx t2 L W' hs' (.stop L (fun h => by omega))
  rintro e W3 ⟨t3, rfl, hm3, hs3, hk3⟩
  exact ⟨t3, rfl, hm3.1, raw_sl hm3.2.2.2.2.1, hk3⟩

end Go.Proofs.YtpneioocmpagmaaGreatDoor.tx
