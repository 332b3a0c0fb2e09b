/- impl.jsonRead, impl.JsonTokens at a text that is one string. -/
import Derived.Test.YtonfdfikgnhheaaGreatDoorJy
import Derived.Test.YtonfdfikgnhheaaGreatDoorJe
namespace Go.Proofs.YtonfdfikgnhheaaGreatDoor.js
open Go.RowKit
set_option linter.unusedVariables false
set_option linter.unusedSimpArgs false

def zeroJ : Value := .agg #[.int .i64 0, .int .i64 0, .bool false, .string ⟨#[]⟩, .string ⟨#[]⟩]
theorem infoJ3 : (Tryz.prog.info? 39).map (fun i => (i.zero, i.size, i.bytes)) = some (some zeroJ, 5, 56) := by kernel_rfl

def jtA (p : Int) (raw s : ByteArray) : List Value := [.int .i64 16, .int .i64 p, .bool false, .string raw, .string s]

/-- The one token. -/
def TSays (B : Nat) (tx ot : List UInt8) (e : Ending) (w' : World) : Prop := ∃ v', e = .returned (.tuple #[v', .bool true]) ∧ w'.ownsRow B 39 5 v' 1 (jtA 0 ⟨tx.toArray⟩ ⟨ot.toArray⟩)

theorem own_keeps {B q : Nat} {e : TypeId} {k : Nat} {v : Value} {n : Nat} {xs : List Value} {w w' : World} (h : w.ownsRow B e k v n xs) (hb : Keeps q w w') (hq : q < B) : w'.ownsRow B e k v n xs := by
  obtain ⟨h0, h1 | ⟨g, cap, cur, h1, h2, h3, h4⟩⟩ := h
  · exact ⟨h0, .inl h1⟩
  · exact ⟨h0, .inr ⟨g, cap, cur, h1, h2, (hb.block g (Array.getElem?_eq_some_iff.1 h3).1 (by omega)).trans h3, h4⟩⟩

theorem jtA_one (p : Int) (raw s : ByteArray) : ∀ u ∈ jtA p raw s, u.oneCell' = true := by
  intro u hu
  unfold jtA at hu
  simp only [List.mem_cons, List.not_mem_nil, or_false] at hu
  rcases hu with rfl | rfl | rfl | rfl | rfl
  all_goals rfl

theorem jtA_cells (W : World) (p : Int) (raw s : ByteArray) (T : TypeId) : ∀ j u, (jtA p raw s)[j]? = some u → (W.alloc (.cells #[.int .i64 16, .int .i64 p, .bool false, .string raw, .string s] T)).cell? ((⟨W.heap.size, 0, none⟩ : Addr).add j) = some u := by
  intro j u hu
  rw [add_pos, Nat.zero_add, blk_cell (heap_alloc_new W _) (j := j) (v := u) (by unfold jtA at hu; simpa using hu)]

set_option maxHeartbeats 8000000 in
set_option maxRecDepth 100000 in
theorem json_read (q b L cap : Nat) (oo on oc : Nat) (T m ot : List UInt8) (hTm : T = 34 :: m) (hT : T.length = L) (hL : L ≤ cap) (hcap : cap ≤ 9223372036854775807) (hL47 : L ≤ 140737488355000) (hon : on = L) (w : World) (hq : q < w.heap.size) (hbq : b < q)
    (hd : DecAt w q 0 0 (.slice none 0 0) false ⟨#[]⟩ (.slice none 0 0) (.slice (some ⟨b, oo, none⟩) on oc) (inV b 0 L cap)) (hr : RowM w b 0 T)
    (hju : Ju [] m ot) (hvm : Lib.validD m = true) (hE : ∀ w', Below q w w' → DecEnv w') :
    Calls Tryz.prog 33 #[.pointer (some ⟨q, 0, none⟩), .slice none 0 0, .slice none 0 0] w fun e w' => TSays w.heap.size T ot e w' ∧ Keeps q w w' := by
  have hsk : skip T 0 = 0 := skip_stop (fun _ => by rw [hTm]; rfl)
  have hskL : skip T L = L := skip_stop (fun h => by omega)
  have hml : m.length + 1 = L := by rw [← hT, hTm]; rfl
  have R1 := read_string q b L cap 0 0 L cap 0 (.slice none 0 0) false ⟨#[]⟩ oo on oc T [] m ot hT hL hcap hL47 hon ⟨by omega, hL, Nat.le_refl _, fun _ => ⟨rfl, rfl⟩⟩ w hq hbq hd hr (by rw [hsk, List.drop_zero]; exact hTm) hju hvm hE
  rw [hsk, show m.length + 1 - ([] : List UInt8).length = L from by simp; omega] at R1
  unfold Took at R1
  rw [show 0 + L = L from by omega, hskL] at R1
  have HR1 := Lib.hid R1
  have HRW := Lib.hid hr
  have HS := Lib.hid (And.intro hT (And.intro hon hskL))
  clear R1 hd hr hju hvm hE hsk hskL hTm hml hT hon
  unfold TSays
  obtain ⟨raw, hraw⟩ : ∃ raw : ByteArray, raw = ⟨T.toArray⟩ := ⟨_, rfl⟩
  obtain ⟨so, hso⟩ : ∃ so : ByteArray, so = ⟨ot.toArray⟩ := ⟨_, rfl⟩
  rw [← hraw, ← hso]
  have HRO := Lib.hid (And.intro hraw hso)
  clear hraw hso
  go_enter Tryz.func33, Tryz.ntmps33
  go_wp2_with fail
  refine wp_loop_rounds 2 ?_
  rw [rounds_succ]
  go_wp2_with fail
  refine HR1.out.mono ?_
  rintro e w2 ⟨c', rfl, hk2, off', n', c2, hin, hd2⟩
  have hq2 : q < w2.heap.size := Nat.lt_of_lt_of_le hq hk2.size
  have hr2 : RowM w2 b 0 T := hk2.row HRW.out (by omega) (by omega)
  have H2 := Lib.hid (And.intro hk2 (And.intro hin (And.intro hd2 hr2)))
  have hz2 := hk2.size
  clear hk2 hin hd2 hr2
  unfold tokV
  rw [← HRO.out.2]
  have HKd : Hid (∀ W, Calls Tryz.prog 37 #[.agg #[.int .u16 16, .int .i64 0, .slice (some ⟨b, 0, none⟩) L c', .bool false, .string so]] W fun e w' => e = .returned (.int .u16 16) ∧ Below W.heap.size W w') := Lib.hid (fun W => (tok_kind 16 0 (some ⟨b, 0, none⟩) L c' false so W).mono fun e w' ⟨he, hw⟩ => ⟨he, by rw [hw]; exact (Below.refl _ _).alloc (Nat.le_refl _) _⟩)
  have HJT : Hid (∀ W, Below w2.heap.size w2 W → Calls Tryz.prog 64 #[.agg #[.int .u16 16, .int .i64 0, .slice (some ⟨b, 0, none⟩) L c', .bool false, .string so]] W fun e w' => e = .returned (jtV 16 0 false raw so) ∧ Below W.heap.size W w') := Lib.hid (fun W hW => by rw [HRO.out.1]; exact json_token 0 b 0 L c' so T HS.out.1 W (by have := hW.size; omega) (hW.row H2.out.2.2.2 (by omega)))
  go_wp2_with fail
  refine (HKd.out _).mono ?_
  rintro e w3 ⟨rfl, hb3⟩
  have hX3 := hb3.size
  rw [World.size_alloc] at hX3
  have t9 : w3.heap[w2.heap.size]? = some (.cells #[.int .u16 16, .int .i64 0, .slice (some ⟨b, 0, none⟩) L c', .bool false, .string so] 82 (0, 0)) := (hb3.block w2.heap.size (by simp)).trans (heap_alloc_new w2 _)
  have hb23 : Below w2.heap.size w2 w3 := ((Below.refl _ _).alloc (Nat.le_refl _) _).trans (hb3.mono (by simp))
  have y0 : w3.cell? ⟨w2.heap.size, 0, none⟩ = some (.int .u16 16) := blk_cell t9 rfl
  have y1 : w3.cell? ⟨w2.heap.size, 1, none⟩ = some (.int .i64 0) := blk_cell t9 rfl
  have y2 : w3.cell? ⟨w2.heap.size, 2, none⟩ = some (.slice (some ⟨b, 0, none⟩) L c') := blk_cell t9 rfl
  have y3 : w3.cell? ⟨w2.heap.size, 3, none⟩ = some (.bool false) := blk_cell t9 rfl
  have y4 : w3.cell? ⟨w2.heap.size, 4, none⟩ = some (.string so) := blk_cell t9 rfl
  have HJ3 := Lib.hid (HJT.out w3 hb23)
  have H3 := Lib.hid hb23
  clear hb3 t9 hb23
  go_wp2_with fail
  refine HJ3.out.mono ?_
  rintro e w4 ⟨rfl, hb4⟩
  have hb24 : Below w2.heap.size w2 w4 := H3.out.trans (hb4.mono H3.out.size)
  have H4 := Lib.hid hb24
  have hz4 := hb24.size
  clear hb4 hb24 y0 y1 y2 y3 y4
  unfold jtV
  obtain ⟨i0, hi, hz0, hz1, hzb⟩ := info_parts infoJ3
  have HI := Lib.hid (And.intro hi (And.intro hz0 (And.intro hz1 hzb)))
  clear hi hz0 hz1 hzb
  go_wp2_with (at_builtin; go_loud (refine wpList_append_own _ rfl _ _ 34 rfl w.heap.size 39 i0 zeroJ 5 56 Tryz.underlying34 HI.out.1 HI.out.2.1 HI.out.2.2.1 HI.out.2.2.2 rfl (by decide) (.slice none 0 0) 0 [] rfl (World.ownsRow_nil _ _ _ _) ⟨w4.heap.size, 0, none⟩ 1 1 (jtA 0 raw so) rfl rfl (jtA_cells _ _ _ _ _) (jtA_one _ _ _) (by decide) (by decide) (by simp; omega) (fun v5 w5 h1 h2 _ => ?_)); have P := Lib.hid (And.intro h1 h2); clear h1 h2)
  obtain ⟨hown, hgr⟩ := P.out
  have hb25 : Below w2.heap.size w2 w5 := (H4.out.trans ((Below.refl _ _).alloc (Nat.le_refl _) _ |>.mono hz4)).grown hgr (by simp; omega) (fun k e => by cases e)
  have hk5 : Keeps q w w5 := H2.out.1.trans (Keeps.of hb25)
  have hz5 := hb25.size
  have hd5 := (hb25.block q hq2).trans H2.out.2.2.1
  have R2 := read_end q b L cap L off' n' c2 16 0 (.slice (some ⟨b, 0, none⟩) L c') false ⟨ot.toArray⟩ oo on oc T HS.out.1 (by omega) (by omega) HS.out.2.1 H2.out.2.1 w5 (by omega) hbq hd5 (hb25.row H2.out.2.2.2 (by omega)) HS.out.2.2 (by decide)
  have HR2 := Lib.hid R2
  have HK5 := Lib.hid hk5
  have hown' : w5.ownsRow w.heap.size 39 5 v5 1 (jtA 0 raw so) := by simpa using hown
  have HO := Lib.hid hown'
  obtain ⟨va, vc, rfl⟩ : ∃ va vc, v5 = .slice va 1 vc := by
    rcases hown'.2 with ⟨_, h0⟩ | ⟨g, cap', cur, rfl, _⟩
    · exact absurd h0 (by decide)
    · exact ⟨_, _, rfl⟩
  clear R2 hk5 hown hown' hgr hb25 hd5 P H2 H3 H4 HJ3 HJT HKd HR1 HRW
  rw [rounds_succ]
  go_wp2_with fail
  refine HR2.out.mono ?_
  rintro e w6 ⟨⟨rx, rn, rc, rfl⟩, hk6⟩
  unfold tokV
  have HF := Lib.hid (And.intro (own_keeps HO.out hk6 hq) (HK5.out.trans hk6))
  have hz6 := hk6.size
  have HKe : Hid (∀ W, Calls Tryz.prog 37 #[.agg #[.int .u16 1, .int .i64 L, .slice rx rn rc, .bool false, .string ⟨#[]⟩]] W fun e w' => e = .returned (.int .u16 1) ∧ Below W.heap.size W w') := Lib.hid (fun W => (tok_kind 1 L rx rn rc false ⟨#[]⟩ W).mono fun e w' ⟨he, hw⟩ => ⟨he, by rw [hw]; exact (Below.refl _ _).alloc (Nat.le_refl _) _⟩)
  clear hk6
  go_wp2_with fail
  refine (HKe.out _).mono ?_
  rintro e w7 ⟨rfl, hb7⟩
  have hX7 := hb7.size
  rw [World.size_alloc] at hX7
  have hb67 : Below w6.heap.size w6 w7 := ((Below.refl _ _).alloc (Nat.le_refl _) _).trans (hb7.mono (by simp))
  have H7 := Lib.hid hb67
  clear hb7 hb67
  go_wp2_with fail
  refine bodyPost_ret (v := .tuple #[.slice va 1 vc, .bool true]) (by simp [results, Tryz.results33, go_sem]) rfl ⟨⟨_, rfl, own_keeps HF.out.1 (Keeps.of H7.out) hq⟩, HF.out.2.trans (Keeps.of H7.out)⟩

end Go.Proofs.YtonfdfikgnhheaaGreatDoor.js
