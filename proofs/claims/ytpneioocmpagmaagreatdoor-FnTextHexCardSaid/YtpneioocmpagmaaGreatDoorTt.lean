/- The text form's reader: Read. -/
import Derived.Test.YtpneioocmpagmaaGreatDoorTs
namespace Go.Proofs.YtpneioocmpagmaaGreatDoor.tx
open Go.RowKit
set_option linter.unusedVariables false
set_option linter.unusedSimpArgs false

theorem keeps_below {q N : Nat} {a b c : World} (h : Keeps q a b) (hb : Below N b c) (hN : a.heap.size ≤ N) : Keeps q a c :=
  ⟨hb.os.trans h.os, hb.tape.trans h.tape, hb.output.trans h.output, Nat.le_trans h.size hb.size, fun i hi hq => (hb.block i (by omega)).trans (h.block i hi hq)⟩

/-- Behind the statement that takes a token from a callee: the token lies in block F; what lay below N stands. -/
structure AfterRd (w4 : World) (N F : Nat) (cells : Array Value) (W : World) : Prop where
  hF : N ≤ F
  hF' : F < W.heap.size
  cell : ∀ j v, cells[j]? = some v → W.cell? ⟨F, j, none⟩ = some v
  below : Below N w4 W

theorem rd_new {w4 : World} {N : Nat} {cells : Array Value} (hN : N ≤ w4.heap.size) : AfterRd w4 N w4.heap.size cells (w4.alloc (.cells cells 76)) := by
  refine ⟨hN, by simp, fun j v hj => ?_, (Below.refl _ _).alloc hN _⟩
  rw [cell_of_row _ _ _ _ _ _ (heap_alloc_new w4 _)]
  exact hj

theorem rd_drew {w4 W : World} {N F : Nat} {cells : Array Value} (h : AfterRd w4 N F cells W) : AfterRd w4 N F cells W.drew := ⟨h.hF, h.hF', h.cell, h.below.drew⟩

theorem rd_set {w4 : World} {N F : Nat} {c0 c1 c2 c3 c4 c5 d0 d1 d2 d3 d4 d5 : Value} (hF : N ≤ F) (hF' : F < w4.heap.size)
    (g0 : w4.cell? ⟨F, 0, none⟩ = some d0) (g1 : w4.cell? ⟨F, 1, none⟩ = some d1) (g2 : w4.cell? ⟨F, 2, none⟩ = some d2) (g3 : w4.cell? ⟨F, 3, none⟩ = some d3) (g4 : w4.cell? ⟨F, 4, none⟩ = some d4) (g5 : w4.cell? ⟨F, 5, none⟩ = some d5) :
    AfterRd w4 N F #[c0, c1, c2, c3, c4, c5] ((((((w4.setCell ⟨F, 0, none⟩ c0).setCell ⟨F, 1, none⟩ c1).setCell ⟨F, 2, none⟩ c2).setCell ⟨F, 3, none⟩ c3).setCell ⟨F, 4, none⟩ c4).setCell ⟨F, 5, none⟩ c5) := by
  refine ⟨hF, by simpa using hF', fun j v hj => ?_, ?_⟩
  · match j, hj with
    | 0, hj => obtain rfl := Option.some.inj (show some c0 = some v from hj); go_simp
    | 1, hj => obtain rfl := Option.some.inj (show some c1 = some v from hj); go_simp
    | 2, hj => obtain rfl := Option.some.inj (show some c2 = some v from hj); go_simp
    | 3, hj => obtain rfl := Option.some.inj (show some c3 = some v from hj); go_simp
    | 4, hj => obtain rfl := Option.some.inj (show some c4 = some v from hj); go_simp
    | 5, hj => obtain rfl := Option.some.inj (show some c5 = some v from hj); go_simp
    | j + 6, hj => exact absurd (Array.getElem?_eq_some_iff.1 hj).1 (by simp)
  · exact below_set (below_set (below_set (below_set (below_set (below_set (Below.refl _ _) _ hF _) _ hF _) _ hF _) _ hF _) _ hF _) _ hF _

theorem held_alloc {w4 : World} {N q : Nat} {x y : Value} (h : w4.cell? ⟨N, 0, none⟩ = some x ∧ w4.cell? ⟨q, 1, none⟩ = some y) (o : Obj) : (w4.alloc o).cell? ⟨N, 0, none⟩ = some x ∧ (w4.alloc o).cell? ⟨q, 1, none⟩ = some y :=
  ⟨(World.cell?_alloc_lt w4 _ _ (cell_lt h.1)).trans h.1, (World.cell?_alloc_lt w4 _ _ (cell_lt h.2)).trans h.2⟩

theorem held_set {w4 : World} {N q F : Nat} {x y c0 c1 c2 c3 c4 c5 : Value} (h : w4.cell? ⟨N, 0, none⟩ = some x ∧ w4.cell? ⟨q, 1, none⟩ = some y) (hN : ¬ F = N) (hq : ¬ F = q) :
    ((((((w4.setCell ⟨F, 0, none⟩ c0).setCell ⟨F, 1, none⟩ c1).setCell ⟨F, 2, none⟩ c2).setCell ⟨F, 3, none⟩ c3).setCell ⟨F, 4, none⟩ c4).setCell ⟨F, 5, none⟩ c5).cell? ⟨N, 0, none⟩ = some x ∧
    ((((((w4.setCell ⟨F, 0, none⟩ c0).setCell ⟨F, 1, none⟩ c1).setCell ⟨F, 2, none⟩ c2).setCell ⟨F, 3, none⟩ c3).setCell ⟨F, 4, none⟩ c4).setCell ⟨F, 5, none⟩ c5).cell? ⟨q, 1, none⟩ = some y := by
  have e1 : ∀ j, (⟨F, j, none⟩ : Addr) ≠ ⟨N, 0, none⟩ := fun j e => hN (congrArg Addr.block e)
  have e2 : ∀ j, (⟨F, j, none⟩ : Addr) ≠ ⟨q, 1, none⟩ := fun j e => hq (congrArg Addr.block e)
  refine ⟨?_, ?_⟩
  · rw [World.cell?_setCell_other _ _ _ _ (e1 5), World.cell?_setCell_other _ _ _ _ (e1 4), World.cell?_setCell_other _ _ _ _ (e1 3), World.cell?_setCell_other _ _ _ _ (e1 2), World.cell?_setCell_other _ _ _ _ (e1 1), World.cell?_setCell_other _ _ _ _ (e1 0)]
    exact h.1
  · rw [World.cell?_setCell_other _ _ _ _ (e2 5), World.cell?_setCell_other _ _ _ _ (e2 4), World.cell?_setCell_other _ _ _ _ (e2 3), World.cell?_setCell_other _ _ _ _ (e2 2), World.cell?_setCell_other _ _ _ _ (e2 1), World.cell?_setCell_other _ _ _ _ (e2 0)]
    exact h.2

set_option maxHeartbeats 4000000 in
set_option maxRecDepth 100000 in
theorem read_done (b1 q : Nat) (x : Value) (u : FrameMode) (w : World) (h1 : w.cell? ⟨b1, 0, none⟩ = some (.pointer (some ⟨q, 0, none⟩))) (h0 : w.cell? ⟨q, 0, none⟩ = some x) (hf : w.frozen? ⟨q, 0, none⟩ = false) :
    CallsD Tryz.prog 51 #[.pointer (some ⟨b1, 0, none⟩)] u w fun e u' w' => u' = u ∧ (e = .returned (.tuple #[]) ∧ w' = w.setCell ⟨q, 0, none⟩ (.int .u8 0)) := by
  go_enter_d Tryz.func51, Tryz.ntmps51
  go_wp2
  go_end0
  exact ⟨rfl, rfl⟩

set_option maxHeartbeats 8000000 in
set_option maxRecDepth 100000 in
theorem read_tok (q b L cap oo oc : Nat) (T : List UInt8) (hx : Cx q b L cap T) (t : Tok) (sv : Value) (pos p kd ats na posn size : Nat) (s : ByteArray) (w : World) (hs : St q b L cap oo oc T w t sv pos) (hkd : kd < 8)
    (hg : ∀ W, Keeps q w W → St q b L cap oo oc T W t sv pos → Calls Tryz.prog 52 #[.pointer (some ⟨q, 0, none⟩), .int .u8 t.kd] W fun e w' => Gave W q b L cap oo oc T t sv p kd ats na posn size s .nilIface e w') :
    Calls Tryz.prog 30 #[.pointer (some ⟨q, 0, none⟩)] w fun e w' =>
      ∃ t' : Tok, e = .returned (.tuple #[t'.v, .nilIface]) ∧ MkTok t' b posn size kd ats na s ∧ St q b L cap oo oc T w' t' sv p ∧ Keeps q w w' := by
  have hmf : ∀ (fn : Fn) (first cap : Array Value) (w : World), (Instr.makeFunc fn first cap).run Tryz.prog w = .ok (.func fn first cap) w := fun _ _ _ _ => rfl
  obtain ⟨off0, n0, c0', hin0, hd0, hr0, hq⟩ := id hs
  have k00 := dec_call hd0
  have hbq := hx.hbq
  have HS := Lib.hid (fun (W : World) (hW : Below w.heap.size w W) => hs.below hx hW)
  have HG := Lib.hid hg
  have hne1 : ¬ q = w.heap.size := by omega
  have hne2 : ¬ q = w.heap.size + 1 := by omega
  have hq1 : q < w.heap.size + 1 := by omega
  have hbl : b < w.heap.size := by omega
  have k8 : ((kd : Int) == 8) = false := by rw [beq_eq_false_iff_ne]; omega
  have k9 : ((kd : Int) == 9) = false := by rw [beq_eq_false_iff_ne]; omega
  have HBQ := Lib.hid hbq
  clear hd0 hr0 hin0 hx hs hg hkd hbq
  go_enter_defers Tryz.func30, Tryz.ntmps30
  go_wp2_with fail
  obtain ⟨W1, hW1⟩ : ∃ W1, W1 = (w.alloc (.cells #[.pointer (some ⟨q, 0, none⟩)] 72)).alloc (.cells #[.int .u8 0, .int .u8 0, .int .u8 0, .int .i64 0, .slice none 0 0, .string ⟨#[]⟩] 76) := ⟨_, rfl⟩
  have hs1 : W1.heap.size = w.heap.size + 2 := by rw [hW1]; simp
  have hbw1 : Below w.heap.size w W1 := by rw [hW1]; go_grown
  have hA1 : W1.cell? ⟨w.heap.size, 0, none⟩ = some (.pointer (some ⟨q, 0, none⟩)) := by rw [hW1]; go_simp
  have hR1 : W1.heap[w.heap.size + 1]? = some (.cells zeroTok 76 (0, 0)) := by
    rw [hW1]
    have e := heap_alloc_new (w.alloc (.cells #[.pointer (some ⟨q, 0, none⟩)] 72)) (.cells zeroTok 76)
    rw [World.size_alloc] at e
    exact e
  rw [← hW1]
  have hst1 := HS.out W1 hbw1
  have hlt0 : w.heap.size < W1.heap.size := by omega
  have hqW : q < W1.heap.size := by omega
  have hqF : ¬ W1.heap.size = q := by omega
  have hNF : ¬ W1.heap.size = w.heap.size := by omega
  have HK1 : Hid (∀ W, Below W1.heap.size W1 W → W.cell? ⟨w.heap.size, 0, none⟩ = some (.pointer (some ⟨q, 0, none⟩)) ∧ W.cell? ⟨q, 1, none⟩ = some (.int .u8 t.kd)) := Lib.hid (fun W hW => by
    obtain ⟨_, _, _, _, hd, _, _⟩ := id hst1
    exact ⟨(hW.cell (p := ⟨w.heap.size, 0, none⟩) hlt0).trans hA1, (hW.cell (p := ⟨q, 1, none⟩) hqW).trans (dec_kd hd)⟩)
  have H1 := Lib.hid (And.intro hbw1 (And.intro hA1 (And.intro hR1 (And.intro hst1 hs1))))
  clear hW1 hs1 hbw1 hA1 hR1 hst1 k00
  go_region_held3 (fun w' => w'.cell? ⟨w.heap.size, 0, none⟩ = some (.pointer (some ⟨q, 0, none⟩)) ∧ w'.cell? ⟨q, 1, none⟩ = some (.int .u8 t.kd))
    (first | with_reducible exact hk4S | with_reducible exact held_alloc hk4S _ | (with_reducible refine held_set hk4S ?_ ?_ <;> assumption) | (refine HK1.out _ ?_; go_grown) | go_keep | (refine ⟨?_, ?_⟩ <;> go_keep))
    ((go_at_call 52; refine (HG.out _ (Keeps.of (H1.out.1.trans (Below.mono (by go_grown) H1.out.1.size))) (HS.out _ (H1.out.1.trans (Below.mono (by go_grown) H1.out.1.size)))).mono ?_; rintro e w4 ⟨⟨t', rfl, hmk⟩, hs4, hk4⟩; have hk4' : Keeps q W1 w4 := Keeps.trans (Keeps.of (by go_grown)) hk4; have hk4S : w4.cell? ⟨w.heap.size, 0, none⟩ = some (.pointer (some ⟨q, 0, none⟩)) ∧ w4.cell? ⟨q, 1, none⟩ = some (.int .u8 t.kd) := ⟨(hk4'.cell (p := ⟨w.heap.size, 0, none⟩) hlt0 (fun e => hne1 e.symm)).trans H1.out.2.1, by obtain ⟨_, _, _, _, hd, _, _⟩ := id hs4; exact dec_kd hd⟩; obtain ⟨o5, c5, rfl, m6, m7⟩ := mk_tok hmk; have HM := Lib.hid (And.intro m6 m7); have HS4 := Lib.hid (And.intro hs4 hk4'); have hz4 := hk4.size; (try simp at hz4); have g0 := hk4.cell (p := ⟨W1.heap.size, 0, none⟩); have g1 := hk4.cell (p := ⟨W1.heap.size, 1, none⟩); have g2 := hk4.cell (p := ⟨W1.heap.size, 2, none⟩); have g3 := hk4.cell (p := ⟨W1.heap.size, 3, none⟩); have g4 := hk4.cell (p := ⟨W1.heap.size, 4, none⟩); have g5 := hk4.cell (p := ⟨W1.heap.size, 5, none⟩); have y0 := hk4.frozen (p := ⟨W1.heap.size, 0, none⟩); have y1 := hk4.frozen (p := ⟨W1.heap.size, 1, none⟩); have y2 := hk4.frozen (p := ⟨W1.heap.size, 2, none⟩); have y3 := hk4.frozen (p := ⟨W1.heap.size, 3, none⟩); have y4 := hk4.frozen (p := ⟨W1.heap.size, 4, none⟩); have y5 := hk4.frozen (p := ⟨W1.heap.size, 5, none⟩); (try simp [hqF] at g0 g1 g2 g3 g4 g5 y0 y1 y2 y3 y4 y5); clear hmk hs4 hk4 hk4' m6 m7; unfold Tok.v))
  case _ =>
      refine abs_exit (AfterRd w4 W1.heap.size _ #[.int .u8 kd, .int .u8 ats, .int .u8 na, .int .i64 posn, .slice (some ⟨b, o5, none⟩) size c5, .string s]) (rd_new hz4) ?_
      intro w5 ha5
      have hF5 := ha5.hF
      have hqF5 : ¬ w4.heap.size = q := by omega
      have hRF5 : ¬ w4.heap.size = w.heap.size + 1 := by have := H1.out.2.2.2.2; omega
      have hAF5 : ¬ w4.heap.size = w.heap.size := by omega
      have hbF5 : ¬ w4.heap.size = b := by have := HBQ.out; omega
      have HRl : Hid (w.heap.size + 1 < W1.heap.size) := Lib.hid (by have := H1.out.2.2.2.2; omega)
      have hs5 : St q b L cap oo oc T w5 t sv p := HS4.out.1.same (ha5.below.block q hqW) (ha5.below.block b (by have := HBQ.out; omega)) ha5.below.size
      have hA5 : w5.cell? ⟨w.heap.size, 0, none⟩ = some (.pointer (some ⟨q, 0, none⟩)) := (ha5.below.cell (p := ⟨w.heap.size, 0, none⟩) hlt0).trans hk4S.1
      have hR5 : w5.heap[w.heap.size + 1]? = some (.cells zeroTok 76 (0, 0)) := (ha5.below.block _ HRl.out).trans ((HS4.out.2.block _ HRl.out (fun e => hne2 e.symm)).trans H1.out.2.2.1)
      have hkw5 : Keeps q w w5 := keeps_below ((Keeps.of H1.out.1).trans HS4.out.2) ha5.below (Nat.le_of_lt hlt0)
      have f0 := ha5.cell 0 _ rfl
      have f1 := ha5.cell 1 _ rfl
      have f2 := ha5.cell 2 _ rfl
      have f3 := ha5.cell 3 _ rfl
      have f4 := ha5.cell 4 _ rfl
      have f5 := ha5.cell 5 _ rfl
      obtain ⟨off, n, c, hin5, hd5, hr5, hq5⟩ := hs5
      have hz5 : w.heap.size + 1 < w5.heap.size := (Array.getElem?_eq_some_iff.1 hR5).1
      have HG5 : Hid (w5.heap[q]? = some (.cells (decRow t sv (.slice (some ⟨b, oo, none⟩) L oc) (inV b off n c)) 104 (0, 0))) := Lib.hid hd5
      have H5 := Lib.hid (And.intro hin5 (And.intro hd5 (And.intro hr5 (And.intro hR5 hA5))))
      clear ha5 hin5 hr5 hR5 hd5 hk4S
      go_wp2_with ((with_reducible refine store_seg ?_ 76 (.tmp 53) (.tmp 51) ?_ q 1 #[.int .u8 kd, .int .u8 ats, .int .u8 na, .int .i64 posn, .slice (some ⟨b, o5, none⟩) size c5, .string s] ?_ ?_ 104 (decRow t sv (.slice (some ⟨b, oo, none⟩) L oc) (inV b off n c)) (decRow ⟨kd, ats, na, posn, .slice (some ⟨b, o5, none⟩) size c5, s⟩ sv (.slice (some ⟨b, oo, none⟩) L oc) (inV b off n c)) HG5.out 6 infoT ?_ ?_ ?_ ?_ w hkw5 ?_); rfl; rfl; rfl; rfl; rfl; (show 1 + 6 ≤ 11; omega); rfl; rfl; (intro w6 hg6 ho6 hs6 hk6); refine Hid.out ?_)
      refine Lib.hid ?_
      have oc6 : ∀ a : Addr, a.block ≠ q → w6.cell? a = w5.cell? a := fun a ha => by
        unfold World.cell?
        rw [ho6 a.block ha]
      have hA6 : w6.cell? ⟨w.heap.size, 0, none⟩ = some (.pointer (some ⟨q, 0, none⟩)) := (oc6 _ (fun e => hne1 e.symm)).trans hA5
      have hR6 : w6.heap[w.heap.size + 1]? = some (.cells zeroTok 76 (0, 0)) := (ho6 _ (fun e => hne2 e.symm)).trans H5.out.2.2.2.1
      have e0 : w6.cell? ⟨w4.heap.size, 0, none⟩ = some (.int .u8 kd) := (oc6 _ hqF5).trans f0
      have e1 : w6.cell? ⟨w4.heap.size, 1, none⟩ = some (.int .u8 ats) := (oc6 _ hqF5).trans f1
      have e2 : w6.cell? ⟨w4.heap.size, 2, none⟩ = some (.int .u8 na) := (oc6 _ hqF5).trans f2
      have e3 : w6.cell? ⟨w4.heap.size, 3, none⟩ = some (.int .i64 posn) := (oc6 _ hqF5).trans f3
      have e4 : w6.cell? ⟨w4.heap.size, 4, none⟩ = some (.slice (some ⟨b, o5, none⟩) size c5) := (oc6 _ hqF5).trans f4
      have e5 : w6.cell? ⟨w4.heap.size, 5, none⟩ = some (.string s) := (oc6 _ hqF5).trans f5
      have hrow6 : w6.heap[b]? = w5.heap[b]? := ho6 b (by have := HBQ.out; omega)
      have hz6 : w.heap.size + 1 < w6.heap.size := by omega
      have H6 := Lib.hid (And.intro hg6 (And.intro hrow6 (And.intro hA6 hs6)))
      clear f0 f1 f2 f3 f4 f5 oc6 hA5 hkw5 hg6 ho6 hs6 hrow6 hA6 hz5
      go_wp2_with ((with_reducible refine store_own ?_ 76 (.tmp 2) (.tmp 54) ?_ (w.heap.size + 1) #[.int .u8 kd, .int .u8 ats, .int .u8 na, .int .i64 posn, .slice (some ⟨b, o5, none⟩) size c5, .string s] ?_ ?_ 76 zeroTok hR6 6 infoT ?_ ?_ ?_ q w hk6 (Nat.le_succ _) ?_); rfl; rfl; rfl; rfl; rfl; rfl; rfl; (intro w7 hg7 hcs ho7 hs7 hk7); refine Hid.out ?_)
      refine Lib.hid ?_
      have c0 := hcs 0 _ rfl
      have c1 := hcs 1 _ rfl
      have c2 := hcs 2 _ rfl
      have c3 := hcs 3 _ rfl
      have c4 := hcs 4 _ rfl
      have c5' := hcs 5 _ rfl
      have hgq7 := (ho7 q hne2).trans H6.out.1
      have hA7 : w7.cell? ⟨w.heap.size, 0, none⟩ = some (.pointer (some ⟨q, 0, none⟩)) := by
        rw [← H6.out.2.2.1]
        unfold World.cell?
        rw [ho7 w.heap.size (by omega)]
      have hrow7 : w7.heap[b]? = w5.heap[b]? := (ho7 b (by have := HBQ.out; omega)).trans H6.out.2.1
      have H7 := Lib.hid (And.intro hrow7 (And.intro hs7 hk7))
      clear hcs hg7 ho7 hs7 hk7 e0 e1 e2 e3 e4 e5 hR6 hk6 hrow7
      go_wp2
      refine leaves_cons (f := 51) (args := #[.pointer (some ⟨w.heap.size, 0, none⟩)]) (by simp) (by simp [go_sem]) ?_
      refine (read_done w.heap.size q (.int .u8 0) .returning _ hA7 (blk_cell hgq7 rfl) (blk_frozen hgq7 0)).mono ?_
      rintro e u' w8 ⟨rfl, rfl, rfl⟩
      have hne : ∀ j, (⟨q, 0, none⟩ : Addr) ≠ ⟨w.heap.size + 1, j, none⟩ := fun j e => hne2 (congrArg Addr.block e)
      have d0 : (w7.setCell ⟨q, 0, none⟩ (.int .u8 0)).cell? ⟨w.heap.size + 1, 0, none⟩ = some (.int .u8 kd) := by rw [World.cell?_setCell_other w7 _ _ _ (hne 0)]; exact c0
      have d1 : (w7.setCell ⟨q, 0, none⟩ (.int .u8 0)).cell? ⟨w.heap.size + 1, 1, none⟩ = some (.int .u8 ats) := by rw [World.cell?_setCell_other w7 _ _ _ (hne 1)]; exact c1
      have d2 : (w7.setCell ⟨q, 0, none⟩ (.int .u8 0)).cell? ⟨w.heap.size + 1, 2, none⟩ = some (.int .u8 na) := by rw [World.cell?_setCell_other w7 _ _ _ (hne 2)]; exact c2
      have d3 : (w7.setCell ⟨q, 0, none⟩ (.int .u8 0)).cell? ⟨w.heap.size + 1, 3, none⟩ = some (.int .i64 posn) := by rw [World.cell?_setCell_other w7 _ _ _ (hne 3)]; exact c3
      have d4 : (w7.setCell ⟨q, 0, none⟩ (.int .u8 0)).cell? ⟨w.heap.size + 1, 4, none⟩ = some (.slice (some ⟨b, o5, none⟩) size c5) := by rw [World.cell?_setCell_other w7 _ _ _ (hne 4)]; exact c4
      have d5 : (w7.setCell ⟨q, 0, none⟩ (.int .u8 0)).cell? ⟨w.heap.size + 1, 5, none⟩ = some (.string s) := by rw [World.cell?_setCell_other w7 _ _ _ (hne 5)]; exact c5'
      have hfin : ∃ t' : Tok, (⟨kd, ats, na, posn, .slice (some ⟨b, o5, none⟩) size c5, s⟩ : Tok).v = t'.v ∧ MkTok t' b posn size kd ats na s ∧ St q b L cap oo oc T (w7.setCell ⟨q, 0, none⟩ (.int .u8 0)) t' sv p ∧ Keeps q w (w7.setCell ⟨q, 0, none⟩ (.int .u8 0)) := by
        refine ⟨_, rfl, ⟨rfl, rfl, rfl, rfl, ⟨o5, c5, rfl, HM.out.1, HM.out.2⟩, rfl⟩, ⟨off, n, c, H5.out.1, blk_set hgq7 0 _, fun j hj => ?_, by simp; have := H7.out.2.1; have := H6.out.2.2.2; omega⟩, H7.out.2.2.setCell 0 _⟩
        rw [World.cell?_setCell_other w7 _ _ _ (fun e => by have := congrArg Addr.block e; have := HBQ.out; simp only at *; omega), ← H5.out.2.2.1 j hj]
        unfold World.cell?
        rw [H7.out.1]
      have HFIN := Lib.hid hfin
      clear hfin hgq7 hA7
      simp [Leaves, settle, results, Tryz.results30, go_sem, d0, d1, d2, d3, d4, d5]
      exact HFIN.out
  case _ =>
      refine abs_exit (AfterRd w4 W1.heap.size _ #[.int .u8 kd, .int .u8 ats, .int .u8 na, .int .i64 posn, .slice (some ⟨b, o5, none⟩) size c5, .string s]) (rd_set (Nat.le_refl _) (by omega) g0 g1 g2 g3 g4 g5) ?_
      intro w5 ha5
      have hF5 := ha5.hF
      have hqF5 : ¬ W1.heap.size = q := by omega
      have hRF5 : ¬ W1.heap.size = w.heap.size + 1 := by have := H1.out.2.2.2.2; omega
      have hAF5 : ¬ W1.heap.size = w.heap.size := by omega
      have hbF5 : ¬ W1.heap.size = b := by have := HBQ.out; omega
      have HRl : Hid (w.heap.size + 1 < W1.heap.size) := Lib.hid (by have := H1.out.2.2.2.2; omega)
      have hs5 : St q b L cap oo oc T w5 t sv p := HS4.out.1.same (ha5.below.block q hqW) (ha5.below.block b (by have := HBQ.out; omega)) ha5.below.size
      have hA5 : w5.cell? ⟨w.heap.size, 0, none⟩ = some (.pointer (some ⟨q, 0, none⟩)) := (ha5.below.cell (p := ⟨w.heap.size, 0, none⟩) hlt0).trans hk4S.1
      have hR5 : w5.heap[w.heap.size + 1]? = some (.cells zeroTok 76 (0, 0)) := (ha5.below.block _ HRl.out).trans ((HS4.out.2.block _ HRl.out (fun e => hne2 e.symm)).trans H1.out.2.2.1)
      have hkw5 : Keeps q w w5 := keeps_below ((Keeps.of H1.out.1).trans HS4.out.2) ha5.below (Nat.le_of_lt hlt0)
      have f0 := ha5.cell 0 _ rfl
      have f1 := ha5.cell 1 _ rfl
      have f2 := ha5.cell 2 _ rfl
      have f3 := ha5.cell 3 _ rfl
      have f4 := ha5.cell 4 _ rfl
      have f5 := ha5.cell 5 _ rfl
      obtain ⟨off, n, c, hin5, hd5, hr5, hq5⟩ := hs5
      have hz5 : w.heap.size + 1 < w5.heap.size := (Array.getElem?_eq_some_iff.1 hR5).1
      have HG5 : Hid (w5.heap[q]? = some (.cells (decRow t sv (.slice (some ⟨b, oo, none⟩) L oc) (inV b off n c)) 104 (0, 0))) := Lib.hid hd5
      have H5 := Lib.hid (And.intro hin5 (And.intro hd5 (And.intro hr5 (And.intro hR5 hA5))))
      clear ha5 hin5 hr5 hR5 hd5 hk4S g0 g1 g2 g3 g4 g5 y0 y1 y2 y3 y4 y5
      go_wp2_with ((with_reducible refine store_seg ?_ 76 (.tmp 53) (.tmp 51) ?_ q 1 #[.int .u8 kd, .int .u8 ats, .int .u8 na, .int .i64 posn, .slice (some ⟨b, o5, none⟩) size c5, .string s] ?_ ?_ 104 (decRow t sv (.slice (some ⟨b, oo, none⟩) L oc) (inV b off n c)) (decRow ⟨kd, ats, na, posn, .slice (some ⟨b, o5, none⟩) size c5, s⟩ sv (.slice (some ⟨b, oo, none⟩) L oc) (inV b off n c)) HG5.out 6 infoT ?_ ?_ ?_ ?_ w hkw5 ?_); rfl; rfl; rfl; rfl; rfl; (show 1 + 6 ≤ 11; omega); rfl; rfl; (intro w6 hg6 ho6 hs6 hk6); refine Hid.out ?_)
      refine Lib.hid ?_
      have oc6 : ∀ a : Addr, a.block ≠ q → w6.cell? a = w5.cell? a := fun a ha => by
        unfold World.cell?
        rw [ho6 a.block ha]
      have hA6 : w6.cell? ⟨w.heap.size, 0, none⟩ = some (.pointer (some ⟨q, 0, none⟩)) := (oc6 _ (fun e => hne1 e.symm)).trans hA5
      have hR6 : w6.heap[w.heap.size + 1]? = some (.cells zeroTok 76 (0, 0)) := (ho6 _ (fun e => hne2 e.symm)).trans H5.out.2.2.2.1
      have e0 : w6.cell? ⟨W1.heap.size, 0, none⟩ = some (.int .u8 kd) := (oc6 _ hqF5).trans f0
      have e1 : w6.cell? ⟨W1.heap.size, 1, none⟩ = some (.int .u8 ats) := (oc6 _ hqF5).trans f1
      have e2 : w6.cell? ⟨W1.heap.size, 2, none⟩ = some (.int .u8 na) := (oc6 _ hqF5).trans f2
      have e3 : w6.cell? ⟨W1.heap.size, 3, none⟩ = some (.int .i64 posn) := (oc6 _ hqF5).trans f3
      have e4 : w6.cell? ⟨W1.heap.size, 4, none⟩ = some (.slice (some ⟨b, o5, none⟩) size c5) := (oc6 _ hqF5).trans f4
      have e5 : w6.cell? ⟨W1.heap.size, 5, none⟩ = some (.string s) := (oc6 _ hqF5).trans f5
      have hrow6 : w6.heap[b]? = w5.heap[b]? := ho6 b (by have := HBQ.out; omega)
      have hz6 : w.heap.size + 1 < w6.heap.size := by omega
      have H6 := Lib.hid (And.intro hg6 (And.intro hrow6 (And.intro hA6 hs6)))
      clear f0 f1 f2 f3 f4 f5 oc6 hA5 hkw5 hg6 ho6 hs6 hrow6 hA6 hz5
      go_wp2_with ((with_reducible refine store_own ?_ 76 (.tmp 2) (.tmp 54) ?_ (w.heap.size + 1) #[.int .u8 kd, .int .u8 ats, .int .u8 na, .int .i64 posn, .slice (some ⟨b, o5, none⟩) size c5, .string s] ?_ ?_ 76 zeroTok hR6 6 infoT ?_ ?_ ?_ q w hk6 (Nat.le_succ _) ?_); rfl; rfl; rfl; rfl; rfl; rfl; rfl; (intro w7 hg7 hcs ho7 hs7 hk7); refine Hid.out ?_)
      refine Lib.hid ?_
      have c0 := hcs 0 _ rfl
      have c1 := hcs 1 _ rfl
      have c2 := hcs 2 _ rfl
      have c3 := hcs 3 _ rfl
      have c4 := hcs 4 _ rfl
      have c5' := hcs 5 _ rfl
      have hgq7 := (ho7 q hne2).trans H6.out.1
      have hA7 : w7.cell? ⟨w.heap.size, 0, none⟩ = some (.pointer (some ⟨q, 0, none⟩)) := by
        rw [← H6.out.2.2.1]
        unfold World.cell?
        rw [ho7 w.heap.size (by omega)]
      have hrow7 : w7.heap[b]? = w5.heap[b]? := (ho7 b (by have := HBQ.out; omega)).trans H6.out.2.1
      have H7 := Lib.hid (And.intro hrow7 (And.intro hs7 hk7))
      clear hcs hg7 ho7 hs7 hk7 e0 e1 e2 e3 e4 e5 hR6 hk6 hrow7
      go_wp2
      refine leaves_cons (f := 51) (args := #[.pointer (some ⟨w.heap.size, 0, none⟩)]) (by simp) (by simp [go_sem]) ?_
      refine (read_done w.heap.size q (.int .u8 0) .returning _ hA7 (blk_cell hgq7 rfl) (blk_frozen hgq7 0)).mono ?_
      rintro e u' w8 ⟨rfl, rfl, rfl⟩
      have hne : ∀ j, (⟨q, 0, none⟩ : Addr) ≠ ⟨w.heap.size + 1, j, none⟩ := fun j e => hne2 (congrArg Addr.block e)
      have d0 : (w7.setCell ⟨q, 0, none⟩ (.int .u8 0)).cell? ⟨w.heap.size + 1, 0, none⟩ = some (.int .u8 kd) := by rw [World.cell?_setCell_other w7 _ _ _ (hne 0)]; exact c0
      have d1 : (w7.setCell ⟨q, 0, none⟩ (.int .u8 0)).cell? ⟨w.heap.size + 1, 1, none⟩ = some (.int .u8 ats) := by rw [World.cell?_setCell_other w7 _ _ _ (hne 1)]; exact c1
      have d2 : (w7.setCell ⟨q, 0, none⟩ (.int .u8 0)).cell? ⟨w.heap.size + 1, 2, none⟩ = some (.int .u8 na) := by rw [World.cell?_setCell_other w7 _ _ _ (hne 2)]; exact c2
      have d3 : (w7.setCell ⟨q, 0, none⟩ (.int .u8 0)).cell? ⟨w.heap.size + 1, 3, none⟩ = some (.int .i64 posn) := by rw [World.cell?_setCell_other w7 _ _ _ (hne 3)]; exact c3
      have d4 : (w7.setCell ⟨q, 0, none⟩ (.int .u8 0)).cell? ⟨w.heap.size + 1, 4, none⟩ = some (.slice (some ⟨b, o5, none⟩) size c5) := by rw [World.cell?_setCell_other w7 _ _ _ (hne 4)]; exact c4
      have d5 : (w7.setCell ⟨q, 0, none⟩ (.int .u8 0)).cell? ⟨w.heap.size + 1, 5, none⟩ = some (.string s) := by rw [World.cell?_setCell_other w7 _ _ _ (hne 5)]; exact c5'
      have hfin : ∃ t' : Tok, (⟨kd, ats, na, posn, .slice (some ⟨b, o5, none⟩) size c5, s⟩ : Tok).v = t'.v ∧ MkTok t' b posn size kd ats na s ∧ St q b L cap oo oc T (w7.setCell ⟨q, 0, none⟩ (.int .u8 0)) t' sv p ∧ Keeps q w (w7.setCell ⟨q, 0, none⟩ (.int .u8 0)) := by
        refine ⟨_, rfl, ⟨rfl, rfl, rfl, rfl, ⟨o5, c5, rfl, HM.out.1, HM.out.2⟩, rfl⟩, ⟨off, n, c, H5.out.1, blk_set hgq7 0 _, fun j hj => ?_, by simp; have := H7.out.2.1; have := H6.out.2.2.2; omega⟩, H7.out.2.2.setCell 0 _⟩
        rw [World.cell?_setCell_other w7 _ _ _ (fun e => by have := congrArg Addr.block e; have := HBQ.out; simp only at *; omega), ← H5.out.2.2.1 j hj]
        unfold World.cell?
        rw [H7.out.1]
      have HFIN := Lib.hid hfin
      clear hfin hgq7 hA7
      simp [Leaves, settle, results, Tryz.results30, go_sem, d0, d1, d2, d3, d4, d5]
      exact HFIN.out

end Go.Proofs.YtpneioocmpagmaaGreatDoor.tx

