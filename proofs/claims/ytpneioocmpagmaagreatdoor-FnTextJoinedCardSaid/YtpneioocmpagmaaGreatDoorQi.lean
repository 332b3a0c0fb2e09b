/- The text form's reader: parseStringValue. -/
import Derived.Test.YtpneioocmpagmaaGreatDoorQg
import Derived.Test.YtpneioocmpagmaaGreatDoorQh
import Derived.Test.YtpneioocmpagmaaGreatDoorTt
namespace Go.Proofs.YtpneioocmpagmaaGreatDoor.tx
open Go.RowKit
set_option linter.unusedVariables false
set_option linter.unusedSimpArgs false

/-- Strings one behind the other, from p on; the last one is skipped behind up to e. -/
inductive Jn (T : List UInt8) (L e : Nat) : Nat → List (List UInt8) → Prop where
  | stop (h : e < L → (T.getD e 0).toNat ≠ 34 ∧ (T.getD e 0).toNat ≠ 39) : Jn T L e e []
  | str (pos p : Nat) (m rest ot : List UInt8) (os : List (List UInt8)) : T.drop pos = 34 :: m → Tu rest m ot → Sk T (L - rest.length) p → Jn T L e p os → Jn T L e pos (ot :: os)

theorem jn_len {T : List UInt8} {L e : Nat} (hT : T.length = L) {p : Nat} {os : List (List UInt8)} (h : Jn T L e p os) (hp : p ≤ L) : os.flatten.length + p ≤ e ∧ e ≤ L := by
  induction h with
  | stop h => simp; omega
  | str pos p m rest ot os hd htu hsk _ ih =>
    have h1 := congrArg List.length hd
    have h2 := tu_len htu
    simp at h1
    have h3 := sk_le hsk (by omega)
    have h4 := ih (by omega)
    simp only [List.flatten_cons, List.length_append]
    omega

theorem join_nosep (xs : List (List UInt8)) : Lib.join xs [] = xs.flatten := by
  have h2 : ∀ xs : List (List UInt8), (List.intersperse [] xs).flatten = xs.flatten := by
    intro xs
    induction xs with
    | nil => rfl
    | cons a t ih =>
      cases t with
      | nil => simp
      | cons b r => simp only [List.intersperse_cons_cons, List.flatten_cons, List.nil_append] at ih ⊢; rw [ih]
  unfold Lib.join List.intercalate
  exact h2 xs

theorem ownS_keeps {q B : Nat} {w w' : World} {v : Value} {g : List ByteArray} (h : OwnS w B v g) (hk : Keeps q w w') (hq : q < B) : OwnS w' B v g := by
  obtain ⟨h0, h1 | ⟨gb, cap, cur, h1, h2, h3, h4⟩⟩ := h
  · exact ⟨h0, .inl h1⟩
  · exact ⟨h0, .inr ⟨gb, cap, cur, h1, h2, (hk.block gb (Array.getElem?_eq_some_iff.1 h3).1 (by omega)).trans h3, h4⟩⟩

def strOf (l : List UInt8) : ByteArray := ⟨l.toArray⟩

theorem join_own {w : World} {gb gc : Nat} {done : List (List UInt8)} (hc : ∀ (j : Nat) x, (done.map strOf)[j]? = some x → w.cell? ⟨gb, 0 + j, none⟩ = some (.string x)) (hb : gb < w.heap.size) (hg : (done.map strOf).length ≤ gc) (hn : done.length ≤ 1000) (hl : done.flatten.length ≤ 140737488355328) :
    ∀ W, Below w.heap.size w W → Calls Tryz.prog 140 #[.slice (some ⟨gb, 0, none⟩) (done.map strOf).length gc, .string ⟨#[]⟩] W fun e w' => e = .returned (.string (strOf done.flatten)) ∧ Below W.heap.size W w' := by
  intro W hW
  have e : (done.map strOf).map (·.data.toList) = done := by
    rw [List.map_map]
    have : ((fun x : ByteArray => x.data.toList) ∘ strOf) = id := by funext a; rfl
    rw [this, List.map_id]
  have h := Tryz.strings_Join gb 0 gc (done.map strOf) ⟨#[]⟩ W (fun j x hj => by rw [hW.cell (p := ⟨gb, 0 + j, none⟩) hb]; exact hc j x hj) (Nat.lt_of_lt_of_le hb hW.size) (by rw [List.length_map]; omega) hg (by
    rw [e]
    show (Lib.join done []).length ≤ _
    rw [join_nosep]; exact hl)
  rw [e] at h
  have e2 : Lib.join done (⟨#[]⟩ : ByteArray).data.toList = done.flatten := join_nosep done
  rw [e2] at h
  exact h

theorem held_set9 {w4 : World} {q F : Nat} {x y c0 c1 c2 c3 c4 c5 : Value} (h : w4.cell? ⟨q, 9, none⟩ = some x ∧ w4.cell? ⟨q, 10, none⟩ = some y) (hq : ¬ q = F) :
    ((((((w4.setCell ⟨F, 0, none⟩ c0).setCell ⟨F, 1, none⟩ c1).setCell ⟨F, 2, none⟩ c2).setCell ⟨F, 3, none⟩ c3).setCell ⟨F, 4, none⟩ c4).setCell ⟨F, 5, none⟩ c5).cell? ⟨q, 9, none⟩ = some x ∧ ((((((w4.setCell ⟨F, 0, none⟩ c0).setCell ⟨F, 1, none⟩ c1).setCell ⟨F, 2, none⟩ c2).setCell ⟨F, 3, none⟩ c3).setCell ⟨F, 4, none⟩ c4).setCell ⟨F, 5, none⟩ c5).cell? ⟨q, 10, none⟩ = some y := by
  have g : ∀ (W : World) (j k : Nat) (v : Value), (W.setCell ⟨F, j, none⟩ v).cell? ⟨q, k, none⟩ = W.cell? ⟨q, k, none⟩ := fun W j k v => World.cell?_setCell_other W _ _ v (fun e => hq (congrArg Addr.block e).symm)
  rw [g, g, g, g, g, g, g, g, g, g, g, g]
  exact h

/-- What stands between rounds. -/
structure SRel (w : World) (q b L cap oo oc : Nat) (T : List UInt8) (t : Tok) (sv : Value) (e : Nat) (os : List (List UInt8)) (g : Nat) (v : Value) (wr : World) (done rem : List (List UInt8)) (p : Nat) : Prop where
  os : os = done ++ rem
  len : rem.length = g
  jn : Jn T L e p rem
  st : St q b L cap oo oc T wr t sv p
  keep : Keeps q w wr
  blk : wr.heap[w.heap.size]? = some (.cells zeroTok 76 (0, 0))
  own : OwnS wr (w.heap.size + 1) v (done.map strOf)

set_option maxHeartbeats 16000000 in
set_option maxRecDepth 100000 in
theorem string_value (q b L cap oo oc : Nat) (T : List UInt8) (hx : Cx q b L cap T) (t : Tok) (sv : Value) (pos e : Nat) (os : List (List UInt8)) (hj : Jn T L e pos os) (hne : os ≠ []) (hn : os.length ≤ 1000) (w : World)
    (hs : St q b L cap oo oc T w t sv pos) (hE : ∀ w', Keeps q w w' → DecEnv w') :
    Calls Tryz.prog 108 #[.pointer (some ⟨q, 0, none⟩)] w fun en w' => Gave w q b L cap oo oc T t sv e 3 2 0 pos (e - pos) (strOf os.flatten) .nilIface en w' := by
  obtain ⟨off, n, c, hin, hd, hr, hq⟩ := id hs
  have hbq := hx.hbq
  have c10 := dec_inv hd
  unfold inV at c10
  have hposL := hs.pos_le
  have hjl := jn_len hx.hT hj hposL
  have HIN := Lib.hid hin
  have HX := Lib.hid hx
  have HS := Lib.hid hs
  have HE := Lib.hid hE
  have HJ := Lib.hid (And.intro hj (And.intro hne hn))
  have HBQ := Lib.hid (And.intro hbq hq)
  have HJL := Lib.hid hjl
  have hne1 : ¬ q = w.heap.size := by omega
  have hposlt : pos < L := by
    cases hj with
    | stop h => exact absurd rfl hne
    | str _ p m rest ot os2 hd _ _ _ =>
      have h1 := congrArg List.length hd
      have h2 := hx.hT
      simp at h1
      omega
  obtain ⟨i1, i2, i3, i4⟩ := id hin
  obtain ⟨rfl, hcap'⟩ := i4 (by omega)
  have hnL : n + off = L := by omega
  clear i1 i2 i3 i4 hposlt hcap' hin hd hr hx hs hE hj hne hn hjl hbq hposL
  go_enter Tryz.func108, Tryz.ntmps108
  go_wp2_with fail
  go_loopg [5] os.length (fun g v5 wr => ∃ done rem p, SRel w q b L cap oo oc T t sv e os g v5 wr done rem p)
  case atStart => exact ⟨[], os, off, rfl, rfl, HJ.out.1, HS.out.below HX.out ((Below.refl _ _).alloc (Nat.le_refl _) _), Keeps.of ((Below.refl _ _).alloc (Nat.le_refl _) _), heap_alloc_new w _, ⟨rfl, .inl ⟨rfl, rfl⟩⟩⟩
  case round =>
    obtain ⟨done, rem, p, hrel⟩ := hrel
    have HR := Lib.hid hrel
    obtain ⟨o1, n1, c1, hin1, hd1, hr1, hq1⟩ := id hrel.st
    have k10 := dec_inv hd1
    have k9 := dec_orig hd1
    unfold inV at k10
    have HIN1 := Lib.hid hin1
    have hwr : w.heap.size < wr.heap.size := (Array.getElem?_eq_some_iff.1 hrel.blk).1
    cases hrel.jn with
    | stop hstop =>
      have HST := Lib.hid hstop
      have hro : done = os := by have := HR.out.os; simpa using this.symm
      have hoc := ownS_cells HR.out.own (by rw [hro]; simpa using HJ.out.2.1)
      obtain ⟨gb, gc, rfl, hgc1, hgb1, hgb2, hgcell⟩ := hoc
      have HJO := join_own hgcell hgb2 hgc1 (by rw [hro]; exact HJ.out.2.2) (by rw [hro]; have := HJL.out; have := HX.out.hL47; omega)
      obtain ⟨N, hN⟩ : ∃ N, N = (done.map strOf).length := ⟨_, rfl⟩
      obtain ⟨S, hS⟩ : ∃ S, S = strOf os.flatten := ⟨_, rfl⟩
      rw [hro, ← hS, ← hro, ← hN] at HJO
      rw [← hN]
      have HJO := Lib.hid HJO
      have HSS := Lib.hid hS
      clear hS
      have h1 := HIN1.out.1
      have e1 : IntKind.i64.wrap ((L : Int) - (n : Int)) = (off : Int) := by rw [IntKind.wrap_i64]; have := HX.out.hL47; omega
      have e2 : IntKind.i64.wrap ((n : Int) - (n1 : Int)) = ((e - off : Nat) : Int) := by rw [IntKind.wrap_i64]; have := HX.out.hL47; have := HJL.out; omega
      have hwq : q < wr.heap.size := hq1
      have h0n : (0 : Int) ≤ ((e - off : Nat) : Int) := by omega
      have hec : ((e - off : Nat) : Int) ≤ (c : Int) := by have := HIN.out.2.1; have := HJL.out; omega
      have HB := Lib.hid hrel.blk
      have HRAW : Hid (RawV b off (e - off) (.slice (some ⟨b, off, none⟩) (e - off) c)) := Lib.hid ⟨off, c, rfl, by omega, fun _ => rfl⟩
      obtain ⟨size, hsize⟩ : ∃ size, size = e - off := ⟨_, rfl⟩
      rw [← hsize] at HRAW e2 h0n hec
      have HSZ := Lib.hid hsize
      have hstopc : (¬ (0 : Int) < (n1 : Int)) ∨ ((0 : Int) < (n1 : Int) ∧ ∃ x : Nat, wr.cell? ⟨b, o1, none⟩ = some (.int .u8 (x : Int)) ∧ ((x : Int) == 34) = false ∧ ((x : Int) == 39) = false) := by
        by_cases hz : n1 = 0
        · left; omega
        · right
          refine ⟨by omega, (T.getD e 0).toNat, ?_, ?_⟩
          · have := hin1.2.2.2 (by omega)
            rw [this.1]
            exact cell_at HX.out.hT hr1 (by omega)
          · have := hstop (by omega)
            rw [beq_eq_false_iff_ne, beq_eq_false_iff_ne]; omega
      have HKC : Hid (∀ W, Below wr.heap.size wr W → W.cell? ⟨q, 9, none⟩ = some (.slice (some ⟨b, oo, none⟩) L oc) ∧ W.cell? ⟨q, 10, none⟩ = some (.slice (some ⟨b, o1, none⟩) n1 c1) ∧ W.heap[w.heap.size]? = some (.cells zeroTok 76 (0, 0))) := Lib.hid (fun W hW => ⟨(hW.cell (p := ⟨q, 9, none⟩) hwq).trans k9, (hW.cell (p := ⟨q, 10, none⟩) hwq).trans k10, (hW.block _ hwr).trans HB.out⟩)
      clear hin1 hd1 hr1 hrel hstop h1 hro hN hsize hq1 hgcell hgb1 hgb2 hgc1
      rcases hstopc with hz | ⟨hz, x, hxc, hx34, hx39⟩
      · go_wp2_with fail
        have HKB := Lib.hid (fun W (hW : Below wr.heap.size wr W) => And.intro (HKC.out W hW).1 (HKC.out W hW).2.1)
        have hw0 : Below wr.heap.size wr wr := Below.refl _ _
        go_region_held3 (fun w' => w'.cell? ⟨q, 9, none⟩ = some (.slice (some ⟨b, oo, none⟩) L oc) ∧ w'.cell? ⟨q, 10, none⟩ = some (.slice (some ⟨b, o1, none⟩) n1 c1))
          (first | with_reducible exact hk4S | (with_reducible refine held_set9 hk4S ?_; assumption) | (refine HKB.out _ ?_; go_grown) | go_keep)
          ((go_at_call 140; (with_reducible refine (HJO.out _ (by go_grown)).mono ?_); rintro en w4 ⟨rfl, hb4⟩; have hb4' : Below wr.heap.size wr w4 := Below.trans (by go_grown) hb4; have hk4S := HKB.out w4 hb4'; have hblk := (HKC.out w4 hb4').2.2; have g0 : w4.cell? ⟨w.heap.size, 0, none⟩ = some (.int .u8 0) := blk_cell hblk rfl; have y0 : w4.frozen? ⟨w.heap.size, 0, none⟩ = false := blk_frozen hblk 0; have g1 : w4.cell? ⟨w.heap.size, 1, none⟩ = some (.int .u8 0) := blk_cell hblk rfl; have y1 : w4.frozen? ⟨w.heap.size, 1, none⟩ = false := blk_frozen hblk 1; have g2 : w4.cell? ⟨w.heap.size, 2, none⟩ = some (.int .u8 0) := blk_cell hblk rfl; have y2 : w4.frozen? ⟨w.heap.size, 2, none⟩ = false := blk_frozen hblk 2; have g3 : w4.cell? ⟨w.heap.size, 3, none⟩ = some (.int .i64 0) := blk_cell hblk rfl; have y3 : w4.frozen? ⟨w.heap.size, 3, none⟩ = false := blk_frozen hblk 3; have g4 : w4.cell? ⟨w.heap.size, 4, none⟩ = some (.slice none 0 0) := blk_cell hblk rfl; have y4 : w4.frozen? ⟨w.heap.size, 4, none⟩ = false := blk_frozen hblk 4; have g5 : w4.cell? ⟨w.heap.size, 5, none⟩ = some (.string ⟨#[]⟩) := blk_cell hblk rfl; have y5 : w4.frozen? ⟨w.heap.size, 5, none⟩ = false := blk_frozen hblk 5))
        refine abs_exit (AfterRd w4 w.heap.size w.heap.size #[.int .u8 3, .int .u8 2, .int .u8 0, .int .i64 off, .slice (some ⟨b, off, none⟩) size c, .string S]) (by first | exact rd_set (Nat.le_refl _) (by have := hb4'.size; omega) g0 g1 g2 g3 g4 g5 | exact rd_drew (rd_set (Nat.le_refl _) (by have := hb4'.size; omega) g0 g1 g2 g3 g4 g5)) ?_
        intro w5 ha5
        have c0 := ha5.cell 0 _ rfl
        have c1 := ha5.cell 1 _ rfl
        have c2 := ha5.cell 2 _ rfl
        have c3 := ha5.cell 3 _ rfl
        have c4 := ha5.cell 4 _ rfl
        have c5 := ha5.cell 5 _ rfl
        have HA5 := Lib.hid (And.intro ha5.below hb4')
        clear ha5 g0 g1 g2 g3 g4 g5 y0 y1 y2 y3 y4 y5 hk4S hblk hb4 hb4' k9 k10
        go_wp2
        refine bodyPost_ret (v := .tuple #[(⟨3, 2, 0, off, .slice (some ⟨b, off, none⟩) size c, S⟩ : Tok).v, .nilIface]) (by simp [results, Tryz.results108, go_sem, Tok.v, c0, c1, c2, c3, c4, c5]) rfl ⟨⟨_, rfl, rfl, rfl, rfl, rfl, by rw [← HSZ.out]; exact HRAW.out, HSS.out⟩, ?_, ?_⟩
        · exact (HR.out.st.below HX.out HA5.out.2).same (HA5.out.1.block q (by have := HBQ.out; omega)) (HA5.out.1.block b (by have := HBQ.out; omega)) HA5.out.1.size
        · exact keeps_below (HR.out.keep.trans (Keeps.of HA5.out.2)) HA5.out.1 (Nat.le_refl _)
      · go_wp2_with fail
        have HKB := Lib.hid (fun W (hW : Below wr.heap.size wr W) => And.intro (HKC.out W hW).1 (HKC.out W hW).2.1)
        have hw0 : Below wr.heap.size wr wr := Below.refl _ _
        go_region_held3 (fun w' => w'.cell? ⟨q, 9, none⟩ = some (.slice (some ⟨b, oo, none⟩) L oc) ∧ w'.cell? ⟨q, 10, none⟩ = some (.slice (some ⟨b, o1, none⟩) n1 c1))
          (first | with_reducible exact hk4S | (with_reducible refine held_set9 hk4S ?_; assumption) | (refine HKB.out _ ?_; go_grown) | go_keep)
          ((go_at_call 140; (with_reducible refine (HJO.out _ (by go_grown)).mono ?_); rintro en w4 ⟨rfl, hb4⟩; have hb4' : Below wr.heap.size wr w4 := Below.trans (by go_grown) hb4; have hk4S := HKB.out w4 hb4'; have hblk := (HKC.out w4 hb4').2.2; have g0 : w4.cell? ⟨w.heap.size, 0, none⟩ = some (.int .u8 0) := blk_cell hblk rfl; have y0 : w4.frozen? ⟨w.heap.size, 0, none⟩ = false := blk_frozen hblk 0; have g1 : w4.cell? ⟨w.heap.size, 1, none⟩ = some (.int .u8 0) := blk_cell hblk rfl; have y1 : w4.frozen? ⟨w.heap.size, 1, none⟩ = false := blk_frozen hblk 1; have g2 : w4.cell? ⟨w.heap.size, 2, none⟩ = some (.int .u8 0) := blk_cell hblk rfl; have y2 : w4.frozen? ⟨w.heap.size, 2, none⟩ = false := blk_frozen hblk 2; have g3 : w4.cell? ⟨w.heap.size, 3, none⟩ = some (.int .i64 0) := blk_cell hblk rfl; have y3 : w4.frozen? ⟨w.heap.size, 3, none⟩ = false := blk_frozen hblk 3; have g4 : w4.cell? ⟨w.heap.size, 4, none⟩ = some (.slice none 0 0) := blk_cell hblk rfl; have y4 : w4.frozen? ⟨w.heap.size, 4, none⟩ = false := blk_frozen hblk 4; have g5 : w4.cell? ⟨w.heap.size, 5, none⟩ = some (.string ⟨#[]⟩) := blk_cell hblk rfl; have y5 : w4.frozen? ⟨w.heap.size, 5, none⟩ = false := blk_frozen hblk 5))
        refine abs_exit (AfterRd w4 w.heap.size w.heap.size #[.int .u8 3, .int .u8 2, .int .u8 0, .int .i64 off, .slice (some ⟨b, off, none⟩) size c, .string S]) (by first | exact rd_set (Nat.le_refl _) (by have := hb4'.size; omega) g0 g1 g2 g3 g4 g5 | exact rd_drew (rd_set (Nat.le_refl _) (by have := hb4'.size; omega) g0 g1 g2 g3 g4 g5)) ?_
        intro w5 ha5
        have c0 := ha5.cell 0 _ rfl
        have c1 := ha5.cell 1 _ rfl
        have c2 := ha5.cell 2 _ rfl
        have c3 := ha5.cell 3 _ rfl
        have c4 := ha5.cell 4 _ rfl
        have c5 := ha5.cell 5 _ rfl
        have HA5 := Lib.hid (And.intro ha5.below hb4')
        clear ha5 g0 g1 g2 g3 g4 g5 y0 y1 y2 y3 y4 y5 hk4S hblk hb4 hb4' k9 k10
        go_wp2
        refine bodyPost_ret (v := .tuple #[(⟨3, 2, 0, off, .slice (some ⟨b, off, none⟩) size c, S⟩ : Tok).v, .nilIface]) (by simp [results, Tryz.results108, go_sem, Tok.v, c0, c1, c2, c3, c4, c5]) rfl ⟨⟨_, rfl, rfl, rfl, rfl, rfl, by rw [← HSZ.out]; exact HRAW.out, HSS.out⟩, ?_, ?_⟩
        · exact (HR.out.st.below HX.out HA5.out.2).same (HA5.out.1.block q (by have := HBQ.out; omega)) (HA5.out.1.block b (by have := HBQ.out; omega)) HA5.out.1.size
        · exact keeps_below (HR.out.keep.trans (Keeps.of HA5.out.2)) HA5.out.1 (Nat.le_refl _)
    | str _ p2 m rest ot os2 hTd htu hsk hjn =>
      have HP := Lib.hid (And.intro hTd (And.intro htu (And.intro hsk hjn)))
      have hlenT : T.length - p = m.length + 1 := by
        have := congrArg List.length hTd
        simpa using this
      have hTL := HX.out.hT
      obtain ⟨i1, i2, i3, i4⟩ := id hin1
      obtain ⟨rfl, hc1⟩ := i4 (by omega)
      have hn1 : (0 : Int) < (n1 : Int) := by omega
      have hcx := cell_at HX.out.hT hr1 (p := o1) (by omega)
      have h34 : (T.getD o1 0).toNat = 34 := by
        have h := congrArg (fun l => List.getD l 0 0) hTd
        simp only [getD_drop, Nat.add_zero] at h
        rw [h]; rfl
      rw [h34] at hcx
      cases gk with
      | zero => exact absurd HR.out.len (by simp)
      | succ g =>
        clear hin1 hd1 hr1 hrel hTd htu hsk hjn i1 i2 i3 i4 h34 hlenT hTL hc1
        go_wp2_with fail
        refine (parse_string q b L cap oo oc T HX.out t sv o1 p2 m ot rest HP.out.1 HP.out.2.1 HP.out.2.2.1 wr HR.out.st (fun w' h => HE.out w' (HR.out.keep.trans (Keeps.of h)))).mono ?_
        rintro en w2 ⟨rfl, hst2, hk2⟩
        have H2 := Lib.hid (And.intro hst2 hk2)
        have hz2 : w.heap.size < w2.heap.size := by have := hk2.size; omega
        have HO2 := Lib.hid (ownS_keeps HR.out.own hk2 (by have := HBQ.out.2; omega))
        clear hst2 hk2 k9 k10 hcx
        go_wp2_with (at_builtin; go_loud (refine wpList_pushS rfl _ _ rfl (w.heap.size + 1) _ (done.map strOf) rfl (HO2.out.alloc _) ⟨w2.heap.size, 0, none⟩ _ (strOf ot) rfl (by simp [strOf]) (by have h1 := HR.out.os; have h2 := HJ.out.2.2; rw [h1] at h2; simp at h2 ⊢; omega) (by simp; omega) _ (Below.refl _ _) ?_); (intro v3 w3 h1 h2 h3); have H3 := Lib.hid (And.intro h1 (And.intro h2 h3)); clear h1 h2 h3)
        go_roundg g
        case measure => omega
        case rel =>
          have hb3 := H3.out.2.1
          refine ⟨done ++ [ot], os2, p2, by rw [HR.out.os]; simp, by have := HR.out.len; simp at this; exact this, HP.out.2.2.2, ?_, ?_, ?_, by rw [List.map_append]; exact H3.out.1⟩
          · refine (H2.out.1.below HX.out ((Below.refl _ _).alloc (Nat.le_refl _) _)).same (hb3.block q (by have := HBQ.out; omega)) (hb3.block b (by have := HBQ.out; omega)) hb3.size
          · exact keeps_below (HR.out.keep.trans (H2.out.2.trans (Keeps.of ((Below.refl _ _).alloc (Nat.le_refl _) _)))) hb3 (by omega)
          · rw [hb3.block w.heap.size (by omega)]
            exact alloc_blk ((H2.out.2.block w.heap.size hwr (fun e => hne1 e.symm)).trans HR.out.blk)

end Go.Proofs.YtpneioocmpagmaaGreatDoor.tx
