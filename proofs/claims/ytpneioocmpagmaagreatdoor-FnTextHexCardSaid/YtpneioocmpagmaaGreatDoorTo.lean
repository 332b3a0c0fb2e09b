/- The text form's reader: number.string. -/
import Derived.Test.YtpneioocmpagmaaGreatDoorTn
import Derived.Deep.RegionWith
namespace Go.Proofs.YtpneioocmpagmaaGreatDoor.tx
open Go.RowKit
set_option linter.unusedVariables false
set_option linter.unusedSimpArgs false

/-- A part of a text. -/
def part (T : List UInt8) (p size : Nat) : List UInt8 := (T.drop p).take size

theorem part_len {T : List UInt8} {p size : Nat} (h : p + size ≤ T.length) : (part T p size).length = size := by
  unfold part; rw [List.length_take, List.length_drop]; omega

theorem part_row {w : World} {b : Nat} {T : List UInt8} {p size : Nat} (hr : RowM w b 0 T) (h : p + size ≤ T.length) : RowM w b p (part T p size) := by
  intro j hj
  rw [part_len h] at hj
  have := hr (p + j) (by omega)
  rw [Nat.zero_add] at this
  rw [this]
  unfold part
  rw [List.getD_eq_getElem?_getD, List.getD_eq_getElem?_getD, List.getElem?_take, if_pos hj, List.getElem?_drop]

set_option maxHeartbeats 8000000 in
set_option maxRecDepth 100000 in
theorem num_string (b L cap pos off n c size : Nat) (neg : Bool) (T : List UInt8) (hT : T.length = L) (hL : L ≤ cap) (hcap : cap ≤ 9223372036854775807) (hL47 : L ≤ 140737488355000) (hin : InAt b L cap pos off n c) (hs : 1 ≤ size) (hk : pos + size ≤ L) (w : World) (hr : RowM w b 0 T) :
    Calls Tryz.prog 106 #[numV 0 neg size, .slice (some ⟨b, off, none⟩) n c] w fun e w' => e = .returned (.string ⟨(part T pos size).toArray⟩) ∧ Below w.heap.size w w' := by
  obtain ⟨i1, i2, i3, i4⟩ := id hin
  obtain ⟨rfl, hc'⟩ := i4 (by omega)
  have hb : b < w.heap.size := cell_lt (cell_at hT hr (p := off) (by omega))
  have CV := fun (W : World) (c : Nat) (hW : Below w.heap.size w W) => conv_row (w := W) (b := b) (o := off) (c := c) (tx := part T off size) (part_row (hr.below hW hb) (by omega))
  rw [part_len (by omega)] at CV
  have t1 : (size : Int) ≤ (c : Int) := by omega
  have t2 : (0 : Int) ≤ (size : Int) := by omega
  have t3 : (size : Int) ≤ 140737488355000 := by omega
  have cv := CV (w.alloc (.cells #[.int .u8 0, .bool neg, .int .i64 size, .int .i64 0] 166)) c ((Below.refl _ _).alloc (Nat.le_refl _) _)
  obtain ⟨x, hx⟩ : ∃ x : ByteArray, x = ⟨(part T off size).toArray⟩ := ⟨_, rfl⟩
  rw [← hx] at cv ⊢
  clear CV hr hin i1 i2 i3 i4 hT hc' hx hs hk hL hcap hL47 hb
  unfold numV
  go_enter Tryz.func106, Tryz.ntmps106
  cases neg
  all_goals
    go_wp2_with fail
    go_ret
    exact ⟨rfl, by go_grown⟩

end Go.Proofs.YtpneioocmpagmaaGreatDoor.tx

/- The text form's reader: parseNumberValue at a whole number that ends the text. -/
namespace Go.Proofs.YtpneioocmpagmaaGreatDoor.tx
open Go.RowKit
set_option linter.unusedVariables false
set_option linter.unusedSimpArgs false

theorem intAt_pos {T : List UInt8} {L p0 p1 : Nat} {neg : Bool} (h : IntAt T L p0 p1 neg) : p0 < L := by
  have := h.lt
  rcases h.sign with ⟨_, h, _⟩ | ⟨_, h, _⟩ <;> omega

theorem blk_other (w : World) (a : Addr) (v : Value) {i : Nat} (h : a.block ≠ i) : (w.setCell a v).heap[i]? = w.heap[i]? := by
  show (w.heap.modify a.block _)[i]? = _
  rw [Array.getElem?_modify, if_neg h]

theorem below_set {B : Nat} {a b : World} (h : Below B a b) (p : Addr) (hp : B ≤ p.block) (v : Value) : Below B a (b.setCell p v) := by
  refine ⟨h.os, h.tape, h.output, by simpa using h.size, fun i hi => ?_⟩
  rw [blk_other _ _ _ (by omega)]
  exact h.block i hi

/-- Behind the statement that makes a token: it lies in block F, by itself; the result's block is as it was laid. -/
structure AfterTok (w : World) (N : Nat) (x : Value) (F : Nat) (cells : Array Value) (W : World) : Prop where
  num : W.cell? ⟨N, 2, none⟩ = some x
  hF : w.heap.size < F
  hF' : F < W.heap.size
  cell : ∀ j v, cells[j]? = some v → W.cell? ⟨F, j, none⟩ = some v
  below : Below w.heap.size w W
  res : W.heap[w.heap.size]? = some (.cells zeroTok 76 (0, 0))

theorem abs_exit {K : Act → World → Prop} {Q : Exit → Act → World → Prop} {a : Act} {W : World} (R : World → Prop) (h : R W) (k : ∀ W', R W' → Exit.then K Q .normal a W') : Exit.then K Q .normal a W := k W h

theorem after_new {w w4 : World} {cells : Array Value} (hs : w.heap.size < w4.heap.size) (hb : Below w.heap.size w w4) (hr : w4.heap[w.heap.size]? = some (.cells zeroTok 76 (0, 0))) {N : Nat} {x : Value} (hn : w4.cell? ⟨N, 2, none⟩ = some x) : AfterTok w N x w4.heap.size cells (w4.alloc (.cells cells 76)) := by
  refine ⟨(World.cell?_alloc_lt w4 _ _ (cell_lt hn)).trans hn, hs, by simp, fun j v hj => ?_, hb.alloc (Nat.le_of_lt hs) _, alloc_blk hr⟩
  rw [cell_of_row _ _ _ _ _ _ (heap_alloc_new w4 _)]
  exact hj

theorem after_drew {w W : World} {N F : Nat} {x : Value} {cells : Array Value} (h : AfterTok w N x F cells W) : AfterTok w N x F cells W.drew := ⟨h.num, h.hF, h.hF', h.cell, h.below.drew, h.res⟩

theorem after_set {w w4 : World} {F : Nat} {c0 c1 c2 c3 c4 c5 d0 d1 d2 d3 d4 d5 : Value} (hF : w.heap.size < F) (hF' : F < w4.heap.size) (hb : Below w.heap.size w w4) (hr : w4.heap[w.heap.size]? = some (.cells zeroTok 76 (0, 0)))
    (g0 : w4.cell? ⟨F, 0, none⟩ = some d0) (g1 : w4.cell? ⟨F, 1, none⟩ = some d1) (g2 : w4.cell? ⟨F, 2, none⟩ = some d2) (g3 : w4.cell? ⟨F, 3, none⟩ = some d3) (g4 : w4.cell? ⟨F, 4, none⟩ = some d4) (g5 : w4.cell? ⟨F, 5, none⟩ = some d5) {N : Nat} {x : Value} (hn : w4.cell? ⟨N, 2, none⟩ = some x) (hNF : ¬ F = N) :
    AfterTok w N x F #[c0, c1, c2, c3, c4, c5] ((((((w4.setCell ⟨F, 0, none⟩ c0).setCell ⟨F, 1, none⟩ c1).setCell ⟨F, 2, none⟩ c2).setCell ⟨F, 3, none⟩ c3).setCell ⟨F, 4, none⟩ c4).setCell ⟨F, 5, none⟩ c5) := by
  have hne' : ∀ j, (⟨F, j, none⟩ : Addr) ≠ ⟨N, 2, none⟩ := fun j e => hNF (congrArg Addr.block e)
  refine ⟨?_, hF, by simpa using hF', fun j v hj => ?_, ?_, ?_⟩
  · rw [World.cell?_setCell_other _ _ _ _ (hne' 5), World.cell?_setCell_other _ _ _ _ (hne' 4), World.cell?_setCell_other _ _ _ _ (hne' 3), World.cell?_setCell_other _ _ _ _ (hne' 2), World.cell?_setCell_other _ _ _ _ (hne' 1), World.cell?_setCell_other _ _ _ _ (hne' 0)]
    exact hn
  · match j, hj with
    | 0, hj => obtain rfl := Option.some.inj (show some c0 = some v from hj); go_simp
    | 1, hj => obtain rfl := Option.some.inj (show some c1 = some v from hj); go_simp
    | 2, hj => obtain rfl := Option.some.inj (show some c2 = some v from hj); go_simp
    | 3, hj => obtain rfl := Option.some.inj (show some c3 = some v from hj); go_simp
    | 4, hj => obtain rfl := Option.some.inj (show some c4 = some v from hj); go_simp
    | 5, hj => obtain rfl := Option.some.inj (show some c5 = some v from hj); go_simp
    | j + 6, hj => exact absurd (Array.getElem?_eq_some_iff.1 hj).1 (by simp)
  · exact below_set (below_set (below_set (below_set (below_set (below_set hb _ (Nat.le_of_lt hF) _) _ (Nat.le_of_lt hF) _) _ (Nat.le_of_lt hF) _) _ (Nat.le_of_lt hF) _) _ (Nat.le_of_lt hF) _) _ (Nat.le_of_lt hF) _
  · have hne : F ≠ w.heap.size := by omega
    rw [blk_other _ _ _ hne, blk_other _ _ _ hne, blk_other _ _ _ hne, blk_other _ _ _ hne, blk_other _ _ _ hne, blk_other _ _ _ hne]
    exact hr

set_option maxHeartbeats 8000000 in
set_option maxRecDepth 100000 in
theorem number_value (q b L cap oo oc : Nat) (T : List UInt8) (hx : Cx q b L cap T) (t : Tok) (sv : Value) (pos p1 : Nat) (neg : Bool) (hi : IntAt T L pos p1 neg) (w : World) (hs : St q b L cap oo oc T w t sv pos) :
    Calls Tryz.prog 110 #[.pointer (some ⟨q, 0, none⟩)] w fun e w' =>
      (∃ t' : Tok, e = .returned (.tuple #[t'.v, .bool true]) ∧ MkTok t' b pos (L - pos) 3 1 (if neg then 128 else 0) ⟨(part T pos (L - pos)).toArray⟩) ∧ St q b L cap oo oc T w' t sv L ∧ Keeps q w w' := by
  obtain ⟨off, n, c, hin, hd, hr, hq⟩ := id hs
  have hpl := intAt_pos hi
  have hbq := hx.hbq
  have HN := Lib.hid (fun (W : World) (hW : Below w.heap.size w W) => num_int b L cap pos p1 off n c T hx.hT hx.hL hx.hcap hx.hL47 hin neg hi W (hr.below hW (by omega)))
  have HS := Lib.hid (fun (W : World) (hW : Below w.heap.size w W) => num_string b L cap pos off n c (L - pos) neg T hx.hT hx.hL hx.hcap hx.hL47 hin (by omega) (by omega) W (hr.below hW (by omega)))
  have HC := Lib.hid (fun W (hW : Below w.heap.size w W) => dconsume q b L cap oo oc T hx t sv pos (L - pos) L W (hs.below hx hW) (by omega) (by rw [show pos + (L - pos) = L by omega]; exact .stop L (fun h => by have := hx.hT; omega)))
  obtain ⟨i1, i2, i3, i4⟩ := id hin
  have HRAW : Hid (RawV b pos (L - pos) (.slice (some ⟨b, off, none⟩) (L - pos) c)) := Lib.hid ⟨off, c, rfl, by omega, fun h => (i4 (by omega)).1⟩
  obtain ⟨size, hsize⟩ : ∃ size, size = L - pos := ⟨_, rfl⟩
  rw [← hsize] at HN HS HC HRAW ⊢
  have t1 : (size : Int) ≤ (c : Int) := by omega
  have t2 : (0 : Int) ≤ (size : Int) := by omega
  have t3 : ((size : Int) == 0) = false := by rw [beq_eq_false_iff_ne]; omega
  have e1 : IntKind.i64.wrap ((L : Int) - (n : Int)) = (pos : Int) := by rw [IntKind.wrap_i64]; have := hx.hL47; omega
  have c9 := dec_orig hd
  have c10 := dec_inv hd
  unfold inV at c10
  have HK : Hid (∀ W, Below w.heap.size w W → W.cell? ⟨q, 9, none⟩ = some (.slice (some ⟨b, oo, none⟩) L oc) ∧ W.cell? ⟨q, 10, none⟩ = some (.slice (some ⟨b, off, none⟩) n c)) := Lib.hid (fun W hW => ⟨(hW.cell (p := ⟨q, 9, none⟩) hq).trans c9, (hW.cell (p := ⟨q, 10, none⟩) hq).trans c10⟩)
  have hne1 : ¬ q = w.heap.size := by omega
  obtain ⟨sz, hsz⟩ : ∃ sz : ByteArray, sz = ⟨(part T pos size).toArray⟩ := ⟨_, rfl⟩
  rw [← hsz] at HS ⊢
  have HBQ : Hid (b < q) := Lib.hid hbq
  clear hd hr hin i1 i2 i3 i4 hx hs hpl hbq hi hsize hsz
  go_enter Tryz.func110, Tryz.ntmps110
  go_wp2_with fail
  refine (HN.out _ (by go_grown)).mono ?_
  rintro e w2 ⟨rfl, hb2⟩
  have hbw2 : Below w.heap.size w w2 := ((Below.refl _ _).alloc (Nat.le_refl _) _).trans (hb2.mono (by simp))
  have hR2 : w2.heap[w.heap.size]? = some (.cells zeroTok 76 (0, 0)) := (hb2.block w.heap.size (by simp)).trans (heap_alloc_new w _)
  have hs2 : w.heap.size + 1 ≤ w2.heap.size := by have := hb2.size; simpa using this
  have k9 := (HK.out w2 hbw2).1
  have k10 := (HK.out w2 hbw2).2
  have hq2 : q < w2.heap.size := by omega
  have hne2 : ¬ q = w2.heap.size := by omega
  have HB2 := Lib.hid hbw2
  have HR2 := Lib.hid hR2
  clear hb2 hbw2 hR2 c9 c10
  unfold numV
  have b128 : bits .or .u8 0 128 = 128 := by decide
  have HNC : Hid (∀ (ng : Bool) (W : World), Below (w2.alloc (.cells #[.int .u8 0, .bool ng, .int .i64 size, .int .i64 0] 166)).heap.size (w2.alloc (.cells #[.int .u8 0, .bool ng, .int .i64 size, .int .i64 0] 166)) W →
      W.cell? ⟨q, 9, none⟩ = some (.slice (some ⟨b, oo, none⟩) L oc) ∧ W.cell? ⟨q, 10, none⟩ = some (.slice (some ⟨b, off, none⟩) n c) ∧ W.cell? ⟨w2.heap.size, 0, none⟩ = some (.int .u8 0) ∧ W.cell? ⟨w2.heap.size, 1, none⟩ = some (.bool ng) ∧ W.cell? ⟨w2.heap.size, 2, none⟩ = some (.int .i64 size) ∧ W.cell? ⟨w2.heap.size, 3, none⟩ = some (.int .i64 0)) := Lib.hid (fun ng W hW => by
    have g : ∀ j v, (#[.int .u8 0, .bool ng, .int .i64 size, .int .i64 0] : Array Value)[j]? = some v → W.cell? ⟨w2.heap.size, j, none⟩ = some v := fun j v hj => by
      rw [hW.cell (p := ⟨w2.heap.size, j, none⟩) (by simp)]
      simpa using hj
    have k := HK.out W (HB2.out.trans (((Below.refl _ _).alloc (Nat.le_refl _) _).trans (hW.mono (by simp)) |>.mono HB2.out.size))
    exact ⟨k.1, k.2, g 0 _ rfl, g 1 _ rfl, g 2 _ rfl, g 3 _ rfl⟩)
  cases neg
  case false =>
    go_wp2_with fail
    obtain ⟨W3, hW3⟩ : ∃ W3, W3 = w2.alloc (.cells #[.int .u8 0, .bool false, .int .i64 size, .int .i64 0] 166) := ⟨_, rfl⟩
    have HK3 := Lib.hid (HNC.out false)
    rw [← hW3] at HK3 ⊢
    have hbw3 : Below w.heap.size w W3 := by rw [hW3]; exact HB2.out.alloc HB2.out.size _
    have HB3 := Lib.hid hbw3
    have HS3 : Hid (W3.heap.size = w2.heap.size + 1) := Lib.hid (by rw [hW3]; simp)
    have hs3 : w2.heap.size < W3.heap.size := by have := HS3.out; omega
    have hq3 : q < W3.heap.size := by omega
    have hn3 : ¬ q = W3.heap.size := by omega
    have hn4 : ¬ w2.heap.size = W3.heap.size := by omega
    have hR3 : W3.heap[w.heap.size]? = some (.cells zeroTok 76 (0, 0)) := by rw [hW3]; exact alloc_blk HR2.out
    have HR3 := Lib.hid hR3
    have hw3 : w.heap.size ≤ W3.heap.size := hbw3.size
    clear hW3 hbw3 hR3 k9 k10
    go_region_held3 (fun w' => w'.cell? ⟨q, 9, none⟩ = some (.slice (some ⟨b, oo, none⟩) L oc) ∧ w'.cell? ⟨q, 10, none⟩ = some (.slice (some ⟨b, off, none⟩) n c) ∧ w'.cell? ⟨w2.heap.size, 0, none⟩ = some (.int .u8 0) ∧ w'.cell? ⟨w2.heap.size, 1, none⟩ = some (.bool false) ∧ w'.cell? ⟨w2.heap.size, 2, none⟩ = some (.int .i64 size) ∧ w'.cell? ⟨w2.heap.size, 3, none⟩ = some (.int .i64 0))
      (first | exact HK3.out _ (by go_grown) | exact HK3.out _ (hbs5 _ _ hb4' (by first | assumption | omega)) | exact HK3.out _ (hbs5 _ _ (by go_grown) (by first | assumption | omega)) | go_keep)
      ((go_at_call 106; refine (HS.out _ (HB3.out.trans (Below.mono (by go_grown) hw3))).mono ?_; rintro e w4 ⟨rfl, hb4⟩; have hb4' : Below W3.heap.size W3 w4 := Below.trans (by go_grown) (hb4.mono (by simp)); have hz4 := hb4.size; (try simp at hz4); have g0 := hb4.cell (p := ⟨W3.heap.size, 0, none⟩); (try simp at g0); have y0 := hb4.frozen (p := ⟨W3.heap.size, 0, none⟩); (try simp at y0); have g1 := hb4.cell (p := ⟨W3.heap.size, 1, none⟩); (try simp at g1); have y1 := hb4.frozen (p := ⟨W3.heap.size, 1, none⟩); (try simp at y1); have g2 := hb4.cell (p := ⟨W3.heap.size, 2, none⟩); (try simp at g2); have y2 := hb4.frozen (p := ⟨W3.heap.size, 2, none⟩); (try simp at y2); have g3 := hb4.cell (p := ⟨W3.heap.size, 3, none⟩); (try simp at g3); have y3 := hb4.frozen (p := ⟨W3.heap.size, 3, none⟩); (try simp at y3); have g4 := hb4.cell (p := ⟨W3.heap.size, 4, none⟩); (try simp at g4); have y4 := hb4.frozen (p := ⟨W3.heap.size, 4, none⟩); (try simp at y4); have g5 := hb4.cell (p := ⟨W3.heap.size, 5, none⟩); (try simp at g5); have y5 := hb4.frozen (p := ⟨W3.heap.size, 5, none⟩); (try simp at y5)))
    all_goals
      have hbw4 : Below w.heap.size w w4 := HB3.out.trans (hb4'.mono hw3)
      have hr4 : w4.heap[w.heap.size]? = some (.cells zeroTok 76 (0, 0)) := (hb4'.block _ (by omega)).trans HR3.out
      have hlt4 : w.heap.size < w4.heap.size := by have := hb4'.size; omega
      have hnum4 := (HK3.out w4 hb4').2.2.2.2.1
    case _ =>
      refine abs_exit (AfterTok w w2.heap.size (.int .i64 size) _ #[.int .u8 3, .int .u8 1, .int .u8 0, .int .i64 pos, .slice (some ⟨b, off, none⟩) size c, .string sz]) (by first | exact after_new hlt4 hbw4 hr4 hnum4 | exact after_drew (after_new hlt4 hbw4 hr4 hnum4)) ?_
      intro w5 ha5
      have HA5 := Lib.hid ha5
      have hn5 := ha5.num
      have hF := ha5.hF
      have hqF : ¬ q = w4.heap.size := by omega
      have HST := Lib.hid hF
      clear ha5  hr4 hbw4 hnum4
      go_wp2_with fail
      refine (HC.out _ HA5.out.below).mono ?_
      rintro e w6 ⟨rfl, hs6, v, hw6⟩
      have hk6 : Keeps q w w6 := by rw [hw6]; exact (Keeps.of HA5.out.below).setCell 10 _
      have hR6 : w6.heap[w.heap.size]? = some (.cells zeroTok 76 (0, 0)) := by rw [hw6, blk_other _ _ _ hne1]; exact HA5.out.res
      have hc6 : ∀ j x, (#[.int .u8 3, .int .u8 1, .int .u8 0, .int .i64 pos, .slice (some ⟨b, off, none⟩) size c, .string sz] : Array Value)[j]? = some x → w6.cell? ⟨w4.heap.size, j, none⟩ = some x := fun j x hj => by
        rw [hw6, World.cell?_setCell_other w5 _ _ _ (fun e => hqF (congrArg Addr.block e))]
        exact HA5.out.cell j x hj
      have k0 := hc6 0 _ rfl
      have k1 := hc6 1 _ rfl
      have k2 := hc6 2 _ rfl
      have k3 := hc6 3 _ rfl
      have k4 := hc6 4 _ rfl
      have k5 := hc6 5 _ rfl
      have HS6 := Lib.hid hs6
      have HQW : Hid (b < w.heap.size ∧ q < w.heap.size) := Lib.hid ⟨by have := HBQ.out; omega, hq⟩
      clear hc6 hs6 hw6 hqF hF
      go_wp2_with ((with_reducible refine store_own ?_ 76 (.tmp 2) (.tmp 54) ?_ w.heap.size #[.int .u8 3, .int .u8 1, .int .u8 0, .int .i64 pos, .slice (some ⟨b, off, none⟩) size c, .string sz] ?_ ?_ 76 zeroTok hR6 6 infoT ?_ ?_ ?_ q w hk6 (Nat.le_refl _) ?_); rfl; rfl; rfl; rfl; rfl; rfl; rfl; (intro w7 hg7 hcs ho7 hs7 hk7); refine Hid.out ?_)
      refine Lib.hid ?_
      have c0 := hcs 0 _ rfl
      have c1 := hcs 1 _ rfl
      have c2 := hcs 2 _ rfl
      have c3 := hcs 3 _ rfl
      have c4 := hcs 4 _ rfl
      have c5 := hcs 5 _ rfl
      have HG7 := Lib.hid (And.intro ho7 (And.intro hs7 hk7))
      clear k0 k1 k2 k3 k4 k5 hR6 hk6 hg7 hcs ho7 hs7 hk7
      go_wp2
      refine bodyPost_ret (v := .tuple #[(⟨3, 1, 0, pos, .slice (some ⟨b, off, none⟩) size c, sz⟩ : Tok).v, .bool true]) (by simp [results, Tryz.results110, go_sem, Tok.v, c0, c1, c2, c3, c4, c5]) rfl ⟨⟨_, rfl, rfl, rfl, rfl, rfl, HRAW.out, rfl⟩, ?_, HG7.out.2.2⟩
      exact HS6.out.same (HG7.out.1 q (by have := HQW.out; omega)) (HG7.out.1 b (by have := HQW.out; omega)) (by have := HG7.out.2.1; omega)
    case _ =>
      refine abs_exit (AfterTok w w2.heap.size (.int .i64 size) _ #[.int .u8 3, .int .u8 1, .int .u8 0, .int .i64 pos, .slice (some ⟨b, off, none⟩) size c, .string sz]) (by first | exact after_set (by omega) (by have := hb4'.size; omega) hbw4 hr4 g0 g1 g2 g3 g4 g5 hnum4 (by omega) | exact after_drew (after_set (by omega) (by omega) hbw4 hr4 g0 g1 g2 g3 g4 g5 hnum4 (by omega))) ?_
      intro w5 ha5
      have HA5 := Lib.hid ha5
      have hn5 := ha5.num
      have hF := ha5.hF
      have hqF : ¬ q = W3.heap.size := by omega
      have HST := Lib.hid hF
      clear ha5 g0 g1 g2 g3 g4 g5 y0 y1 y2 y3 y4 y5 hr4 hbw4 hnum4
      go_wp2_with fail
      refine (HC.out _ HA5.out.below).mono ?_
      rintro e w6 ⟨rfl, hs6, v, hw6⟩
      have hk6 : Keeps q w w6 := by rw [hw6]; exact (Keeps.of HA5.out.below).setCell 10 _
      have hR6 : w6.heap[w.heap.size]? = some (.cells zeroTok 76 (0, 0)) := by rw [hw6, blk_other _ _ _ hne1]; exact HA5.out.res
      have hc6 : ∀ j x, (#[.int .u8 3, .int .u8 1, .int .u8 0, .int .i64 pos, .slice (some ⟨b, off, none⟩) size c, .string sz] : Array Value)[j]? = some x → w6.cell? ⟨W3.heap.size, j, none⟩ = some x := fun j x hj => by
        rw [hw6, World.cell?_setCell_other w5 _ _ _ (fun e => hqF (congrArg Addr.block e))]
        exact HA5.out.cell j x hj
      have k0 := hc6 0 _ rfl
      have k1 := hc6 1 _ rfl
      have k2 := hc6 2 _ rfl
      have k3 := hc6 3 _ rfl
      have k4 := hc6 4 _ rfl
      have k5 := hc6 5 _ rfl
      have HS6 := Lib.hid hs6
      have HQW : Hid (b < w.heap.size ∧ q < w.heap.size) := Lib.hid ⟨by have := HBQ.out; omega, hq⟩
      clear hc6 hs6 hw6 hqF hF
      go_wp2_with ((with_reducible refine store_own ?_ 76 (.tmp 2) (.tmp 54) ?_ w.heap.size #[.int .u8 3, .int .u8 1, .int .u8 0, .int .i64 pos, .slice (some ⟨b, off, none⟩) size c, .string sz] ?_ ?_ 76 zeroTok hR6 6 infoT ?_ ?_ ?_ q w hk6 (Nat.le_refl _) ?_); rfl; rfl; rfl; rfl; rfl; rfl; rfl; (intro w7 hg7 hcs ho7 hs7 hk7); refine Hid.out ?_)
      refine Lib.hid ?_
      have c0 := hcs 0 _ rfl
      have c1 := hcs 1 _ rfl
      have c2 := hcs 2 _ rfl
      have c3 := hcs 3 _ rfl
      have c4 := hcs 4 _ rfl
      have c5 := hcs 5 _ rfl
      have HG7 := Lib.hid (And.intro ho7 (And.intro hs7 hk7))
      clear k0 k1 k2 k3 k4 k5 hR6 hk6 hg7 hcs ho7 hs7 hk7
      go_wp2
      refine bodyPost_ret (v := .tuple #[(⟨3, 1, 0, pos, .slice (some ⟨b, off, none⟩) size c, sz⟩ : Tok).v, .bool true]) (by simp [results, Tryz.results110, go_sem, Tok.v, c0, c1, c2, c3, c4, c5]) rfl ⟨⟨_, rfl, rfl, rfl, rfl, rfl, HRAW.out, rfl⟩, ?_, HG7.out.2.2⟩
      exact HS6.out.same (HG7.out.1 q (by have := HQW.out; omega)) (HG7.out.1 b (by have := HQW.out; omega)) (by have := HG7.out.2.1; omega)

  case true =>
    go_wp2_with fail
    obtain ⟨W3, hW3⟩ : ∃ W3, W3 = w2.alloc (.cells #[.int .u8 0, .bool true, .int .i64 size, .int .i64 0] 166) := ⟨_, rfl⟩
    have HK3 := Lib.hid (HNC.out true)
    rw [← hW3] at HK3 ⊢
    have hbw3 : Below w.heap.size w W3 := by rw [hW3]; exact HB2.out.alloc HB2.out.size _
    have HB3 := Lib.hid hbw3
    have HS3 : Hid (W3.heap.size = w2.heap.size + 1) := Lib.hid (by rw [hW3]; simp)
    have hs3 : w2.heap.size < W3.heap.size := by have := HS3.out; omega
    have hq3 : q < W3.heap.size := by omega
    have hn3 : ¬ q = W3.heap.size := by omega
    have hn4 : ¬ w2.heap.size = W3.heap.size := by omega
    have hR3 : W3.heap[w.heap.size]? = some (.cells zeroTok 76 (0, 0)) := by rw [hW3]; exact alloc_blk HR2.out
    have HR3 := Lib.hid hR3
    have hw3 : w.heap.size ≤ W3.heap.size := hbw3.size
    clear hW3 hbw3 hR3 k9 k10
    go_region_held3 (fun w' => w'.cell? ⟨q, 9, none⟩ = some (.slice (some ⟨b, oo, none⟩) L oc) ∧ w'.cell? ⟨q, 10, none⟩ = some (.slice (some ⟨b, off, none⟩) n c) ∧ w'.cell? ⟨w2.heap.size, 0, none⟩ = some (.int .u8 0) ∧ w'.cell? ⟨w2.heap.size, 1, none⟩ = some (.bool true) ∧ w'.cell? ⟨w2.heap.size, 2, none⟩ = some (.int .i64 size) ∧ w'.cell? ⟨w2.heap.size, 3, none⟩ = some (.int .i64 0))
      (first | exact HK3.out _ (by go_grown) | exact HK3.out _ (hbs5 _ _ hb4' (by first | assumption | omega)) | exact HK3.out _ (hbs5 _ _ (by go_grown) (by first | assumption | omega)) | go_keep)
      ((go_at_call 106; refine (HS.out _ (HB3.out.trans (Below.mono (by go_grown) hw3))).mono ?_; rintro e w4 ⟨rfl, hb4⟩; have hb4' : Below W3.heap.size W3 w4 := Below.trans (by go_grown) (hb4.mono (by simp)); have hz4 := hb4.size; (try simp at hz4); have g0 := hb4.cell (p := ⟨W3.heap.size, 0, none⟩); (try simp at g0); have y0 := hb4.frozen (p := ⟨W3.heap.size, 0, none⟩); (try simp at y0); have g1 := hb4.cell (p := ⟨W3.heap.size, 1, none⟩); (try simp at g1); have y1 := hb4.frozen (p := ⟨W3.heap.size, 1, none⟩); (try simp at y1); have g2 := hb4.cell (p := ⟨W3.heap.size, 2, none⟩); (try simp at g2); have y2 := hb4.frozen (p := ⟨W3.heap.size, 2, none⟩); (try simp at y2); have g3 := hb4.cell (p := ⟨W3.heap.size, 3, none⟩); (try simp at g3); have y3 := hb4.frozen (p := ⟨W3.heap.size, 3, none⟩); (try simp at y3); have g4 := hb4.cell (p := ⟨W3.heap.size, 4, none⟩); (try simp at g4); have y4 := hb4.frozen (p := ⟨W3.heap.size, 4, none⟩); (try simp at y4); have g5 := hb4.cell (p := ⟨W3.heap.size, 5, none⟩); (try simp at g5); have y5 := hb4.frozen (p := ⟨W3.heap.size, 5, none⟩); (try simp at y5)))
    all_goals
      have hbw4 : Below w.heap.size w w4 := HB3.out.trans (hb4'.mono hw3)
      have hr4 : w4.heap[w.heap.size]? = some (.cells zeroTok 76 (0, 0)) := (hb4'.block _ (by omega)).trans HR3.out
      have hlt4 : w.heap.size < w4.heap.size := by have := hb4'.size; omega
      have hnum4 := (HK3.out w4 hb4').2.2.2.2.1
    case _ =>
      refine abs_exit (AfterTok w w2.heap.size (.int .i64 size) _ #[.int .u8 3, .int .u8 1, .int .u8 128, .int .i64 pos, .slice (some ⟨b, off, none⟩) size c, .string sz]) (by first | exact after_new hlt4 hbw4 hr4 hnum4 | exact after_drew (after_new hlt4 hbw4 hr4 hnum4)) ?_
      intro w5 ha5
      have HA5 := Lib.hid ha5
      have hn5 := ha5.num
      have hF := ha5.hF
      have hqF : ¬ q = w4.heap.size := by omega
      have HST := Lib.hid hF
      clear ha5  hr4 hbw4 hnum4
      go_wp2_with fail
      refine (HC.out _ HA5.out.below).mono ?_
      rintro e w6 ⟨rfl, hs6, v, hw6⟩
      have hk6 : Keeps q w w6 := by rw [hw6]; exact (Keeps.of HA5.out.below).setCell 10 _
      have hR6 : w6.heap[w.heap.size]? = some (.cells zeroTok 76 (0, 0)) := by rw [hw6, blk_other _ _ _ hne1]; exact HA5.out.res
      have hc6 : ∀ j x, (#[.int .u8 3, .int .u8 1, .int .u8 128, .int .i64 pos, .slice (some ⟨b, off, none⟩) size c, .string sz] : Array Value)[j]? = some x → w6.cell? ⟨w4.heap.size, j, none⟩ = some x := fun j x hj => by
        rw [hw6, World.cell?_setCell_other w5 _ _ _ (fun e => hqF (congrArg Addr.block e))]
        exact HA5.out.cell j x hj
      have k0 := hc6 0 _ rfl
      have k1 := hc6 1 _ rfl
      have k2 := hc6 2 _ rfl
      have k3 := hc6 3 _ rfl
      have k4 := hc6 4 _ rfl
      have k5 := hc6 5 _ rfl
      have HS6 := Lib.hid hs6
      have HQW : Hid (b < w.heap.size ∧ q < w.heap.size) := Lib.hid ⟨by have := HBQ.out; omega, hq⟩
      clear hc6 hs6 hw6 hqF hF
      go_wp2_with ((with_reducible refine store_own ?_ 76 (.tmp 2) (.tmp 54) ?_ w.heap.size #[.int .u8 3, .int .u8 1, .int .u8 128, .int .i64 pos, .slice (some ⟨b, off, none⟩) size c, .string sz] ?_ ?_ 76 zeroTok hR6 6 infoT ?_ ?_ ?_ q w hk6 (Nat.le_refl _) ?_); rfl; rfl; rfl; rfl; rfl; rfl; rfl; (intro w7 hg7 hcs ho7 hs7 hk7); refine Hid.out ?_)
      refine Lib.hid ?_
      have c0 := hcs 0 _ rfl
      have c1 := hcs 1 _ rfl
      have c2 := hcs 2 _ rfl
      have c3 := hcs 3 _ rfl
      have c4 := hcs 4 _ rfl
      have c5 := hcs 5 _ rfl
      have HG7 := Lib.hid (And.intro ho7 (And.intro hs7 hk7))
      clear k0 k1 k2 k3 k4 k5 hR6 hk6 hg7 hcs ho7 hs7 hk7
      go_wp2
      refine bodyPost_ret (v := .tuple #[(⟨3, 1, 128, pos, .slice (some ⟨b, off, none⟩) size c, sz⟩ : Tok).v, .bool true]) (by simp [results, Tryz.results110, go_sem, Tok.v, c0, c1, c2, c3, c4, c5]) rfl ⟨⟨_, rfl, rfl, rfl, rfl, rfl, HRAW.out, rfl⟩, ?_, HG7.out.2.2⟩
      exact HS6.out.same (HG7.out.1 q (by have := HQW.out; omega)) (HG7.out.1 b (by have := HQW.out; omega)) (by have := HG7.out.2.1; omega)
    case _ =>
      refine abs_exit (AfterTok w w2.heap.size (.int .i64 size) _ #[.int .u8 3, .int .u8 1, .int .u8 128, .int .i64 pos, .slice (some ⟨b, off, none⟩) size c, .string sz]) (by first | exact after_set (by omega) (by have := hb4'.size; omega) hbw4 hr4 g0 g1 g2 g3 g4 g5 hnum4 (by omega) | exact after_drew (after_set (by omega) (by omega) hbw4 hr4 g0 g1 g2 g3 g4 g5 hnum4 (by omega))) ?_
      intro w5 ha5
      have HA5 := Lib.hid ha5
      have hn5 := ha5.num
      have hF := ha5.hF
      have hqF : ¬ q = W3.heap.size := by omega
      have HST := Lib.hid hF
      clear ha5 g0 g1 g2 g3 g4 g5 y0 y1 y2 y3 y4 y5 hr4 hbw4 hnum4
      go_wp2_with fail
      refine (HC.out _ HA5.out.below).mono ?_
      rintro e w6 ⟨rfl, hs6, v, hw6⟩
      have hk6 : Keeps q w w6 := by rw [hw6]; exact (Keeps.of HA5.out.below).setCell 10 _
      have hR6 : w6.heap[w.heap.size]? = some (.cells zeroTok 76 (0, 0)) := by rw [hw6, blk_other _ _ _ hne1]; exact HA5.out.res
      have hc6 : ∀ j x, (#[.int .u8 3, .int .u8 1, .int .u8 128, .int .i64 pos, .slice (some ⟨b, off, none⟩) size c, .string sz] : Array Value)[j]? = some x → w6.cell? ⟨W3.heap.size, j, none⟩ = some x := fun j x hj => by
        rw [hw6, World.cell?_setCell_other w5 _ _ _ (fun e => hqF (congrArg Addr.block e))]
        exact HA5.out.cell j x hj
      have k0 := hc6 0 _ rfl
      have k1 := hc6 1 _ rfl
      have k2 := hc6 2 _ rfl
      have k3 := hc6 3 _ rfl
      have k4 := hc6 4 _ rfl
      have k5 := hc6 5 _ rfl
      have HS6 := Lib.hid hs6
      have HQW : Hid (b < w.heap.size ∧ q < w.heap.size) := Lib.hid ⟨by have := HBQ.out; omega, hq⟩
      clear hc6 hs6 hw6 hqF hF
      go_wp2_with ((with_reducible refine store_own ?_ 76 (.tmp 2) (.tmp 54) ?_ w.heap.size #[.int .u8 3, .int .u8 1, .int .u8 128, .int .i64 pos, .slice (some ⟨b, off, none⟩) size c, .string sz] ?_ ?_ 76 zeroTok hR6 6 infoT ?_ ?_ ?_ q w hk6 (Nat.le_refl _) ?_); rfl; rfl; rfl; rfl; rfl; rfl; rfl; (intro w7 hg7 hcs ho7 hs7 hk7); refine Hid.out ?_)
      refine Lib.hid ?_
      have c0 := hcs 0 _ rfl
      have c1 := hcs 1 _ rfl
      have c2 := hcs 2 _ rfl
      have c3 := hcs 3 _ rfl
      have c4 := hcs 4 _ rfl
      have c5 := hcs 5 _ rfl
      have HG7 := Lib.hid (And.intro ho7 (And.intro hs7 hk7))
      clear k0 k1 k2 k3 k4 k5 hR6 hk6 hg7 hcs ho7 hs7 hk7
      go_wp2
      refine bodyPost_ret (v := .tuple #[(⟨3, 1, 128, pos, .slice (some ⟨b, off, none⟩) size c, sz⟩ : Tok).v, .bool true]) (by simp [results, Tryz.results110, go_sem, Tok.v, c0, c1, c2, c3, c4, c5]) rfl ⟨⟨_, rfl, rfl, rfl, rfl, rfl, HRAW.out, rfl⟩, ?_, HG7.out.2.2⟩
      exact HS6.out.same (HG7.out.1 q (by have := HQW.out; omega)) (HG7.out.1 b (by have := HQW.out; omega)) (by have := HG7.out.2.1; omega)

end Go.Proofs.YtpneioocmpagmaaGreatDoor.tx

