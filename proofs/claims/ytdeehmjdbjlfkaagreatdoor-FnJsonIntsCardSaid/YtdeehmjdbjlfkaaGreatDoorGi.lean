/- impl.copied, json.NewDecoder, impl.JsonNumber at a whole number. -/
import Derived.Test.YtdeehmjdbjlfkaaGreatDoorGd
import Derived.Test.YtdeehmjdbjlfkaaGreatDoorGh
import Derived.Laws.Externs
namespace Go.Proofs.YtdeehmjdbjlfkaaGreatDoor.jn
open Go.RowKit Go.Proofs.YtdeehmjdbjlfkaaGreatDoor.js Go.Proofs.YtdeehmjdbjlfkaaGreatDoor.pu Go.Proofs.YtdeehmjdbjlfkaaGreatDoor.num Go.Proofs.YtdeehmjdbjlfkaaGreatDoor.fl
set_option linter.unusedVariables false
set_option linter.unusedSimpArgs false

/-- A row of bytes that is read. -/
def Bytes (w : World) (b off : Nat) (m : List UInt8) : Prop := ∀ j u, (m.map bb)[j]? = some u → w.cell? ((⟨b, off, none⟩ : Addr).add j) = some u

theorem own_row {w : World} {B : Nat} {v : Value} {g : List UInt8} (h : OwnB w B v g) (hn : 0 < g.length) : ∃ gb n cap, v = .slice (some ⟨gb, 0, none⟩) n cap ∧ g.length = n ∧ n ≤ cap ∧ cap ≤ 9223372036854775807 ∧ B ≤ gb ∧ gb < w.heap.size ∧ Bytes w gb 0 g := by
  have hh := h
  rcases h.2 with ⟨_, h0⟩ | ⟨gb, cap, cur, rfl, hg, hb, hnc, hm, _⟩
  · omega
  · exact ⟨gb, _, cap, rfl, rfl, hnc, by unfold maxLen at hm; omega, hg, (Array.getElem?_eq_some_iff.1 hb).1, fun j u hu => World.ownsRow.cells (g := gb) hh rfl j u hu⟩

set_option maxHeartbeats 4000000 in
set_option maxRecDepth 100000 in
theorem copied_row (b off cap n : Nat) (m : List UInt8) (hn : m.length = n) (h1 : 1 ≤ n) (hmax : n ≤ 140737488355328) (w : World) (hb : b < w.heap.size) (hc : Bytes w b off m) :
    Calls Tryz.prog 22 #[.slice (some ⟨b, off, none⟩) n cap] w fun e w' => (∃ v', e = .returned v' ∧ OwnB w' w.heap.size v' m) ∧ Below w.heap.size w w' := by
  have HC := Lib.hid hc
  have HA := Lib.hid (fun o j u (hj : (m.map bb)[j]? = some u) => by
    have := hc j u hj
    rw [← this]
    exact World.cell?_alloc_lt w o _ (by unfold Addr.add; split <;> exact hb) : ∀ o j u, (m.map bb)[j]? = some u → (w.alloc o).cell? ((⟨b, off, none⟩ : Addr).add j) = some u)
  clear hc
  go_enter Tryz.func22, Tryz.ntmps22
  go_wp2_with (at_builtin; go_loud (refine wpList_push rfl _ _ rfl w.heap.size _ [] rfl (.inl ⟨_, _, rfl, fun j u hj => by simp at hj⟩) ⟨b, off, none⟩ n cap m rfl hn (HA.out _) h1 (by simpa using hmax) (by simp) w (by go_grown) ?_); (intro v' w' h1 h2); have P := Lib.hid (And.intro h1 h2); clear h1 h2)
  go_ret
  exact ⟨⟨_, rfl, by simpa using P.out.1⟩, P.out.2⟩

theorem rowm_of {w : World} {b : Nat} {m : List UInt8} (h : Bytes w b 0 m) : RowM w b 0 m := by
  intro j hj
  have := h j (bb (m.getD j 0)) (by rw [List.getElem?_map, List.getD_eq_getElem?_getD, List.getElem?_eq_getElem hj]; rfl)
  rw [add_pos] at this
  exact this

set_option maxHeartbeats 4000000 in
set_option maxRecDepth 100000 in
theorem new_decoder (a : Option Addr) (n c : Nat) (w : World) :
    Calls Tryz.prog 27 #[.slice a n c] w fun e w' => e = .returned (.pointer (some ⟨w.heap.size, 0, none⟩)) ∧ DecAt w' w.heap.size 0 0 (.slice none 0 0) false ⟨#[]⟩ (.slice none 0 0) (.slice a n c) (.slice a n c) ∧ Below w.heap.size w w' ∧ w'.heap.size = w.heap.size + 1 := by
  go_enter Tryz.func27, Tryz.ntmps27
  go_wp2
  go_ret
  refine ⟨rfl, ?_, by go_grown, by simp⟩
  exact heap_alloc_new w _

theorem bits64 (n : Nat) (w : World) : (callFunc 34 #[.float .f64 n]).run Tryz.prog w = .ok (.value (.int .u64 n)) w := by
  rw [run_callFunc_extern (e := Extern.MathFloatBits.float64bits) Tryz.func34 (by kernel_rfl) (by kernel_rfl) (by kernel_rfl) (by kernel_rfl)]
  rfl

theorem results_tmp7 {fn : Func} {t u v x y z s : Tmp} (h : fn.results = #[.tmp t, .tmp u, .tmp v, .tmp x, .tmp y, .tmp z, .tmp s]) (tmps : Array Value) (P : Program) (w : World) :
    (results fn tmps).run P w = .ok (.tuple #[tmps.getD t undef, tmps.getD u undef, tmps.getD v undef, tmps.getD x undef, tmps.getD y undef, tmps.getD z undef, tmps.getD s undef]) w := by simp [results, h]

/-- What JsonNumber answers of a whole number. -/
def NumR (rI : Option (Int × Bool)) (rU : NumEnd) (e : Ending) : Prop := ∃ (i : Int) (iok : Bool) (u : Int) (uok : Bool) (f : Int) (fok : Bool),
  e = .returned (.tuple #[.int .i64 i, .bool iok, .int .u64 u, .bool uok, .int .u64 f, .bool fok, .bool true]) ∧ IntR rI (.returned (.tuple #[.int .i64 i, .bool iok])) ∧ UintR rU (.returned (.tuple #[.int .u64 u, .bool uok]))

theorem intR_form {r : Option (Int × Bool)} {e : Ending} (h : IntR r e) : ∃ i ok, e = .returned (.tuple #[.int .i64 i, .bool ok]) := by
  unfold IntR at h
  split at h
  · exact ⟨_, _, h⟩
  · exact ⟨_, _, h⟩
theorem uintR_form {r : NumEnd} {e : Ending} (h : UintR r e) : ∃ i ok, e = .returned (.tuple #[.int .u64 i, .bool ok]) := by
  unfold UintR at h
  split at h
  · exact ⟨_, _, h⟩
  · exact ⟨_, _, h⟩

set_option maxHeartbeats 4000000 in
set_option maxRecDepth 100000 in
theorem json_number (bits b0 L cap0 : Nat) (T : List UInt8) (hbits : bits = 32 ∨ bits = 64) (hT : T.length = L) (hL1 : 1 ≤ L) (hL47 : L ≤ 140737488355000) (hhead : NumHead (at_ T 0)) (hw : WholeN T L 0)
    (rI : Option (Int × Bool)) (hI : pi 10 (2 ^ bits - 1) (2 ^ (bits - 1)) (IntS T 0).data.toList = rI) (hIu : ∀ n u, rI = some (n, u) → u = false)
    (rU : NumEnd) (hU : pu 10 (2 ^ bits - 1) (IntS T 0).data.toList = rU) (hUu : ∀ n u, rU = .ok n u → u = false)
    (m : Nat) (pw : Int) (ng : Bool) (hf : Few ⟨T.toArray⟩ m pw ng) (w : World) (hb0 : b0 < w.heap.size) (hr : Bytes w b0 0 T)
    (hE : ∀ w', Below w.heap.size w w' → FEnv w' ∧ Errs w') :
    Calls Tryz.prog 17 #[.slice (some ⟨b0, 0, none⟩) L cap0, .int .i64 bits] w fun e w' => NumR rI rU e ∧ Below w.heap.size w w' := by
  have hsk : skip T 0 = 0 := skip_stop (fun _ => by
    unfold NumHead at_ at hhead
    unfold ws
    simp only [Bool.or_eq_false_iff, beq_eq_false_iff_ne]
    omega)
  have hskL : skip T L = L := skip_stop (fun h => by omega)
  have HC := Lib.hid (copied_row b0 0 cap0 L T hT hL1 (by omega) w hb0 hr)
  have HH := Lib.hid (And.intro hhead (And.intro hw (And.intro hsk hskL)))
  have HE := Lib.hid hE
  have HT := Lib.hid hT
  have HIU := Lib.hid (And.intro hI (And.intro hIu (And.intro hU hUu)))
  have HF := Lib.hid hf
  have HB := Lib.hid hbits
  have hfb := bits64
  clear hr hT hhead hw hsk hskL hE hI hIu hU hUu hf hbits
  go_enter Tryz.func17, Tryz.ntmps17
  go_wp2_with fail
  refine HC.out.mono ?_
  rintro e w1 ⟨⟨v1, rfl, hown⟩, hb1⟩
  obtain ⟨gb, n, cap, rfl, hgn, hgc, hgm, hgb, hglt, hby⟩ := own_row hown (by rw [HT.out]; exact hL1)
  obtain rfl : L = n := by rw [← hgn]; exact HT.out.symm
  have H1 := Lib.hid (And.intro hb1 (rowm_of hby))
  have hz1 := hb1.size
  clear hb1 hby hgn hown
  go_wp2_with fail
  refine (new_decoder _ _ _ _).mono ?_
  rintro e w2 ⟨rfl, hd2, hb2, hs2⟩
  have hq : w1.heap.size < w2.heap.size := by omega
  have hb12 : Below w.heap.size w w2 := H1.out.1.trans (hb2.mono hz1)
  have hr2 : RowM w2 gb 0 T := H1.out.2.below hb2 hglt
  have R1 := read_number w1.heap.size gb L cap 0 0 L cap L 0 (.slice none 0 0) false ⟨#[]⟩ 0 L cap T HT.out hgc hgm hL47 rfl ⟨by omega, hgc, Nat.le_refl _, fun _ => ⟨rfl, rfl⟩⟩ w2 hq hglt hd2 hr2
    (by rw [HH.out.2.2.1]; exact HH.out.1) (by rw [HH.out.2.2.1]; exact HH.out.2.1.pn) (by rw [HH.out.2.2.1]; omega) (Nat.le_refl _) (by rw [HH.out.2.2.1]; omega)
  rw [HH.out.2.2.1, show L - 0 = L from rfl] at R1
  unfold Took at R1
  rw [HH.out.2.2.2] at R1
  have HR1 := Lib.hid R1
  have H2 := Lib.hid (And.intro hb12 hr2)
  have HQ := Lib.hid (show w.heap.size ≤ w1.heap.size from hz1)
  clear R1 hd2 hb2 hb12 hr2
  go_wp2_with fail
  refine HR1.out.mono ?_
  rintro e w3 ⟨c', hc', rfl, hk3, off3, n3, c3, hin3, hd3⟩
  rw [show cap - 0 = cap from rfl] at hc'
  subst hc'
  have hq3 : w1.heap.size < w3.heap.size := Nat.lt_of_lt_of_le hq hk3.size
  have hr3 : RowM w3 gb 0 T := hk3.row H2.out.2 (by omega) (by omega)
  have hb3 : Below w.heap.size w w3 := H2.out.1.trans (hk3.below HQ.out (by omega))
  have H3 := Lib.hid (And.intro hb3 (And.intro hr3 (And.intro hin3 hd3)))
  have hz3 := hk3.size
  clear hk3 hin3 hd3 hr3 hb3
  unfold tokV
  have HKd : Hid (∀ W, Calls Tryz.prog 30 #[.agg #[.int .u16 8, .int .i64 0, .slice (some ⟨gb, 0, none⟩) L c', .bool false, .string ⟨#[]⟩]] W fun e w' => e = .returned (.int .u16 8) ∧ Below W.heap.size W w') := Lib.hid (fun W => (tok_kind 8 0 (some ⟨gb, 0, none⟩) L c' false ⟨#[]⟩ W).mono fun e w' ⟨he, hw⟩ => ⟨he, by rw [hw]; exact (Below.refl _ _).alloc (Nat.le_refl _) _⟩)
  go_wp2_with fail
  refine (HKd.out _).mono ?_
  rintro e w4 ⟨rfl, hb4⟩
  have t4 : w4.heap[w3.heap.size]? = some (.cells #[.int .u16 8, .int .i64 0, .slice (some ⟨gb, 0, none⟩) L c', .bool false, .string ⟨#[]⟩] 70 (0, 0)) := (hb4.block w3.heap.size (by simp)).trans (heap_alloc_new w3 _)
  have hb34 : Below w3.heap.size w3 w4 := ((Below.refl _ _).alloc (Nat.le_refl _) _).trans (hb4.mono (by simp))
  have hX4 := hb4.size
  rw [World.size_alloc] at hX4
  have R2 := read_end w1.heap.size gb L c' L off3 n3 c3 8 0 (.slice (some ⟨gb, 0, none⟩) L c') false ⟨#[]⟩ 0 L c' T HT.out hgc hgm rfl H3.out.2.2.1 w4 (by omega) hglt ((hb34.block _ hq3).trans H3.out.2.2.2) (hb34.row H3.out.2.1 (by omega)) HH.out.2.2.2 (by decide)
  have HR2 := Lib.hid R2
  have H4 := Lib.hid (And.intro hb34 t4)
  clear R2 hb4 hb34 t4
  go_wp2_with fail
  refine HR2.out.mono ?_
  rintro e w5 ⟨⟨rx, rn, rc, rfl⟩, hk5⟩
  have hz5 := hk5.size
  have t5 : w5.heap[w3.heap.size]? = some (.cells #[.int .u16 8, .int .i64 0, .slice (some ⟨gb, 0, none⟩) L c', .bool false, .string ⟨#[]⟩] 70 (0, 0)) := (hk5.block _ (by omega) (by omega)).trans H4.out.2
  have hr5 : RowM w5 gb 0 T := hk5.row (H4.out.1.row H3.out.2.1 (by omega)) (by omega) (by omega)
  have hb5 : Below w.heap.size w w5 := (H3.out.1.trans (H4.out.1.mono (by have := H3.out.1.size; omega))).trans (hk5.below HQ.out (by have := H3.out.1.size; omega))
  have H5 := Lib.hid (And.intro hb5 (And.intro hr5 t5))
  have HKe : Hid (∀ W, Calls Tryz.prog 30 #[.agg #[.int .u16 1, .int .i64 L, .slice rx rn rc, .bool false, .string ⟨#[]⟩]] W fun e w' => e = .returned (.int .u16 1) ∧ Below W.heap.size W w') := Lib.hid (fun W => (tok_kind 1 L rx rn rc false ⟨#[]⟩ W).mono fun e w' ⟨he, hw⟩ => ⟨he, by rw [hw]; exact (Below.refl _ _).alloc (Nat.le_refl _) _⟩)
  clear hk5 t5 hr5 hb5
  unfold tokV
  go_wp2_with fail
  refine (HKe.out _).mono ?_
  rintro e w6 ⟨rfl, hb6⟩
  have hb56 : Below w5.heap.size w5 w6 := ((Below.refl _ _).alloc (Nat.le_refl _) _).trans (hb6.mono (by simp))
  have HB6 : Hid (Below w5.heap.size w5 w6) := Lib.hid hb56
  have HY : Hid (∀ W, Below w5.heap.size w5 W → W.heap[w3.heap.size]? = some (.cells #[.int .u16 8, .int .i64 0, .slice (some ⟨gb, 0, none⟩) L c', .bool false, .string ⟨#[]⟩] 70 (0, 0))) := Lib.hid (fun W hW => (hW.block _ (by omega)).trans H5.out.2.2)
  have HRW : Hid (∀ W, Below w5.heap.size w5 W → RowM W gb 0 T) := Lib.hid (fun W hW => hW.row H5.out.2.1 (by omega))
  have HEN : Hid (∀ W, Below w5.heap.size w5 W → FEnv W ∧ Errs W) := Lib.hid (fun W hW => HE.out W (H5.out.1.trans (hW.mono H5.out.1.size)))
  have HIT : Hid (∀ W, Below w5.heap.size w5 W → Calls Tryz.prog 31 #[.agg #[.int .u16 8, .int .i64 0, .slice (some ⟨gb, 0, none⟩) L c', .bool false, .string ⟨#[]⟩], .int .i64 bits] W fun e w' => IntR rI e ∧ Below W.heap.size W w') := Lib.hid (fun W hW =>
    tok_int bits gb L c' 0 L c' 0 false ⟨#[]⟩ T HB.out rI HIU.out.1 HIU.out.2.1 HT.out hgc hgm hL47 hL1 (by omega) rfl HH.out.2.1 W (HRW.out W hW) (by have := hW.size; omega) (HEN.out W hW).2)
  have HUT : Hid (∀ W, Below w5.heap.size w5 W → Calls Tryz.prog 32 #[.agg #[.int .u16 8, .int .i64 0, .slice (some ⟨gb, 0, none⟩) L c', .bool false, .string ⟨#[]⟩], .int .i64 bits] W fun e w' => UintR rU e ∧ Below W.heap.size W w') := Lib.hid (fun W hW =>
    tok_uint bits gb L c' 0 L c' 0 false ⟨#[]⟩ T HB.out rU HIU.out.2.2.1 HIU.out.2.2.2 HT.out hgc hgm hL47 hL1 (by omega) rfl HH.out.2.1 W (HRW.out W hW) (by have := hW.size; omega) (HEN.out W hW).2)
  have HFT : Hid (∀ W, Below w5.heap.size w5 W → Calls Tryz.prog 33 #[.agg #[.int .u16 8, .int .i64 0, .slice (some ⟨gb, 0, none⟩) L c', .bool false, .string ⟨#[]⟩], .int .i64 bits] W fun e w' => (∃ (x : Nat) (ok : Bool), e = .returned (.tuple #[.float .f64 x, .bool ok])) ∧ Below W.heap.size W w') := Lib.hid (fun W hW =>
    tok_float gb 0 L c' 0 false ⟨#[]⟩ T HT.out m pw ng HF.out bits (by have := HB.out; omega) W (HRW.out W hW) (by have := hW.size; omega) (fun w' hw' => (HEN.out w' (hW.trans (hw'.mono hW.size))).1) (HEN.out W hW).2)
  clear hb6 hb56
  have ht6 := HY.out w6 HB6.out
  have y0 : w6.cell? ⟨w3.heap.size, 0, none⟩ = some (.int .u16 8) := blk_cell ht6 rfl
  have y1 : w6.cell? ⟨w3.heap.size, 1, none⟩ = some (.int .i64 0) := blk_cell ht6 rfl
  have y2 : w6.cell? ⟨w3.heap.size, 2, none⟩ = some (.slice (some ⟨gb, 0, none⟩) L c') := blk_cell ht6 rfl
  have y3 : w6.cell? ⟨w3.heap.size, 3, none⟩ = some (.bool false) := blk_cell ht6 rfl
  have y4 : w6.cell? ⟨w3.heap.size, 4, none⟩ = some (.string ⟨#[]⟩) := blk_cell ht6 rfl
  clear ht6
  go_wp2_with fail
  refine (HIT.out _ HB6.out).mono ?_
  rintro e w7 ⟨hi7, hb7⟩
  obtain ⟨ii, iok, rfl⟩ := intR_form hi7
  have HI7 := Lib.hid hi7
  have HB7 : Hid (Below w5.heap.size w5 w7) := Lib.hid (HB6.out.trans (hb7.mono HB6.out.size))
  clear hi7 hb7 y0 y1 y2 y3 y4
  have ht7 := HY.out w7 HB7.out
  have y0 : w7.cell? ⟨w3.heap.size, 0, none⟩ = some (.int .u16 8) := blk_cell ht7 rfl
  have y1 : w7.cell? ⟨w3.heap.size, 1, none⟩ = some (.int .i64 0) := blk_cell ht7 rfl
  have y2 : w7.cell? ⟨w3.heap.size, 2, none⟩ = some (.slice (some ⟨gb, 0, none⟩) L c') := blk_cell ht7 rfl
  have y3 : w7.cell? ⟨w3.heap.size, 3, none⟩ = some (.bool false) := blk_cell ht7 rfl
  have y4 : w7.cell? ⟨w3.heap.size, 4, none⟩ = some (.string ⟨#[]⟩) := blk_cell ht7 rfl
  clear ht7
  go_wp2_with fail
  refine (HUT.out _ HB7.out).mono ?_
  rintro e w8 ⟨hu8, hb8⟩
  obtain ⟨uu, uok, rfl⟩ := uintR_form hu8
  have HU8 := Lib.hid hu8
  have HB8 : Hid (Below w5.heap.size w5 w8) := Lib.hid (HB7.out.trans (hb8.mono HB7.out.size))
  clear hu8 hb8 y0 y1 y2 y3 y4
  have ht8 := HY.out w8 HB8.out
  have y0 : w8.cell? ⟨w3.heap.size, 0, none⟩ = some (.int .u16 8) := blk_cell ht8 rfl
  have y1 : w8.cell? ⟨w3.heap.size, 1, none⟩ = some (.int .i64 0) := blk_cell ht8 rfl
  have y2 : w8.cell? ⟨w3.heap.size, 2, none⟩ = some (.slice (some ⟨gb, 0, none⟩) L c') := blk_cell ht8 rfl
  have y3 : w8.cell? ⟨w3.heap.size, 3, none⟩ = some (.bool false) := blk_cell ht8 rfl
  have y4 : w8.cell? ⟨w3.heap.size, 4, none⟩ = some (.string ⟨#[]⟩) := blk_cell ht8 rfl
  clear ht8
  go_wp2_with fail
  refine (HFT.out _ HB8.out).mono ?_
  rintro e w9 ⟨⟨fx, fok, rfl⟩, hb9⟩
  have HB9 : Hid (Below w.heap.size w w9) := Lib.hid (H5.out.1.trans ((HB8.out.trans (hb9.mono HB8.out.size)).mono H5.out.1.size))
  clear hb9 y0 y1 y2 y3 y4
  go_wp2_with fail
  refine bodyPost_ret (results_tmp7 rfl _ _ _) rfl ⟨⟨ii, iok, uu, uok, fx, fok, rfl, HI7.out, HU8.out⟩, HB9.out⟩

end Go.Proofs.YtdeehmjdbjlfkaaGreatDoor.jn
