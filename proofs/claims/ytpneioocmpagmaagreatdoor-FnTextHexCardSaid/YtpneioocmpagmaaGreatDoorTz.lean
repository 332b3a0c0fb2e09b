/- impl.TextScalar. -/
import Derived.Test.YtpneioocmpagmaaGreatDoorTy
import Derived.Lib.SlBytesConst
import Derived.Deep.RegionLaw
namespace Go.Proofs.YtpneioocmpagmaaGreatDoor.tx
open Go.RowKit
set_option linter.unusedVariables false
set_option linter.unusedSimpArgs false

theorem head_cells (W : World) : ∀ j u, (([97, 58, 32] : List UInt8).map bb)[j]? = some u → (W.alloc (.cells #[.int .u8 97, .int .u8 58, .int .u8 32] 5 (3, 4))).cell? ((⟨W.heap.size, 0, none⟩ : Addr).add j) = some u := by
  intro j u hj
  rw [add_pos, Nat.zero_add, World.cell?_alloc_mark]
  match j, hj with
  | 0, hj => simpa [bb] using hj
  | 1, hj => simpa [bb] using hj
  | 2, hj => simpa [bb] using hj
  | j + 3, hj => simp at hj

theorem head_cells2 (w : World) (o : Obj) : ∀ j u, (([97, 58, 32] : List UInt8).map bb)[j]? = some u → ((w.alloc o).alloc (.cells #[.int .u8 97, .int .u8 58, .int .u8 32] 5 (3, 4))).cell? ((⟨w.heap.size + 1, 0, none⟩ : Addr).add j) = some u := by
  have := head_cells (w.alloc o)
  rw [World.size_alloc] at this
  exact this

set_option maxHeartbeats 4000000 in
set_option maxRecDepth 100000 in
theorem raw_string (k a n : Nat) (q : Int) (b o size c p L : Nat) (T : List UInt8) (s : ByteArray) (hT : T.length = L) (hro : 0 < size → o = p) (hle : p + size ≤ L) (W : World) (hb : b < W.heap.size) (hr : RowM W b 0 T) :
    Calls Tryz.prog 33 #[.agg #[.int .u8 k, .int .u8 a, .int .u8 n, .int .i64 q, .slice (some ⟨b, o, none⟩) size c, .string s]] W fun e w' => (∃ r, e = .returned (.string r)) ∧ Below W.heap.size W w' := by
  have hlen := part_len (T := T) (p := p) (size := size) (by omega)
  have hrow : RowM W b o (part T p size) := by
    by_cases h : 0 < size
    · rw [hro h]; exact part_row hr (by omega)
    · intro j hj; omega
  have CV := fun (W' : World) (hW : Below W.heap.size W W') => conv_row (w := W') (b := b) (o := o) (c := c) (tx := part T p size) (hrow.below hW hb)
  rw [hlen] at CV
  have cv := CV (W.alloc (.cells #[.int .u8 k, .int .u8 a, .int .u8 n, .int .i64 q, .slice (some ⟨b, o, none⟩) size c, .string s] 76)) ((Below.refl _ _).alloc (Nat.le_refl _) _)
  clear CV hrow hr hlen hro hle
  go_enter Tryz.func33, Tryz.ntmps33
  go_wp2_with fail
  go_ret
  exact ⟨⟨_, rfl⟩, by go_grown⟩

theorem results_ctt {P : Program} {fn : Func} {p t u : Tmp} {ty : TypeId} (h : fn.results = #[.cell p ty, .tmp t, .tmp u]) (tmps : Array Value) (w : World) (g : Nat) (tt : TypeId) (cs : Array Value) (fr : Nat × Nat) (d : TypeDesc)
    (hp : tmps.getD p undef = .pointer (some ⟨g, 0, none⟩)) (hg : w.heap[g]? = some (.cells cs tt fr))
    (hu : P.underlying ty = some d) (hd : (match d with | .struct _ | .array _ _ => true | _ => false) = true) (hi : (P.info? ty).map (·.size) = some cs.size) :
    (results fn tmps).run P w = .ok (.tuple #[.agg cs, tmps.getD t undef, tmps.getD u undef]) w := by
  have hp' : tmps[p]?.getD undef = .pointer (some ⟨g, 0, none⟩) := by simpa using hp
  simp [results, h, hp', asAddr, run_loadVar_row w g tt ty cs fr d hg hu hd hi]

theorem step_load_row {P : Program} {ops : Array Oper} {o : Oper} {a : Act} {w : World} {K : Act → World → Prop} {Q : Exit → Act → World → Prop} {E : Prop} (hgd : o.guard = none) (ty : TypeId) (x : Operand) (ho : o.op = .load ty x)
    (g : Nat) (hx : a.eval x = .pointer (some ⟨g, 0, none⟩)) (t : TypeId) (cs : Array Value) (fr : Nat × Nat) (d : TypeDesc) (hg : w.heap[g]? = some (.cells cs t fr))
    (hu : P.underlying ty = some d) (hd : (match d with | .struct _ | .array _ _ => true | _ => false) = true) (hi : (P.info? ty).map (·.size) = some cs.size)
    (h : K (a.put o.dst (.agg cs)) w) : if Region.wanted o (yielded ops a.tmps) = true then Oper.wp P o a w K Q else E := by
  have hw : Region.wanted o (yielded ops a.tmps) = true := by simp [Region.wanted, hgd]
  rw [if_pos hw]
  exact wp_load_row ty x ho g hx t cs fr d hg hu hd hi h

set_option maxHeartbeats 16000000 in
set_option maxRecDepth 100000 in
theorem text_scalar (l : List UInt8) (hl : l ≠ []) (hmax : l.length ≤ 140737488350000) (ad : Addr) (c : Nat) (na : Nat) (s : ByteArray) (hrd : Reads (97 :: 58 :: 32 :: l) (l.length + 3) 3 1 na s)
    (QB : Bool → Bool → Prop) (QI Qi QU Qu : Int → Bool → Prop) (QF Qf : Bool → Prop) (QE QS : ByteArray → Bool → Prop) (w : World) (hr : ∀ j u, (l.map bb)[j]? = some u → w.cell? (ad.add j) = some u)
    (hval : ∀ t : Tok, t.kd = 3 → t.ats = 1 → t.na = na → t.s = s → t.raw.oneCell' = true → ∀ W, Below w.heap.size w W → Calls Tryz.prog 32 #[t.v] W fun e w' => ValSays QB QI Qi QU Qu QF Qf QE QS e ∧ Below W.heap.size W w') :
    Calls Tryz.prog 15 #[.slice (some ad) l.length c] w fun e w' => (∃ v rs, e = .returned (.tuple #[v, .string rs, .bool true]) ∧ ValSays QB QI Qi QU Qu QF Qf QE QS (.returned v)) ∧ Below w.heap.size w w' := by
  have hlp : 1 ≤ l.length := by cases l with | nil => exact absurd rfl hl | cons a b => simp
  have hadl : ad.block < w.heap.size := by
    have := hr 0 (bb (l.getD 0 0)) (by rw [List.getElem?_map, List.getElem?_eq_getElem (by omega)]; simp [List.getD_eq_getElem?_getD, List.getElem?_eq_getElem (show 0 < l.length by omega)])
    have h2 := cell_lt this
    simpa [Addr.add] using h2
  have kc : (convert 25 25 (.slice (some ⟨w.heap.size + 1, 0, none⟩) 3 3)).run Tryz.prog ((w.alloc (.cells #[.bool false, .bool false, .int .i64 0, .bool false, .int .i32 0, .bool false, .int .u64 0, .bool false, .int .u32 0, .bool false, .int .u64 0, .bool false, .int .u64 0, .bool false, .string ⟨#[]⟩, .bool false, .string ⟨#[]⟩, .bool false] 42)).alloc (.cells #[.int .u8 97, .int .u8 58, .int .u8 32] 5)) = .ok (.slice (some ⟨w.heap.size + 1, 0, none⟩) 3 3) ((w.alloc (.cells #[.bool false, .bool false, .int .i64 0, .bool false, .int .i32 0, .bool false, .int .u64 0, .bool false, .int .u32 0, .bool false, .int .u64 0, .bool false, .int .u64 0, .bool false, .string ⟨#[]⟩, .bool false, .string ⟨#[]⟩, .bool false] 42)).alloc (.cells #[.int .u8 97, .int .u8 58, .int .u8 32] 5 (3, 4))) := by
    have := Lib.run_convert_bytes_const (P := Tryz.prog) (w.alloc (.cells #[.bool false, .bool false, .int .i64 0, .bool false, .int .i32 0, .bool false, .int .u64 0, .bool false, .int .u32 0, .bool false, .int .u64 0, .bool false, .int .u64 0, .bool false, .string ⟨#[]⟩, .bool false, .string ⟨#[]⟩, .bool false] 42)) 25 5 #[.int .u8 97, .int .u8 58, .int .u8 32] 3 3 Tryz.underlying25 Tryz.underlying5
    rw [World.size_alloc] at this
    exact this
  have HR := Lib.hid (fun (W : World) (hW : Below w.heap.size w W) (j : Nat) (u : Value) (hj : (l.map bb)[j]? = some u) => ((hW.cell (p := ad.add j) (by unfold Addr.add; split <;> exact hadl)).trans (hr j u hj) : W.cell? (ad.add j) = some u))
  have HV := Lib.hid hval
  have HRD := Lib.hid hrd
  have HM := Lib.hid (And.intro hlp hmax)
  clear hval hrd hr hl
  go_enter Tryz.func15, Tryz.ntmps15
  go_wp2_with (first | (go_at_call 29; go_in) | (at_builtin; go_loud (refine wpList_push rfl _ _ rfl (w.heap.size + 1) _ [97, 58, 32] rfl (.inl ⟨_, _, rfl, head_cells2 w _⟩) _ _ _ l rfl rfl (HR.out _ (by go_grown)) HM.out.1 (by have := HM.out.2; simp; omega) (by simp) (w.alloc (.cells zeroVals 42)) (by first | exact (Below.refl _ _).alloc (by simp) _ | exact ((Below.refl _ _).alloc (by simp) _).drew | go_grown) ?_); (intro v1 w1 hown hb1); obtain ⟨gb, gc, rfl, hg1, hg2, hg3, hg4, hrow⟩ := own_slice hown (by simp); have HO1 := Lib.hid (And.intro hb1 (And.intro hrow (And.intro hg1 (And.intro hg2 (And.intro hg3 hg4))))); clear hown hb1 hrow hg1 hg2 hg3 hg4))
  have hw1 : w.heap.size + 1 ≤ w1.heap.size := by have := HO1.out.1.size; simpa using this
  have hcx : Cx w1.heap.size gb (l.length + 3) gc (97 :: 58 :: 32 :: l) := ⟨by simp, HO1.out.2.2.1, HO1.out.2.2.2.1, by have := HM.out.2; omega, HO1.out.2.2.2.2.2⟩
  have st0 : St w1.heap.size gb (l.length + 3) gc 0 gc (97 :: 58 :: 32 :: l) (w1.alloc (.cells (decRow tok0 (.slice none 0 0) (.slice (some ⟨gb, 0, none⟩) (l.length + 3) gc) (inV gb 0 (l.length + 3) gc)) 104)) tok0 (.slice none 0 0) 0 :=
    ⟨0, l.length + 3, gc, ⟨by omega, HO1.out.2.2.1, Nat.le_refl _, fun _ => ⟨rfl, rfl⟩⟩, heap_alloc_new w1 _, HO1.out.2.1.below ((Below.refl _ _).alloc (Nat.le_refl _) _) HO1.out.2.2.2.2.2, by simp⟩
  have hR1 : w1.heap[w.heap.size]? = some (.cells zeroVals 42 (0, 0)) := (HO1.out.1.block w.heap.size (by omega)).trans (heap_alloc_new w _)
  have hbw1 : Below w.heap.size w w1 := ((Below.refl _ _).alloc (Nat.le_refl _) _).trans (HO1.out.1.mono (Nat.le_succ _))
  refine (HRD.out.run w1.heap.size gb gc hcx _ st0).mono ?_
  rintro e w2 ⟨t1, rfl, ⟨o1, n1, c1, hraw1⟩, hk1, hnext1⟩
  obtain ⟨a1, a2, a3, a4, a5, a6⟩ := t1
  simp only at hraw1
  subst hraw1
  have hq1 : w.heap.size ≠ w1.heap.size := by omega
  have hR2 : w2.heap[w.heap.size]? = some (.cells zeroVals 42 (0, 0)) := (hk1.block w.heap.size (by simp; omega) hq1).trans (alloc_blk hR1)
  have hk02 : Keeps w1.heap.size w1 w2 := (Keeps.of ((Below.refl _ _).alloc (Nat.le_refl _) _)).trans hk1
  have hz2 : w1.heap.size < w2.heap.size := by have := hk1.size; simp at this; omega
  have H2 := Lib.hid (And.intro hR2 (And.intro hk02 (And.intro hbw1 hnext1)))
  clear hcx st0 hR1 hbw1 hk1 hR2 hk02 hnext1 kc
  unfold Tok.v
  go_wp2_with fail
  refine (H2.out.2.2.2 _ (by go_grown)).mono ?_
  rintro e w3 ⟨t2, rfl, ⟨k1, k2, k3, k4, p2, s2, ⟨o2, c2, hraw2, hrw2, hro2⟩, hle2⟩, hrow3, hk2, hnext2⟩
  obtain ⟨b1, b2, b3, b4, b5, b6⟩ := t2
  simp only at k1 k2 k3 k4 hraw2
  subst k1 k2 k3 k4 hraw2
  have hz3 : w2.heap.size < w3.heap.size := by have := hk2.size; simp at this; omega
  have hR3 : w3.heap[w.heap.size]? = some (.cells zeroVals 42 (0, 0)) := (hk2.block w.heap.size (by simp; omega) hq1).trans (alloc_blk H2.out.1)
  have hk03 : Keeps w1.heap.size w1 w3 := (H2.out.2.1.trans (Keeps.of ((Below.refl _ _).alloc (Nat.le_refl _) _))).trans hk2
  have H3 := Lib.hid (And.intro hR3 (And.intro hk03 (And.intro hnext2 (And.intro hrow3 (And.intro hle2 (And.intro hrw2 hro2))))))
  clear hR3 hk03 hk2 hnext2 hrow3 hle2 hrw2 hro2
  unfold Tok.v
  go_wp2_with (go_at_call 31; go_in)
  refine (H3.out.2.2.1 _ (by go_grown)).mono ?_
  rintro e w4 ⟨t3, rfl, k5, ⟨o3, n3, c3, hraw3⟩, hk3⟩
  obtain ⟨d1, d2, d3, d4, d5, d6⟩ := t3
  simp only at k5 hraw3
  subst k5 hraw3
  have hz4 : w3.heap.size < w4.heap.size := by have := hk3.size; simp at this; omega
  have HK3 := Lib.hid hk3
  clear hk3
  unfold Tok.v
  go_wp2_with (go_at_call 31; go_in)
  have hR4 : w4.heap[w.heap.size]? = some (.cells zeroVals 42 (0, 0)) := (HK3.out.block w.heap.size (by simp; omega) hq1).trans (alloc_blk (alloc_blk H3.out.1))
  have hT4 : w4.heap[w3.heap.size]? = some (.cells #[.int .u8 (3 : Nat), .int .u8 (1 : Nat), .int .u8 b3, .int .i64 b4, .slice (some ⟨gb, o2, none⟩) s2 c2, .string b6] 76 (0, 0)) := (HK3.out.block w3.heap.size (by simp; omega) (by omega)).trans (alloc_blk (heap_alloc_new w3 _))
  have hb04 : Below w.heap.size w w4 := by
    have k1 : Keeps w1.heap.size w1 w4 := (H3.out.2.1.trans (Keeps.of (by go_grown))).trans HK3.out
    exact H2.out.2.2.1.trans (k1.below (Nat.le_of_lt (by omega)) (Nat.le_of_lt (by omega)))
  have HR4 : Hid (RowM w4 gb 0 (97 :: 58 :: 32 :: l)) := Lib.hid (fun j hj => (HK3.out.cell (p := ⟨gb, 0 + j, none⟩) (by have := HO1.out.2.2.2.2.2; simp; omega) (by have := HO1.out.2.2.2.2.2; show ¬ gb = w1.heap.size; omega)).trans ((((H3.out.2.2.2.1.below ((Below.refl _ _).alloc (Nat.le_refl _) _) (by have := HO1.out.2.2.2.2.2; omega))).below ((Below.refl _ _).alloc (Nat.le_refl _) _) (by have := HO1.out.2.2.2.2.2; simp; omega)) j hj))
  have HF4 := Lib.hid (And.intro hR4 (And.intro hT4 hb04))
  clear hR4 hT4 hb04
  refine abs_code (fun W => W.heap[w.heap.size]? = some (.cells zeroVals 42 (0, 0)) ∧ W.heap[w3.heap.size]? = some (.cells #[.int .u8 (3 : Nat), .int .u8 (1 : Nat), .int .u8 b3, .int .i64 b4, .slice (some ⟨gb, o2, none⟩) s2 c2, .string b6] 76 (0, 0)) ∧ Below w.heap.size w W ∧ w3.heap.size < W.heap.size ∧ (gb < W.heap.size ∧ RowM W gb 0 (97 :: 58 :: 32 :: l))) ⟨alloc_blk (alloc_blk HF4.out.1), alloc_blk (alloc_blk HF4.out.2.1), (HF4.out.2.2.alloc (by omega) _).alloc (by simp; omega) _, by simp; omega, by have := HO1.out.2.2.2.2.2; simp; omega, (HR4.out.below ((Below.refl _ _).alloc (Nat.le_refl _) _) (by have := HO1.out.2.2.2.2.2; omega)).below ((Below.refl _ _).alloc (Nat.le_refl _) _) (by have := HO1.out.2.2.2.2.2; simp; omega)⟩ ?_
  rintro W5 ⟨hR5, hT5, hb05, hz5, hG5⟩
  have HC5 : Hid (∀ W, Below W5.heap.size W5 W → W.cell? ⟨w3.heap.size, 0, none⟩ = some (.int .u8 (3 : Nat)) ∧ W.cell? ⟨w3.heap.size, 1, none⟩ = some (.int .u8 (1 : Nat)) ∧ W.cell? ⟨w3.heap.size, 2, none⟩ = some (.int .u8 b3) ∧ W.cell? ⟨w3.heap.size, 3, none⟩ = some (.int .i64 b4) ∧ W.cell? ⟨w3.heap.size, 4, none⟩ = some (.slice (some ⟨gb, o2, none⟩) s2 c2) ∧ W.cell? ⟨w3.heap.size, 5, none⟩ = some (.string b6)) := Lib.hid (fun W hW => by
    have e := (hW.block w3.heap.size hz5).trans hT5
    exact ⟨blk_cell e rfl, blk_cell e rfl, blk_cell e rfl, blk_cell e rfl, blk_cell e rfl, blk_cell e rfl⟩)
  have H5 := Lib.hid (And.intro hR5 (And.intro hb05 hz5))
  obtain ⟨t0, t1, t2, t3, t4, t5⟩ := HC5.out W5 (Below.refl _ _)
  have hlt5 : w.heap.size < W5.heap.size := by omega
  have HG5 : Hid (gb < W5.heap.size ∧ RowM W5 gb 0 (97 :: 58 :: 32 :: l)) := Lib.hid hG5
  have HT5 : Hid (∀ W, Below W5.heap.size W5 W → W.heap[w3.heap.size]? = some (.cells #[.int .u8 (3 : Nat), .int .u8 (1 : Nat), .int .u8 b3, .int .i64 b4, .slice (some ⟨gb, o2, none⟩) s2 c2, .string b6] 76 (0, 0)) ∧ W.heap[w.heap.size]? = some (.cells zeroVals 42 (0, 0))) := Lib.hid (fun W hW => ⟨(hW.block _ hz5).trans hT5, (hW.block _ (by omega)).trans hR5⟩)
  refine wp_region_any (by kernel_rfl) ?_
  try (change wpAny _ _ _ _ _ _ _ (World.drew _))
  refine wpAny_ready (rs := [0, 2]) (by kernel_rfl) (by simp) ?_
  refine AllReady.cons rfl (fun K hK => ?_) (AllReady.cons rfl (fun K hK => ?_) AllReady.nil)
  · refine step_load_row rfl 76 (.tmp 8) rfl w3.heap.size (by simp [Act.eval, Act.put]) 76 #[.int .u8 (3 : Nat), .int .u8 (1 : Nat), .int .u8 b3, .int .i64 b4, .slice (some ⟨gb, o2, none⟩) s2 c2, .string b6] (0, 0) _ (HT5.out _ (Below.refl _ _).drew).1 Tryz.underlying76 rfl infoT ?_
    refine hK _ _ ?_
    clear hK K
    refine wpAny_ready (rs := [1, 2]) (by kernel_rfl) (by simp) ?_
    refine AllReady.cons rfl (fun K hK => ?_) (AllReady.cons rfl (fun K hK => ?_) AllReady.nil)
    · go_simp
      go_at_call 32
      refine (HV.out ⟨3, 1, b3, b4, .slice (some ⟨gb, o2, none⟩) s2 c2, b6⟩ rfl rfl rfl rfl rfl _ H5.out.2.1.drew).mono ?_
      rintro e w6 ⟨⟨x0, y0, x1, y1, x2, y2, x3, y3, x4, y4, x5, y5, x6, y6, x7, y7, x8, y8, rfl, hq⟩, hb6⟩
      have hb6' : Below W5.heap.size W5 w6 := ((Below.refl _ _).drew).trans hb6
      try go_simp
      refine hK _ _ ?_
      clear hK K
      refine wpAny_ready (rs := [2]) (by kernel_rfl) (by simp) ?_
      refine AllReady.cons rfl (fun K hK => ?_) AllReady.nil
      refine step_load_row rfl 76 (.tmp 8) rfl w3.heap.size (by simp [Act.eval, Act.put]) 76 #[.int .u8 (3 : Nat), .int .u8 (1 : Nat), .int .u8 b3, .int .i64 b4, .slice (some ⟨gb, o2, none⟩) s2 c2, .string b6] (0, 0) _ (HT5.out _ hb6').1 Tryz.underlying76 rfl infoT ?_
      refine hK _ _ ?_
      clear hK K
      refine wpAny_ready (rs := [3]) (by kernel_rfl) (by simp) ?_
      refine AllReady.cons rfl (fun K hK => ?_) AllReady.nil
      go_simp
      go_at_call 33
      refine (raw_string 3 1 b3 b4 gb o2 s2 c2 p2 (l.length + 3) (97 :: 58 :: 32 :: l) b6 (by simp) H3.out.2.2.2.2.2.2 H3.out.2.2.2.2.1 _ (Nat.lt_of_lt_of_le HG5.out.1 hb6'.size) (HG5.out.2.below hb6' HG5.out.1)).mono ?_
      rintro e w7 ⟨⟨rs, rfl⟩, hb7⟩
      have hb7' : Below W5.heap.size W5 w7 := hb6'.trans (hb7.mono hb6'.size)
      try go_simp
      refine hK _ _ ?_
      clear hK K
      refine wpAny_ready (rs := [4]) (by kernel_rfl) (by simp) ?_
      refine AllReady.cons rfl (fun K hK => ?_) AllReady.nil
      refine step_store_own rfl 42 (.tmp 2) (.tmp 50) rfl w.heap.size #[.bool x0, .bool y0, .int .i64 x1, .bool y1, .int .i32 x2, .bool y2, .int .u64 x3, .bool y3, .int .u32 x4, .bool y4, .int .u64 x5, .bool y5, .int .u64 x6, .bool y6, .string x7, .bool y7, .string x8, .bool y8] (by simp [Act.eval, Act.put]) (by simp [Act.eval, Act.put]) 42 zeroVals (HT5.out _ hb7').2 18 infoV rfl rfl rfl ?_
      intro w8 hg8 hc8 hbs8 hs8
      refine hK _ _ ?_
      clear hK K hc8
      refine wpAny_ready (rs := [5]) (by kernel_rfl) (by simp) ?_
      refine AllReady.cons rfl (fun K hK => ?_) AllReady.nil
      go_simp
      refine hK _ _ ?_
      clear hK K
      refine wpAny_ready (rs := [6]) (by kernel_rfl) (by simp) ?_
      refine AllReady.cons rfl (fun K hK => ?_) AllReady.nil
      go_simp
      refine hK _ _ ?_
      clear hK K
      refine wpAny_done (by kernel_rfl) ?_ _
      have hb8 : Below w.heap.size w w8 := hbs8 _ _ (H5.out.2.1.trans (hb7'.mono H5.out.2.1.size)) (Nat.le_refl _)
      go_wp2
      refine bodyPost_ret (v := .tuple #[.agg #[.bool x0, .bool y0, .int .i64 x1, .bool y1, .int .i32 x2, .bool y2, .int .u64 x3, .bool y3, .int .u32 x4, .bool y4, .int .u64 x5, .bool y5, .int .u64 x6, .bool y6, .string x7, .bool y7, .string x8, .bool y8], .string rs, .bool true]) ?_ rfl ⟨⟨_, _, rfl, ⟨x0, y0, x1, y1, x2, y2, x3, y3, x4, y4, x5, y5, x6, y6, x7, y7, x8, y8, rfl, hq⟩⟩, hb8⟩
      rw [results_ctt (p := 2) (t := 3) (u := 4) rfl _ _ w.heap.size 42 #[.bool x0, .bool y0, .int .i64 x1, .bool y1, .int .i32 x2, .bool y2, .int .u64 x3, .bool y3, .int .u32 x4, .bool y4, .int .u64 x5, .bool y5, .int .u64 x6, .bool y6, .string x7, .bool y7, .string x8, .bool y8] (0, 0) _ rfl hg8 Tryz.underlying42 rfl infoV]
      simp [Act.put]
    · refine step_load_row rfl 76 (.tmp 8) rfl w3.heap.size (by simp [Act.eval, Act.put]) 76 #[.int .u8 (3 : Nat), .int .u8 (1 : Nat), .int .u8 b3, .int .i64 b4, .slice (some ⟨gb, o2, none⟩) s2 c2, .string b6] (0, 0) _ (HT5.out _ (Below.refl _ _).drew).1 Tryz.underlying76 rfl infoT ?_
      refine hK _ _ ?_
      clear hK K
      refine wpAny_ready (rs := [1]) (by kernel_rfl) (by simp) ?_
      refine AllReady.cons rfl (fun K hK => ?_) AllReady.nil
      go_simp
      go_at_call 32
      refine (HV.out ⟨3, 1, b3, b4, .slice (some ⟨gb, o2, none⟩) s2 c2, b6⟩ rfl rfl rfl rfl rfl _ H5.out.2.1.drew).mono ?_
      rintro e w6 ⟨⟨x0, y0, x1, y1, x2, y2, x3, y3, x4, y4, x5, y5, x6, y6, x7, y7, x8, y8, rfl, hq⟩, hb6⟩
      have hb6' : Below W5.heap.size W5 w6 := ((Below.refl _ _).drew).trans hb6
      try go_simp
      refine hK _ _ ?_
      clear hK K
      refine wpAny_ready (rs := [3]) (by kernel_rfl) (by simp) ?_
      refine AllReady.cons rfl (fun K hK => ?_) AllReady.nil
      go_simp
      go_at_call 33
      refine (raw_string 3 1 b3 b4 gb o2 s2 c2 p2 (l.length + 3) (97 :: 58 :: 32 :: l) b6 (by simp) H3.out.2.2.2.2.2.2 H3.out.2.2.2.2.1 _ (Nat.lt_of_lt_of_le HG5.out.1 hb6'.size) (HG5.out.2.below hb6' HG5.out.1)).mono ?_
      rintro e w7 ⟨⟨rs, rfl⟩, hb7⟩
      have hb7' : Below W5.heap.size W5 w7 := hb6'.trans (hb7.mono hb6'.size)
      try go_simp
      refine hK _ _ ?_
      clear hK K
      refine wpAny_ready (rs := [4]) (by kernel_rfl) (by simp) ?_
      refine AllReady.cons rfl (fun K hK => ?_) AllReady.nil
      refine step_store_own rfl 42 (.tmp 2) (.tmp 50) rfl w.heap.size #[.bool x0, .bool y0, .int .i64 x1, .bool y1, .int .i32 x2, .bool y2, .int .u64 x3, .bool y3, .int .u32 x4, .bool y4, .int .u64 x5, .bool y5, .int .u64 x6, .bool y6, .string x7, .bool y7, .string x8, .bool y8] (by simp [Act.eval, Act.put]) (by simp [Act.eval, Act.put]) 42 zeroVals (HT5.out _ hb7').2 18 infoV rfl rfl rfl ?_
      intro w8 hg8 hc8 hbs8 hs8
      refine hK _ _ ?_
      clear hK K hc8
      refine wpAny_ready (rs := [5]) (by kernel_rfl) (by simp) ?_
      refine AllReady.cons rfl (fun K hK => ?_) AllReady.nil
      go_simp
      refine hK _ _ ?_
      clear hK K
      refine wpAny_ready (rs := [6]) (by kernel_rfl) (by simp) ?_
      refine AllReady.cons rfl (fun K hK => ?_) AllReady.nil
      go_simp
      refine hK _ _ ?_
      clear hK K
      refine wpAny_done (by kernel_rfl) ?_ _
      have hb8 : Below w.heap.size w w8 := hbs8 _ _ (H5.out.2.1.trans (hb7'.mono H5.out.2.1.size)) (Nat.le_refl _)
      go_wp2
      refine bodyPost_ret (v := .tuple #[.agg #[.bool x0, .bool y0, .int .i64 x1, .bool y1, .int .i32 x2, .bool y2, .int .u64 x3, .bool y3, .int .u32 x4, .bool y4, .int .u64 x5, .bool y5, .int .u64 x6, .bool y6, .string x7, .bool y7, .string x8, .bool y8], .string rs, .bool true]) ?_ rfl ⟨⟨_, _, rfl, ⟨x0, y0, x1, y1, x2, y2, x3, y3, x4, y4, x5, y5, x6, y6, x7, y7, x8, y8, rfl, hq⟩⟩, hb8⟩
      rw [results_ctt (p := 2) (t := 3) (u := 4) rfl _ _ w.heap.size 42 #[.bool x0, .bool y0, .int .i64 x1, .bool y1, .int .i32 x2, .bool y2, .int .u64 x3, .bool y3, .int .u32 x4, .bool y4, .int .u64 x5, .bool y5, .int .u64 x6, .bool y6, .string x7, .bool y7, .string x8, .bool y8] (0, 0) _ rfl hg8 Tryz.underlying42 rfl infoV]
      simp [Act.put]
  · refine step_load_row rfl 76 (.tmp 8) rfl w3.heap.size (by simp [Act.eval, Act.put]) 76 #[.int .u8 (3 : Nat), .int .u8 (1 : Nat), .int .u8 b3, .int .i64 b4, .slice (some ⟨gb, o2, none⟩) s2 c2, .string b6] (0, 0) _ (HT5.out _ (Below.refl _ _).drew).1 Tryz.underlying76 rfl infoT ?_
    refine hK _ _ ?_
    clear hK K
    refine wpAny_ready (rs := [0]) (by kernel_rfl) (by simp) ?_
    refine AllReady.cons rfl (fun K hK => ?_) AllReady.nil
    refine step_load_row rfl 76 (.tmp 8) rfl w3.heap.size (by simp [Act.eval, Act.put]) 76 #[.int .u8 (3 : Nat), .int .u8 (1 : Nat), .int .u8 b3, .int .i64 b4, .slice (some ⟨gb, o2, none⟩) s2 c2, .string b6] (0, 0) _ (HT5.out _ (Below.refl _ _).drew).1 Tryz.underlying76 rfl infoT ?_
    refine hK _ _ ?_
    clear hK K
    refine wpAny_ready (rs := [1]) (by kernel_rfl) (by simp) ?_
    refine AllReady.cons rfl (fun K hK => ?_) AllReady.nil
    go_simp
    go_at_call 32
    refine (HV.out ⟨3, 1, b3, b4, .slice (some ⟨gb, o2, none⟩) s2 c2, b6⟩ rfl rfl rfl rfl rfl _ H5.out.2.1.drew).mono ?_
    rintro e w6 ⟨⟨x0, y0, x1, y1, x2, y2, x3, y3, x4, y4, x5, y5, x6, y6, x7, y7, x8, y8, rfl, hq⟩, hb6⟩
    have hb6' : Below W5.heap.size W5 w6 := ((Below.refl _ _).drew).trans hb6
    try go_simp
    refine hK _ _ ?_
    clear hK K
    refine wpAny_ready (rs := [3]) (by kernel_rfl) (by simp) ?_
    refine AllReady.cons rfl (fun K hK => ?_) AllReady.nil
    go_simp
    go_at_call 33
    refine (raw_string 3 1 b3 b4 gb o2 s2 c2 p2 (l.length + 3) (97 :: 58 :: 32 :: l) b6 (by simp) H3.out.2.2.2.2.2.2 H3.out.2.2.2.2.1 _ (Nat.lt_of_lt_of_le HG5.out.1 hb6'.size) (HG5.out.2.below hb6' HG5.out.1)).mono ?_
    rintro e w7 ⟨⟨rs, rfl⟩, hb7⟩
    have hb7' : Below W5.heap.size W5 w7 := hb6'.trans (hb7.mono hb6'.size)
    try go_simp
    refine hK _ _ ?_
    clear hK K
    refine wpAny_ready (rs := [4]) (by kernel_rfl) (by simp) ?_
    refine AllReady.cons rfl (fun K hK => ?_) AllReady.nil
    refine step_store_own rfl 42 (.tmp 2) (.tmp 50) rfl w.heap.size #[.bool x0, .bool y0, .int .i64 x1, .bool y1, .int .i32 x2, .bool y2, .int .u64 x3, .bool y3, .int .u32 x4, .bool y4, .int .u64 x5, .bool y5, .int .u64 x6, .bool y6, .string x7, .bool y7, .string x8, .bool y8] (by simp [Act.eval, Act.put]) (by simp [Act.eval, Act.put]) 42 zeroVals (HT5.out _ hb7').2 18 infoV rfl rfl rfl ?_
    intro w8 hg8 hc8 hbs8 hs8
    refine hK _ _ ?_
    clear hK K hc8
    refine wpAny_ready (rs := [5]) (by kernel_rfl) (by simp) ?_
    refine AllReady.cons rfl (fun K hK => ?_) AllReady.nil
    go_simp
    refine hK _ _ ?_
    clear hK K
    refine wpAny_ready (rs := [6]) (by kernel_rfl) (by simp) ?_
    refine AllReady.cons rfl (fun K hK => ?_) AllReady.nil
    go_simp
    refine hK _ _ ?_
    clear hK K
    refine wpAny_done (by kernel_rfl) ?_ _
    have hb8 : Below w.heap.size w w8 := hbs8 _ _ (H5.out.2.1.trans (hb7'.mono H5.out.2.1.size)) (Nat.le_refl _)
    go_wp2
    refine bodyPost_ret (v := .tuple #[.agg #[.bool x0, .bool y0, .int .i64 x1, .bool y1, .int .i32 x2, .bool y2, .int .u64 x3, .bool y3, .int .u32 x4, .bool y4, .int .u64 x5, .bool y5, .int .u64 x6, .bool y6, .string x7, .bool y7, .string x8, .bool y8], .string rs, .bool true]) ?_ rfl ⟨⟨_, _, rfl, ⟨x0, y0, x1, y1, x2, y2, x3, y3, x4, y4, x5, y5, x6, y6, x7, y7, x8, y8, rfl, hq⟩⟩, hb8⟩
    rw [results_ctt (p := 2) (t := 3) (u := 4) rfl _ _ w.heap.size 42 #[.bool x0, .bool y0, .int .i64 x1, .bool y1, .int .i32 x2, .bool y2, .int .u64 x3, .bool y3, .int .u32 x4, .bool y4, .int .u64 x5, .bool y5, .int .u64 x6, .bool y6, .string x7, .bool y7, .string x8, .bool y8] (0, 0) _ rfl hg8 Tryz.underlying42 rfl infoV]
    simp [Act.put]

end Go.Proofs.YtpneioocmpagmaaGreatDoor.tx

