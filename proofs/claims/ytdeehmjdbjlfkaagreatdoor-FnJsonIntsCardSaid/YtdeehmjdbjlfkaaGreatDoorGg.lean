/- json.normalizeToIntString at a whole number without a power. -/
import Derived.Test.YtdeehmjdbjlfkaaGreatDoorGe
import Derived.Test.YtdeehmjdbjlfkaaGreatDoorJy
namespace Go.Proofs.YtdeehmjdbjlfkaaGreatDoor.jn
open Go.RowKit Go.Proofs.YtdeehmjdbjlfkaaGreatDoor.js Go.Proofs.YtdeehmjdbjlfkaaGreatDoor.pu Go.Proofs.YtdeehmjdbjlfkaaGreatDoor.num
set_option linter.unusedVariables false
set_option linter.unusedSimpArgs false

theorem row_sub {w : World} {b : Nat} {T : List UInt8} (hr : RowM w b 0 T) (i n : Nat) : RowM w b i ((T.drop i).take n) := by
  intro k hk
  rw [List.length_take, List.length_drop] at hk
  have := hr (i + k) (by omega)
  rw [Nat.zero_add] at this
  rw [this]
  congr 3
  rw [List.getD_eq_getElem?_getD, List.getD_eq_getElem?_getD, List.getElem?_take, if_pos (by omega), List.getElem?_drop]

theorem sub_len {T : List UInt8} {i n : Nat} (h : i + n ≤ T.length) : ((T.drop i).take n).length = n := by
  rw [List.length_take, List.length_drop]; omega

theorem infoB : (Tryz.prog.info? 5).map (·.size) = some 1 := by kernel_rfl

theorem append_none (ad : Addr) (n c : Nat) (a' : Option Addr) (c' : Nat) (ty : TypeId) (hn : n ≤ c) (w : World) :
    (Builtin.append_ #[29, 29] ty #[.slice (some ad) n c, .slice a' 0 c']).run Tryz.prog w = .ok (.slice (some ad) n c) w := by
  obtain ⟨i, hi, hs⟩ := Option.map_eq_some_iff.1 infoB
  have hl : ∀ x : Addr, (loadCells x 0).run Tryz.prog w = .ok #[] w := fun x => by simp [loadCells, loadCellsFrom]
  cases a' with
  | none => simp [Builtin.append_, run_underlying Tryz.underlying29, sizeOf, typeInfo, hi, Builtin.lenOf, Builtin.firstCells, hn, storeCells]
  | some x => simp [Builtin.append_, run_underlying Tryz.underlying29, sizeOf, typeInfo, hi, Builtin.lenOf, Builtin.firstCells, hn, storeCells, hl]

theorem wpList_append_none {ops : Array Oper} {rest : List Oper} {o : Oper} {a : Act} {w : World} {Q : Exit → Act → World → Prop} (hgd : o.guard = none) (s x : Operand)
    (ho : o.op = .call { callee := .builtin .append, args := #[s, x], argTypes := #[29, 29] }) (ad : Addr) (n c : Nat) (a' : Option Addr) (c' : Nat) (hs : a.eval s = .slice (some ad) n c) (hx : a.eval x = .slice a' 0 c') (hn : n ≤ c)
    (h : wpList Tryz.prog ops Q rest (a.put o.dst (.slice (some ad) n c)) w) : wpList Tryz.prog ops Q (o :: rest) a w :=
  wpList_plain hgd fun _ hK => by
    unfold Oper.wp execOp
    simp only [ho, resolve, invoke, builtin, Sem.run_bind, Sem.run_pure, Result.andThen_ok, List.map_toArray, List.map_cons, List.map_nil, hs, hx, append_none ad n c a' c' o.type hn w]
    exact hK _ _ h

def NormS (T : List UInt8) (neg : Bool) (i ni : Nat) : List UInt8 := if ni = 0 then [48] else (if neg then [45] else []) ++ (T.drop i).take ni

set_option maxHeartbeats 8000000 in
set_option maxRecDepth 100000 in
theorem norm_int (b L i ni fo xo nx : Nat) (neg : Bool) (I F X : Value) (T : List UInt8) (hT : T.length = L) (hL47 : L ≤ 140737488355000) (hi : i + ni ≤ L) (hni : ni ≤ 20) (hI : SlOf b i ni I) (hF : SlOf b fo 0 F) (hX : SlOf b xo nx X) (hxo : nx = 0 ∨ xo + nx ≤ L)
    (hx : nx = 0 ∨ pi 10 (2 ^ 32 - 1) (2 ^ (32 - 1)) ((T.drop xo).take nx) = some (0, false)) (w : World) (hr : RowM w b 0 T) (hb : b < w.heap.size) (he : Errs w) :
    Calls Tryz.prog 81 #[.agg #[.bool neg, I, F, X]] w fun e w' => e = .returned (.tuple #[.string ⟨(NormS T neg i ni).toArray⟩, .bool true]) ∧ Below w.heap.size w w' := by
  obtain ⟨ai, ci, rfl, hnci, _, hai⟩ := hI
  obtain ⟨af, cf, rfl, hncf, _, _⟩ := hF
  obtain ⟨ax, cx, rfl, hncx, _, hax⟩ := hX
  have HRW := Lib.hid hr
  have HX := Lib.hid hx
  have HAX := Lib.hid hax
  have HE := Lib.hid he
  by_cases h0 : ni = 0
  · subst h0
    have hs : NormS T neg i 0 = [48] := by unfold NormS; rw [if_pos rfl]
    rw [hs]
    clear hr hx hax he hai hs
    go_enter Tryz.func81, Tryz.ntmps81
    go_wp2_with fail
    go_ret2
    exact ⟨rfl, by go_grown⟩
  · have n0 : ((ni : Int) == 0) = false := by rw [beq_eq_false_iff_ne]; omega
    obtain rfl := hai (by omega)
    have HNS : Hid (NormS T neg i ni = (if neg then [45] else []) ++ (T.drop i).take ni) := Lib.hid (by unfold NormS; rw [if_neg h0])
    have HCV : Hid (∀ W, Below w.heap.size w W → (convert 29 9 (.slice (some ⟨b, i, none⟩) ni ni)).run Tryz.prog W = .ok (.string ⟨((T.drop i).take ni).toArray⟩) W) := Lib.hid (fun W hW => by
      have := conv_row (c := ni) (row_sub (hr.below hW hb) i ni)
      rw [sub_len (by omega)] at this
      exact this)
    have n1 : (ni : Int) ≤ 20 := by omega
    have n2 : (0 : Int) ≤ (ni : Int) := by omega
    have n3 : (ni : Int) ≤ (ci : Int) := by omega
    obtain ⟨st, hst⟩ : ∃ st : List UInt8, st = (T.drop i).take ni := ⟨_, rfl⟩
    rw [← hst] at HCV HNS
    have hs20 : st.length ≤ 20 := by rw [hst, sub_len (by omega)]; exact hni
    have hs21 : ¬ 9223372036854775807 < 1 + st.length := by omega
    clear hr hx hax he hst h0
    by_cases hx0 : nx = 0
    · subst hx0
      have hcv := fun o => HCV.out (w.alloc o) (by go_grown)
      go_enter Tryz.func81, Tryz.ntmps81
      go_wp2_with (at_builtin; go_loud (refine wpList_append_none rfl (.tmp 57) (.tmp 59) rfl ⟨b, i, none⟩ ni ni af cf rfl rfl (Nat.le_refl _) ?_))
      refine wp_loop_rounds 1 ?_
      rw [rounds_succ]
      cases neg
      all_goals
        go_wp2_with fail
        go_ret2
        exact ⟨by rw [HNS.out]; first | rfl | simp, by go_grown⟩
    · have hx1 : (0 : Int) < (nx : Int) := by omega
      obtain rfl := HAX.out (by omega)
      obtain ⟨xt, hxt⟩ : ∃ xt : List UInt8, xt = (T.drop xo).take nx := ⟨_, rfl⟩
      have hxl : xt.length = nx := by rw [hxt]; exact sub_len (by omega)
      have HCX : Hid (∀ W, Below w.heap.size w W → (convert 29 9 (.slice (some ⟨b, xo, none⟩) nx cx)).run Tryz.prog W = .ok (.string ⟨xt.toArray⟩) W) := Lib.hid (fun W hW => by
        have := conv_row (c := cx) (row_sub (HRW.out.below hW hb) xo nx)
        rw [sub_len (by omega), ← hxt] at this
        exact this)
      have hcv := fun o => HCX.out (w.alloc o) (by go_grown)
      have HPI : Hid (∀ W, Below w.heap.size w W → Calls Tryz.prog 59 #[.string ⟨xt.toArray⟩, .int .i64 10, .int .i64 32] W fun e w' => e = .returned (.tuple #[.int .i64 0, .nilIface]) ∧ Below W.heap.size W w') := Lib.hid (fun W hW => by
        have hsz : (⟨xt.toArray⟩ : ByteArray).size ≤ 140737488355328 := by
          show xt.toArray.size ≤ _
          rw [List.size_toArray, hxl]; omega
        have h := parseInt ⟨xt.toArray⟩ 10 32 (.inr ⟨by omega, by omega⟩) (by omega) (by omega) hsz W (HE.out.below hW)
        refine h.mono fun e w' ⟨h1, h2⟩ => ⟨?_, h2⟩
        have hp : pi 10 (2 ^ 32 - 1) (2 ^ (32 - 1)) xt = some (0, false) := by
          rcases HX.out with h | h
          · exact absurd h hx0
          · rw [hxt]; exact h
        rw [show (⟨xt.toArray⟩ : ByteArray).data.toList = xt from rfl, hp] at h1
        rcases h1 with h | ⟨h, _⟩
        · exact h
        · cases h)
      clear hxt hx0 hxl
      go_enter Tryz.func81, Tryz.ntmps81
      go_wp2_with fail
      refine (HPI.out _ (by go_grown)).mono ?_
      rintro e w1 ⟨rfl, hb1⟩
      have hbx : w1.heap[w.heap.size]? = some (.cells #[.bool neg, .slice (some ⟨b, i, none⟩) ni ci, .slice af 0 cf, .slice (some ⟨b, xo, none⟩) nx cx] 133 (0, 0)) := (hb1.block w.heap.size (by simp)).trans (heap_alloc_new w _)
      have k0 : w1.cell? ⟨w.heap.size, 0, none⟩ = some (.bool neg) := blk_cell hbx rfl
      have k1 : w1.cell? ⟨w.heap.size, 1, none⟩ = some (.slice (some ⟨b, i, none⟩) ni ci) := blk_cell hbx rfl
      have k2 : w1.cell? ⟨w.heap.size, 2, none⟩ = some (.slice af 0 cf) := blk_cell hbx rfl
      have HB1 : Hid (Below w.heap.size w w1) := Lib.hid (((Below.refl _ _).alloc (Nat.le_refl _) _).trans (hb1.mono (by simp)))
      have hcv2 := HCV.out w1 HB1.out
      clear hb1 hbx hcv
      go_wp2_with (at_builtin; go_loud (refine wpList_append_none rfl (.tmp 57) (.tmp 59) rfl ⟨b, i, none⟩ ni ni af cf rfl rfl (Nat.le_refl _) ?_))
      refine wp_loop_rounds 1 ?_
      rw [rounds_succ]
      cases neg
      all_goals
        go_wp2_with fail
        go_ret2
        exact ⟨by rw [HNS.out]; first | rfl | simp, HB1.out⟩

end Go.Proofs.YtdeehmjdbjlfkaaGreatDoor.jn
