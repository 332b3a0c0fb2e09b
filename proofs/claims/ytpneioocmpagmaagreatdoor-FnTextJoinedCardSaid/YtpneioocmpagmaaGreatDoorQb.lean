/- Strings' bytes appended; strconv.AppendUint at base 16, below 256; math/bits.Len32 below 256. -/
import Derived.Test.YtpneioocmpagmaaGreatDoorQa
import Derived.Test.YtpneioocmpagmaaGreatDoorUc
import Derived.Test.YtpneioocmpagmaaGreatDoorTu
import Derived.Test.YtpneioocmpagmaaGreatDoorShelf
import Derived.Lib.ConvBytes
namespace Go.Proofs.YtpneioocmpagmaaGreatDoor.tx
open Go.RowKit
set_option linter.unusedVariables false
set_option linter.unusedSimpArgs false

theorem strCells_bb (t : ByteArray) : Lib.strCells t = t.data.toList.map bb := rfl
theorem tsize_list (t : ByteArray) : t.size = t.data.toList.length := by rw [Array.length_toList]; rfl

theorem wpList_push_str {ops : Array Oper} {rest : List Oper} {o : Oper} {a : Act} {w : World} {Q : Exit → Act → World → Prop} (hgd : o.guard = none) (s x : Operand)
    (ho : o.op = .call { callee := .builtin .append, args := #[s, x], argTypes := #[25, 9] })
    (B : Nat) (v : Value) (g : List UInt8) (hs : a.eval s = v) (hown : OwnB w B v g) (t : ByteArray) (hx : a.eval x = .string t)
    (hlen : g.length + t.size ≤ 140737488355328) (hB : B ≤ w.heap.size) (W : World) (hnx : Below B W w)
    (h : ∀ v' w', OwnB w' B v' (g ++ t.data.toList) → Below B W w' → wpList Tryz.prog ops Q rest (a.put o.dst v') w') : wpList Tryz.prog ops Q (o :: rest) a w := by
  obtain ⟨i0, hi, hz0, hz1, hz2⟩ := info_parts infoB
  refine Lib.wpList_append_own_string w hgd s x 25 9 ho B 5 i0 Tryz.underlying25 Tryz.underlying9 hi hz0 hz1 hz2 v g.length (g.map bb) hs hown t hx (by unfold maxLen; omega) (by omega) hB (fun v' w' h1 h2 _ => ?_)
  refine h v' w' ?_ (hnx.grown h2 hB (fun j hj => (World.ownsRow.lt hown j hj).1))
  unfold OwnB
  rw [tsize_list, strCells_bb] at h1
  simpa using h1

theorem step_push_str {ops : Array Oper} {o : Oper} {a : Act} {w : World} {K : Act → World → Prop} {Q : Exit → Act → World → Prop} {E : Prop} (hgd : o.guard = none) (s x : Operand)
    (ho : o.op = .call { callee := .builtin .append, args := #[s, x], argTypes := #[25, 9] })
    (B : Nat) (v : Value) (g : List UInt8) (hs : a.eval s = v) (hown : OwnB w B v g) (t : ByteArray) (hx : a.eval x = .string t)
    (hlen : g.length + t.size ≤ 140737488355328) (hB : B ≤ w.heap.size) (W : World) (hnx : Below B W w)
    (h : ∀ v' w', OwnB w' B v' (g ++ t.data.toList) → Below B W w' → K (a.put o.dst v') w') :
    if Region.wanted o (yielded ops a.tmps) = true then Oper.wp Tryz.prog o a w K Q else E := by
  obtain ⟨i0, hi, hz0, hz1, hz2⟩ := info_parts infoB
  have hw : Region.wanted o (yielded ops a.tmps) = true := by simp [Region.wanted, hgd]
  rw [if_pos hw]
  obtain ⟨v', w', hr, h1, h2, _⟩ := Lib.run_append_own_string (P := Tryz.prog) w B 25 9 o.type 5 i0 Tryz.underlying25 Tryz.underlying9 hi hz0 hz1 hz2 v g.length (g.map bb) hown t (by unfold maxLen; omega) (by omega) hB
  unfold Oper.wp execOp
  simp only [ho, resolve, invoke, builtin, Sem.run_bind, Sem.run_pure, Result.andThen_ok, List.map_toArray, List.map_cons, List.map_nil, hs, hx, hr]
  refine h v' w' ?_ (hnx.grown h2 hB (fun j hj => (World.ownsRow.lt hown j hj).1))
  unfold OwnB
  rw [tsize_list, strCells_bb] at h1
  simpa using h1

theorem own_below {B : Nat} {e : TypeId} {k : Nat} {v : Value} {n : Nat} {xs : List Value} {w w' : World} (h : w.ownsRow B e k v n xs) (hb : Below w.heap.size w w') : w'.ownsRow B e k v n xs := by
  obtain ⟨h0, h1 | ⟨g, cap, cur, h1, h2, h3, h4⟩⟩ := h
  · exact ⟨h0, .inl h1⟩
  · exact ⟨h0, .inr ⟨g, cap, cur, h1, h2, (hb.block g (Array.getElem?_eq_some_iff.1 h3).1).trans h3, h4⟩⟩

theorem one_bb (w : World) (b : UInt8) (n : Int) (h : n = (b.toNat : Int)) (T : TypeId) : ∀ j u, ([b].map bb)[j]? = some u → (w.alloc (.cells #[.int .u8 n] T)).cell? ((⟨w.heap.size, 0, none⟩ : Addr).add j) = some u := by
  subst h
  intro j u hj
  match j, hj with
  | 0, hj => simp at hj; subst hj; simp [Addr.add, bb]

theorem nb_eq (n : Int) (h0 : 0 ≤ n) (h1 : n < 256) : n = ((UInt8.ofNat n.toNat).toNat : Int) := by rw [UInt8.toNat_ofNat']; omega

theorem one_nb (w : World) (n : Int) (h0 : 0 ≤ n) (h1 : n < 256) (T : TypeId) : ∀ j u, ([UInt8.ofNat n.toNat].map bb)[j]? = some u → (w.alloc (.cells #[.int .u8 n] T)).cell? ((⟨w.heap.size, 0, none⟩ : Addr).add j) = some u :=
  one_bb w _ n (nb_eq n h0 h1) T

theorem extract_list (s : ByteArray) (a b : Nat) : (s.extract a b).data.toList = (s.data.toList.drop a).take (b - a) := by
  rw [ByteArray.data_extract, Array.toList_extract, List.extract_eq_take_drop]
theorem extract_head (s : ByteArray) (b : Nat) : (s.extract 0 b).data.toList = s.data.toList.take b := by
  rw [extract_list]; simp only [List.drop_zero, Nat.sub_zero]
theorem extract_tail (s : ByteArray) (a : Nat) : (s.extract a s.size).data.toList = s.data.toList.drop a := by
  rw [extract_list, List.take_of_length_le]
  rw [List.length_drop, Array.length_toList]; exact Nat.le_refl _

theorem bdn {B : Nat} {a w : World} (h : Below B a w) (n : Nat) : Below B a (w.drewN n) := ⟨h.os, h.tape, h.output, h.size, h.block⟩

/-- A string's bytes appended to a slice that is full. -/
theorem push_full_str {w : World} {b off : Nat} {g : List UInt8} (hc : ∀ j u, (g.map bb)[j]? = some u → w.cell? ((⟨b, off, none⟩ : Addr).add j) = some u) (t : ByteArray) (h1 : 1 ≤ t.size)
    (hlen : g.length + t.size ≤ 140737488355328) (B : Nat) (hB : B ≤ w.heap.size) (ty : TypeId) :
    ∃ v' w', (Builtin.append_ #[25, 9] ty #[.slice (some ⟨b, off, none⟩) g.length g.length, .string t]).run Tryz.prog w = .ok v' w' ∧ OwnB w' B v' (g ++ t.data.toList) ∧ w.grownBy w' none := by
  obtain ⟨i0, hi, hz0, hz1, hz2⟩ := info_parts infoB
  have hr := Lib.run_append_grow_string (P := Tryz.prog) w 25 9 ty 5 i0 (.int .u8 0) Tryz.underlying25 Tryz.underlying9 hi hz0 ⟨b, off, none⟩ g.length g.length (g.map bb) (by rw [hz1]; simp) hc t (by omega) (by omega)
    (by rw [hz2]; exact growslice_fits (by omega) (by omega))
  have hl : (Lib.strCells t).length = t.size := Lib.strCells_length t
  have hz : t.size = t.data.toList.length := tsize_list t
  refine ⟨.slice (some ⟨w.heap.size, 0, none⟩) (g.length + t.size) (grownCap w (g.length + t.size) g.length 5), _, hr, ?_, ⟨rfl, rfl, rfl, by simp, fun k hk _ => Go.heap_alloc_old w.drew _ hk⟩⟩
  have e : (g ++ t.data.toList).length = g.length + t.size := by rw [List.length_append, hz]
  have hge := grownCap_ge w (g.length + t.size) g.length 5
  unfold OwnB
  rw [e]
  refine ⟨by rw [List.length_map, e, Nat.mul_one], .inr ⟨w.heap.size, _, _, rfl, hB, heap_alloc_new w.drew _, hge, grownCap_le_maxLen w (g.length + t.size) g.length 5 (by unfold maxLen; omega), ?_, ?_⟩⟩
  · have hz1' : (Value.int IntKind.u8 0).cells.size = 1 := rfl
    simp only [Array.size_append, List.size_toArray, size_zeroCells, hz1', List.length_map, hl]
    omega
  · simp only [Array.toList_append, List.append_assoc]
    rw [← List.append_assoc]
    have e3 : g.map bb ++ Lib.strCells t = (g ++ t.data.toList).map bb := by rw [strCells_bb, List.map_append]
    rw [e3]
    have e2 : (g.length + t.size) * 1 = ((g ++ t.data.toList).map bb).length := by rw [List.length_map, e, Nat.mul_one]
    rw [e2]
    exact List.take_left

theorem wpList_pushO_str {ops : Array Oper} {rest : List Oper} {o : Oper} {a : Act} {w : World} {Q : Exit → Act → World → Prop} (hgd : o.guard = none) (s x : Operand)
    (ho : o.op = .call { callee := .builtin .append, args := #[s, x], argTypes := #[25, 9] })
    (B : Nat) (v : Value) (g : List UInt8) (hs : a.eval s = v) (hout : Out w B v g) (t : ByteArray) (hx : a.eval x = .string t) (h1 : 1 ≤ t.size)
    (hlen : g.length + t.size ≤ 140737488355328) (hB : B ≤ w.heap.size) (W : World) (hnx : Below B W w)
    (h : ∀ v' w', OwnB w' B v' (g ++ t.data.toList) → Below B W w' → wpList Tryz.prog ops Q rest (a.put o.dst v') w') : wpList Tryz.prog ops Q (o :: rest) a w := by
  rcases hout with ⟨b, off, rfl, hc⟩ | hown
  · refine wpList_plain hgd fun K hK => ?_
    obtain ⟨v', w', hr, h2, h3⟩ := push_full_str hc t h1 hlen B hB o.type
    unfold Oper.wp execOp
    simp only [ho, resolve, invoke, builtin, Sem.run_bind, Sem.run_pure, Result.andThen_ok, List.map_toArray, List.map_cons, List.map_nil, hs, hx, hr]
    exact hK _ _ (h v' w' h2 (hnx.grown h3 hB (fun j hj => by cases hj)))
  · exact wpList_push_str hgd s x ho B v g hs hown t hx hlen hB W hnx h

/-- A digit of base 16. -/
def hxd (n : Nat) : UInt8 := UInt8.ofNat (if n < 10 then 48 + n else 87 + n)

/-- The digits of base 16. -/
def hexs (c : Nat) : List UInt8 := if c < 16 then [hxd c] else [hxd (c / 16), hxd (c % 16)]

set_option maxHeartbeats 4000000 in
set_option maxRecDepth 100000 in
theorem trail16 (w : World) (ht : w.cell? ⟨13, 15, none⟩ = some (.int .u8 4)) :
    Calls Tryz.prog 160 #[.int .u64 16] w fun e w' => e = .returned (.int .i64 4) ∧ w = w' := by
  go_enter Tryz.func160, Tryz.ntmps160
  have hix : (IntKind.u64.wrap (bits BinOp.and IntKind.u64 16 (IntKind.u64.wrap (-16)) * 285870213051353865) / 288230376151711744).toNat = 15 := by decide
  go_wp2
  go_returns
  exact ⟨rfl, rfl⟩

theorem hxd_nat (c : Nat) (h : c < 16) : (hxd c).toNat = if c < 10 then 48 + c else 87 + c := by
  unfold hxd
  rw [UInt8.toNat_ofNat']
  split <;> omega

theorem dig16 (c : Nat) (h : c < 16) (hp : c < (⟨#[48, 49, 50, 51, 52, 53, 54, 55, 56, 57, 97, 98, 99, 100, 101, 102, 103, 104, 105, 106, 107, 108, 109, 110, 111, 112, 113, 114, 115, 116, 117, 118, 119, 120, 121, 122]⟩ : ByteArray).size) :
    (((⟨#[48, 49, 50, 51, 52, 53, 54, 55, 56, 57, 97, 98, 99, 100, 101, 102, 103, 104, 105, 106, 107, 108, 109, 110, 111, 112, 113, 114, 115, 116, 117, 118, 119, 120, 121, 122]⟩ : ByteArray)[c]'hp).toNat : Int) = ((hxd c).toNat : Int) := by
  rcases (by omega : c = 0 ∨ c = 1 ∨ c = 2 ∨ c = 3 ∨ c = 4 ∨ c = 5 ∨ c = 6 ∨ c = 7 ∨ c = 8 ∨ c = 9 ∨ c = 10 ∨ c = 11 ∨ c = 12 ∨ c = 13 ∨ c = 14 ∨ c = 15) with rfl | rfl | rfl | rfl | rfl | rfl | rfl | rfl | rfl | rfl | rfl | rfl | rfl | rfl | rfl | rfl
  all_goals rfl

theorem one_at (w : World) (arr : Array Value) (k : Nat) (b : UInt8) (n : Int) (h : n = (b.toNat : Int)) (hk : k < arr.size) (T : TypeId) :
    ∀ j u, ([b].map bb)[j]? = some u → (w.alloc (.cells (arr.setIfInBounds k (.int .u8 n)) T)).cell? ((⟨w.heap.size, k, none⟩ : Addr).add j) = some u := by
  subst h
  intro j u hj
  match j, hj with
  | 0, hj => simp at hj; subst hj; simp [Addr.add, bb, hk]

theorem two_at (w : World) (arr : Array Value) (k : Nat) (b b' : UInt8) (n n' : Int) (h : n = (b.toNat : Int)) (h' : n' = (b'.toNat : Int)) (hk : k + 1 < arr.size) (T : TypeId) :
    ∀ j u, ([b, b'].map bb)[j]? = some u → (w.alloc (.cells ((arr.setIfInBounds (k + 1) (.int .u8 n')).setIfInBounds k (.int .u8 n)) T)).cell? ((⟨w.heap.size, k, none⟩ : Addr).add j) = some u := by
  subst h; subst h'
  intro j u hj
  match j, hj with
  | 0, hj => simp at hj; subst hj; simp [Addr.add, bb, show k < arr.size from by omega]
  | 1, hj => simp at hj; subst hj; simp [Addr.add, bb, hk]

theorem and15 : ∀ c : Fin 256, bits BinOp.and IntKind.u64 ((c.1 : Nat) : Int) 15 = ((c.1 % 16 : Nat) : Int) := by decide +kernel

set_option maxHeartbeats 4000000 in
set_option maxRecDepth 100000 in
theorem format_hex (c : Nat) (hc : c < 256) (v : Value) (g : List UInt8) (B : Nat) (w : World) (hB : B ≤ w.heap.size) (hown : OwnB w B v g) (hlen : g.length + 2 ≤ 140737488355328)
    (ht : ∀ w', Below w.heap.size w w' → w'.cell? ⟨13, 15, none⟩ = some (.int .u8 4)) :
    Calls Tryz.prog 129 #[v, .int .u64 c, .int .i64 16, .bool false, .bool true] w fun e w' => ∃ v', e = .returned (.tuple #[v', .string ⟨#[]⟩]) ∧ OwnB w' B v' (g ++ hexs c) ∧ Below B w w' := by
  have HT := Lib.hid ht
  have HO := Lib.hid hown
  clear ht hown
  by_cases h16 : c < 16
  · have t0 : ¬ (c : Int) ≥ 16 := by omega
    go_enter Tryz.func129, Tryz.ntmps129
    go_wp2_with (first | (go_at_call 160; refine (trail16 _ (HT.out _ (by go_grown))).mono ?_; rintro e w' ⟨rfl, rfl⟩) | (go_at_call 159; go_in))
    refine wp_loop_rounds 1 ?_
    rw [rounds_succ]
    go_wp2_with (at_builtin; go_loud (refine wpList_push rfl (.tmp 95) (.tmp 97) rfl B v g rfl (.inr (own_below HO.out ((Below.refl _ _).alloc (Nat.le_refl _) _))) ⟨w.heap.size, 64, none⟩ 1 1 [hxd c] rfl rfl (one_at w _ 64 _ _ (dig16 c h16 _) (Nat.lt_of_lt_of_eq (by decide : 64 < 65) (by kernel_rfl)) _) (by omega) (by omega) (by simp; omega) w (((Below.refl _ _).alloc (Nat.le_refl _) _).mono hB) ?_); (intro v' w' h1 h2); have P := Lib.hid (And.intro h1 h2); clear h1 h2)
    go_ret2
    exact ⟨v', rfl, by unfold hexs; rw [if_pos h16]; exact P.out.1, P.out.2⟩
  · have t0 : (c : Int) ≥ 16 := by omega
    have t1 : ¬ (c : Int) / 16 ≥ 16 := by omega
    have e0 : bits BinOp.and IntKind.u64 (c : Int) 15 = ((c % 16 : Nat) : Int) := by
      have h := and15 (⟨c, hc⟩ : Fin 256)
      exact h
    go_enter Tryz.func129, Tryz.ntmps129
    go_wp2_with (first | (go_at_call 160; refine (trail16 _ (HT.out _ (by go_grown))).mono ?_; rintro e w' ⟨rfl, rfl⟩) | (go_at_call 159; go_in))
    refine wp_loop_rounds 2 ?_
    rw [rounds_succ]
    go_wp2_with fail
    rw [rounds_succ]
    go_wp2_with (at_builtin; go_loud (refine wpList_push rfl (.tmp 95) (.tmp 97) rfl B v g rfl (.inr (own_below HO.out ((Below.refl _ _).alloc (Nat.le_refl _) _))) ⟨w.heap.size, 63, none⟩ 2 2 [hxd (c / 16), hxd (c % 16)] rfl rfl (two_at w _ 63 _ _ _ _ (dig16 (c / 16) (by omega) _) (dig16 (c % 16) (by omega) _) (Nat.lt_of_lt_of_eq (by decide : 64 < 65) (by kernel_rfl)) _) (by omega) (by omega) (by simp; omega) w (((Below.refl _ _).alloc (Nat.le_refl _) _).mono hB) ?_); (intro v' w' h1 h2); have P := Lib.hid (And.intro h1 h2); clear h1 h2)
    go_ret2
    exact ⟨v', rfl, by unfold hexs; rw [if_neg h16]; exact P.out.1, P.out.2⟩

set_option maxHeartbeats 4000000 in
set_option maxRecDepth 100000 in
theorem append_hex (c : Nat) (hc : c < 256) (v : Value) (g : List UInt8) (B : Nat) (w : World) (hB : B ≤ w.heap.size) (hown : OwnB w B v g) (hlen : g.length + 2 ≤ 140737488355328)
    (ht : ∀ w', Below w.heap.size w w' → w'.cell? ⟨13, 15, none⟩ = some (.int .u8 4)) :
    Calls Tryz.prog 68 #[v, .int .u64 c, .int .i64 16] w fun e w' => ∃ v', e = .returned v' ∧ OwnB w' B v' (g ++ hexs c) ∧ Below B w w' := by
  have HF := Lib.hid (format_hex c hc v g B w hB hown hlen ht)
  clear ht hown
  go_enter Tryz.func68, Tryz.ntmps68
  go_wp2_with (first | (go_at_call 129; refine HF.out.mono ?_; rintro e w' ⟨v', rfl, h1, h2⟩; have P := Lib.hid (And.intro h1 h2); clear h1 h2) | (go_at_call 99; go_in))
  go_ret
  exact ⟨v', rfl, P.out.1, P.out.2⟩

theorem bitLen_small : ∀ c : Fin 256, 1 + Int.tdiv ((Lib.bitLen c.1 : Int) - 1) 4 = if c.1 < 16 then 1 else 2 := by decide +kernel

end Go.Proofs.YtpneioocmpagmaaGreatDoor.tx
