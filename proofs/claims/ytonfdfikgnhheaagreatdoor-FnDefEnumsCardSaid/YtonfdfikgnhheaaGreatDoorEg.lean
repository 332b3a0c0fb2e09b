/- The walk of laws.FnDefEnums. -/
import Derived.Test.YtonfdfikgnhheaaGreatDoorEf
import Derived.Deep.DeepCutAuto
namespace Go.Proofs.YtonfdfikgnhheaaGreatDoor.enums
open Go.RowKit Go.Proofs.YtonfdfikgnhheaaGreatDoor.PFnDefEnums Go.Proofs.YtonfdfikgnhheaaGreatDoorW.PrintWords Go.Proofs.YtonfdfikgnhheaaGreatDoorW.PrintLast Go.Proofs.YtonfdfikgnhheaaGreatDoorW.PrintMore
set_option linter.unusedVariables false
set_option linter.unusedSimpArgs false

def LawSays (w : World) (e : Ending) (w' : World) : Prop := e = .returned (.bool true) ∧ Below w.heap.size w w'

set_option maxHeartbeats 4000000 in
set_option maxRecDepth 100000 in
theorem law_unfit (l : List ByteArray) (zs : List Int) (A0 A1 : Option Addr) (c0 c1 : Nat) (at_ : Int) (tag : Bool) (w : World)
    (HF : Hid (Calls Tryz.prog 21 #[.slice A0 l.length c0] w fun e w' => e = .returned (.bool false) ∧ Drawn0 w w')) :
    Calls Tryz.prog 9 #[.slice A0 l.length c0, .slice A1 zs.length c1, .int .i64 at_, .bool tag] w fun e w' => LawSays w e w' := by
  go_enter Tryz.func9, Tryz.ntmps9
  go_wp2_with fail
  refine HF.out.mono ?_
  rintro e w' ⟨rfl, ⟨⟨nq, rfl⟩⟩⟩
  go_wp2_with fail
  go_ret
  exact ⟨rfl, bdn (Below.refl _ _) _⟩

set_option maxHeartbeats 4000000 in
set_option maxRecDepth 100000 in
theorem law_bad (l : List ByteArray) (zs : List Int) (A0 A1 : Option Addr) (c0 c1 : Nat) (at_ : Int) (tag : Bool) (w : World)
    (HF : Hid (Calls Tryz.prog 21 #[.slice A0 l.length c0] w fun e w' => e = .returned (.bool true) ∧ Drawn0 w w'))
    (hbad : ¬ ((zs.length : Int) ≤ 2147483647 ∧ (1 : Int) ≤ l.length ∧ (l.length : Int) ≤ 50 ∧ zs.length = l.length ∧ 0 ≤ at_ ∧ at_ < l.length)) :
    Calls Tryz.prog 9 #[.slice A0 l.length c0, .slice A1 zs.length c1, .int .i64 at_, .bool tag] w fun e w' => LawSays w e w' := by
  have hc : (2147483647 : Int) < zs.length ∨ ((zs.length : Int) ≤ 2147483647 ∧ (l.length : Int) < 1) ∨ ((zs.length : Int) ≤ 2147483647 ∧ (1 : Int) ≤ l.length ∧ (50 : Int) < l.length) ∨
      ((zs.length : Int) ≤ 2147483647 ∧ (1 : Int) ≤ l.length ∧ (l.length : Int) ≤ 50 ∧ ((zs.length : Int) != (l.length : Int)) = true) ∨
      ((zs.length : Int) ≤ 2147483647 ∧ (1 : Int) ≤ l.length ∧ (l.length : Int) ≤ 50 ∧ ((zs.length : Int) != (l.length : Int)) = false ∧ at_ < 0) ∨
      ((zs.length : Int) ≤ 2147483647 ∧ (1 : Int) ≤ l.length ∧ (l.length : Int) ≤ 50 ∧ ((zs.length : Int) != (l.length : Int)) = false ∧ 0 ≤ at_ ∧ (l.length : Int) ≤ at_) := by
    simp only [bne_iff_ne, bne_eq_false_iff_eq]
    omega
  clear hbad
  rcases hc with h | ⟨h, h1⟩ | ⟨h, h1, h2⟩ | ⟨h, h1, h2, h3⟩ | ⟨h, h1, h2, h3, h4⟩ | ⟨h, h1, h2, h3, h4, h5⟩
  all_goals
    go_enter Tryz.func9, Tryz.ntmps9
    go_wp2_with fail
    refine HF.out.mono ?_
    rintro e w' ⟨rfl, ⟨⟨nq, rfl⟩⟩⟩
    go_wp2_with fail
    go_ret
    exact ⟨rfl, bdn (Below.refl _ _) _⟩

theorem infoS : (Tryz.prog.info? 9).map (fun i => (i.zero, i.size, i.bytes)) = some (some (.string ⟨#[]⟩), 1, 16) := by kernel_rfl

/-- No two of the first i names, nor of their numbers, are the same. -/
def Unlike (ns : List ByteArray) (zs : List Int) (i : Nat) : Prop := ∀ j k, j < k → k < i → ns.getD j ByteArray.empty ≠ ns.getD k ByteArray.empty ∧ zs.getD j 0 ≠ zs.getD k 0

structure Outer (w : World) (zs : List Int) (i : Nat) (v : Value) (ns : List ByteArray) (wr : World) : Prop where
  len : ns.length = i
  own : OwnS wr w.heap.size v ns
  un : Unlike ns zs i
  bel : Below w.heap.size w wr

theorem OwnS.drawn {w w' : World} {B : Nat} {v : Value} {l : List ByteArray} (h : OwnS w B v l) (hd : Drawn0 w w') : OwnS w' B v l := by
  obtain ⟨⟨n, rfl⟩⟩ := hd
  exact h

theorem below_drawn {w w1 w' : World} {B : Nat} (h : Below B w w1) (hd : Drawn0 w1 w') : Below B w w' := by
  obtain ⟨⟨n, rfl⟩⟩ := hd
  exact bdn h n

theorem ownS_push {w w1 w2 : World} {B : Nat} {v v' : Value} {l : List ByteArray} {r : ByteArray} {o : Obj} (hB : B ≤ w1.heap.size) (hown : OwnS w1 B v l) (hnx : Below B w w1)
    (hown' : w2.ownsRow B 9 1 v' (l.length + 1) (l.map Value.string ++ [.string r])) (hgrow : (w1.alloc o).grownBy w2 v.ownBlock) : OwnS w2 B v' (l ++ [r]) ∧ Below B w w2 := by
  refine ⟨by unfold OwnS; simpa using hown', (hnx.alloc (by omega) o).grown hgrow (by simp; omega) (fun j hj => (World.ownsRow.lt hown j hj).1)⟩

theorem getD_snoc {ns : List ByteArray} {r d : ByteArray} {j : Nat} (h : j < ns.length) : (ns ++ [r]).getD j d = ns.getD j d := by
  rw [List.getD_eq_getElem?_getD, List.getElem?_append_left h, ← List.getD_eq_getElem?_getD]

def formOf (tag : Bool) : Int := if tag then 2 else 1
def outOf (tag : Bool) (z : Int) (x : ByteArray) : ByteArray := if tag then ⟨(Lib.itoa z).toArray⟩ else x

theorem form_any (tag : Bool) (w : World) : Calls Tryz.prog 24 #[.bool tag] w fun e w' => e = .returned (.int .i64 (formOf tag)) ∧ Below w.heap.size w w' := by
  cases tag
  all_goals
    go_enter Tryz.func24, Tryz.ntmps24
    go_wp2
    go_ret
    exact ⟨rfl, Below.refl _ _⟩

theorem one_s (r : ByteArray) : ∀ u ∈ [Value.string r], u.oneCell' = true := by
  intro u hu; simp at hu; subst hu; rfl

theorem one_str (w : World) (s : ByteArray) (T : TypeId) : ∀ j u, [Value.string s][j]? = some u → (w.alloc (.cells #[.string s] T)).cell? ((⟨w.heap.size, 0, none⟩ : Addr).add j) = some u := by
  intro j u hj
  match j, hj with
  | 0, hj => simp at hj; subst hj; simp [Addr.add]

set_option maxHeartbeats 8000000 in
set_option maxRecDepth 100000 in
theorem law_good (l : List ByteArray) (zs : List Int) (A0 A1 : Option Addr) (c0 c1 : Nat) (at_ : Nat) (tag : Bool) (w : World)
    (HF : Hid (Calls Tryz.prog 21 #[.slice A0 l.length c0] w fun e w' => e = .returned (.bool true) ∧ Drawn0 w w'))
    (h0 : Strs w A0 l) (h1 : I32s w A1 zs) (hc1 : zs.length ≤ c1) (hn : 1 ≤ l.length) (hn2 : l.length ≤ 50) (he : zs.length = l.length) (hat : at_ < l.length)
    (hzr : ∀ z ∈ zs, -2147483648 ≤ z ∧ z ≤ 2147483647)
    (DM : ∀ (ns : List ByteArray) (g c : Nat) (W : World), Unlike ns zs l.length → ns.length = l.length → l.length ≤ c → Strs W (some ⟨g, 0, none⟩) ns → Below w.heap.size w W →
      Calls Tryz.prog 23 #[inE (zs.getD at_ 0) (ns.getD at_ ByteArray.empty), .int .i64 (formOf tag), .slice (some ⟨g, 0, none⟩) l.length c, .slice A1 zs.length c1] W (fun e w' => e = .returned (.tuple #[.string (outOf tag (zs.getD at_ 0) (ns.getD at_ ByteArray.empty)), .bool true]) ∧ Below W.heap.size W w'))
    (DU : ∀ (ns : List ByteArray) (g c : Nat) (W : World), Unlike ns zs l.length → ns.length = l.length → l.length ≤ c → Strs W (some ⟨g, 0, none⟩) ns → Below w.heap.size w W →
      Calls Tryz.prog 25 #[.string (outOf tag (zs.getD at_ 0) (ns.getD at_ ByteArray.empty)), .int .i64 14, .int .i64 (formOf tag), .slice (some ⟨g, 0, none⟩) l.length c, .slice A1 zs.length c1] W (fun e w' => e = .returned (.tuple #[inE (zs.getD at_ 0) (ns.getD at_ ByteArray.empty), .bool true]) ∧ Below W.heap.size W w')) :
    Calls Tryz.prog 9 #[.slice A0 l.length c0, .slice A1 zs.length c1, .int .i64 at_, .bool tag] w fun e w' => LawSays w e w' := by
  obtain ⟨i0, hi, hz0, hz1, hz2⟩ := info_parts infoS
  have HI := Lib.hid (And.intro hi (And.intro hz0 (And.intro hz1 hz2)))
  clear hi hz0 hz1 hz2
  have H0 := Lib.hid h0
  have H1 := Lib.hid h1
  have t1 : (zs.length : Int) ≤ 2147483647 := by omega
  have t2 : (1 : Int) ≤ l.length := by omega
  have t3 : (l.length : Int) ≤ 50 := by omega
  have t4 : ((zs.length : Int) != (l.length : Int)) = false := by rw [bne_eq_false_iff_eq]; omega
  have t5 : (0 : Int) ≤ (at_ : Int) := by omega
  have t6 : (at_ : Int) < (l.length : Int) := by omega
  have t7 : decide (l.length ≤ at_) = false := by simpa using hat
  have HE := Lib.hid he
  have HZR := Lib.hid hzr
  have HDM := Lib.hid DM
  have HDU := Lib.hid DU
  clear h0 h1 he hzr DM DU
  go_enter Tryz.func9, Tryz.ntmps9
  go_wp2_with fail
  refine HF.out.mono ?_
  rintro e w' ⟨rfl, ⟨⟨nq, rfl⟩⟩⟩
  go_wp2_with fail
  go_loopw [9, 52] (fun v9 v52 wr => ∃ (i : Nat) (ns : List ByteArray), v52 = .int .i64 i ∧ i ≤ l.length ∧ Outer w zs i v9 ns wr) (fun _ v52 _ => l.length - (intOf v52).toNat)
  case atStart => exact ⟨0, [], rfl, by omega, rfl, World.ownsRow_nil _ _ _ _, fun j k _ h => by omega, bdn (Below.refl _ _) _⟩
  case round =>
    obtain ⟨i, ns, rfl, hil, hx⟩ := hrel
    have HX := Lib.hid hx
    have hsz := hx.bel.size
    clear hx
    by_cases hin : i < l.length
    · have q1 : (i : Int) < (l.length : Int) := by omega
      obtain ⟨a0, hA0, hcell0⟩ := strs_at (strs_below H0.out HX.out.bel) i hin
      subst hA0
      by_cases hlong : (100 : Int) < (l[i].size : Int)
      · go_wp2_with fail
        go_ret
        exact ⟨rfl, HX.out.bel⟩
      · have q2 : (l[i].size : Int) ≤ 100 := by omega
        obtain ⟨ki, r, hr⟩ := ident_any l[i] (by omega)
        have HID := Lib.hid (fun W => laws_ident.calls ki l[i] r W hr)
        clear hlong hr
        go_wp2_with fail
        refine (HID.out _).mono ?_
        rintro e w1 ⟨rfl, hd⟩
        have HOW := Lib.hid (HX.out.own.drawn hd)
        have HB1 := Lib.hid (below_drawn HX.out.bel hd)
        have hsz1 := HB1.out.size
        have hnl : ns.length ≤ 50 := by have := HX.out.len; omega
        clear hd
        go_wp2_with (first | (at_builtin; refine wpList_append_own _ rfl (.tmp 60) (.tmp 63) 40 rfl w.heap.size 9 i0 (.string ⟨#[]⟩) 1 16 Tryz.underlying40 HI.out.1 HI.out.2.1 HI.out.2.2.1 HI.out.2.2.2 rfl (by decide) _ ns.length (ns.map Value.string) rfl (HOW.out.alloc _) ⟨w1.heap.size, 0, none⟩ 1 1 [.string r] rfl rfl (one_str _ _ _) (one_s _) (by unfold maxLen; omega) (by omega) (by simp; omega) ?_; intro v' w2 hown' hgrow _; refine Hid.out ?_))
        refine Lib.hid ?_
        have P := ownS_push hsz1 HOW.out HB1.out hown' hgrow
        have hn' : (ns ++ [r]).length = i + 1 := by rw [List.length_append, HX.out.len]; rfl
        obtain ⟨g, c, rfl, hgc, hgB, hglt, hst⟩ := ownS_strs P.1 (by omega)
        have HP := Lib.hid P
        have HST := Lib.hid hst
        have HN' := Lib.hid hn'
        clear P hst hown' hgrow
        rw [hn']
        clear hn'
        have hnl' : (ns ++ [r]).length = i + 1 := HN'.out
        have HNS : Hid (∀ j, j ≤ i → w2.cell? ⟨g, j, none⟩ = some (.string ((ns ++ [r]).getD j ByteArray.empty))) := Lib.hid (fun j hj => by
          obtain ⟨a, ha, hc⟩ := strs_at HST.out j (by omega)
          injection ha with ha
          subst ha
          rw [add_plain] at hc
          rw [hc, List.getD_eq_getElem?_getD, List.getElem?_eq_getElem (by omega)]; rfl)
        have hzl : zs.length = l.length := HE.out
        obtain ⟨a1, hA1⟩ := (i32s_at (i32s_below H1.out HP.out.2) i (by omega)).imp fun _ h => h.1
        subst hA1
        have HZ : Hid (∀ j, j < l.length → w2.cell? (a1.add j) = some (.int .i32 (zs.getD j 0))) := Lib.hid (fun j hj => by
          obtain ⟨a, ha, hc⟩ := i32s_at (i32s_below H1.out HP.out.2) j (by omega)
          injection ha with ha
          subst ha
          rw [hc, List.getD_eq_getElem?_getD, List.getElem?_eq_getElem (by omega)]; rfl)
        clear hnl' hzl
        obtain ⟨ns', hns'⟩ : ∃ ns', ns' = ns ++ [r] := ⟨_, rfl⟩
        rw [← hns'] at HNS HP HN'
        have HNE := Lib.hid hns'
        clear HST hns'
        go_wp2_with fail
        go_loopw [66] (fun v66 wr2 => ∃ k : Nat, v66 = .int .i64 k ∧ k ≤ i ∧ (∀ j, j < k → ns'.getD j ByteArray.empty ≠ ns'.getD i ByteArray.empty ∧ zs.getD j 0 ≠ zs.getD i 0) ∧ Drawn0 w2 wr2) (fun v66 _ => i - (intOf v66).toNat)
        case atStart => exact ⟨0, rfl, by omega, fun j h => by omega, Drawn0.refl _⟩
        case round =>
          obtain ⟨k, rfl, hk, hun, hd⟩ := hrel
          have HUN := Lib.hid hun
          have HB3 := Lib.hid (below_drawn HP.out.2 hd)
          obtain ⟨⟨nd, rfl⟩⟩ := hd
          clear hun
          by_cases hki : k < i
          · have z0 : (0 : Int) ≤ (k : Int) ∧ (0 : Int) ≤ (i : Int) := by omega
            have z1 : (k : Int) < (i : Int) := by omega
            have z2 : (k : Int) < (i : Int) + 1 := by omega
            have z3 : (k : Int) < (zs.length : Int) := by have := HE.out; omega
            have z4 : (i : Int) < (zs.length : Int) := by have := HE.out; omega
            have cn := HNS.out k (by omega)
            have ci := HNS.out i (by omega)
            have zk := HZ.out k (by omega)
            have zi := HZ.out i (by omega)
            obtain ⟨x, hx⟩ : ∃ x, x = ns'.getD k ByteArray.empty := ⟨_, rfl⟩
            obtain ⟨y, hy⟩ : ∃ y, y = ns'.getD i ByteArray.empty := ⟨_, rfl⟩
            obtain ⟨p, hp⟩ : ∃ p, p = zs.getD k 0 := ⟨_, rfl⟩
            obtain ⟨q, hq⟩ : ∃ q, q = zs.getD i 0 := ⟨_, rfl⟩
            rw [← hx] at cn
            rw [← hy] at ci
            rw [← hp] at zk
            rw [← hq] at zi
            have HXY := Lib.hid (And.intro hx (And.intro hy (And.intro hp hq)))
            clear hx hy hp hq
            by_cases hxy : x = y
            · subst hxy
              have e1 : (x.toList == x.toList) = true := by simp
              go_wp2_with fail
              go_quiet (fail)
              go_wp2_with fail
              go_ret
              exact ⟨rfl, bdn HB3.out _⟩
            · have e1 : (x.toList == y.toList) = false := by
                rw [beq_eq_false_iff_ne]; intro h; apply hxy; rw [ByteArray.toList_eq, ByteArray.toList_eq] at h; exact ByteArray.ext (Array.toList_inj.1 h)
              by_cases hpq : p = q
              · have e2 : (p == q) = true := by rw [hpq]; simp
                clear hpq
                go_wp2_with fail
                go_quiet (fail)
                go_wp2_with fail
                go_ret
                exact ⟨rfl, bdn HB3.out _⟩
              · have e2 : (p == q) = false := by rw [beq_eq_false_iff_ne]; exact hpq
                have HNE2 := Lib.hid (And.intro hxy hpq)
                clear hxy hpq
                go_wp2_with fail
                go_quiet (fail)
                go_wp2_with fail
                go_roundw
                case rel =>
                  refine ⟨k + 1, by go_num, by omega, fun j hj => ?_, ⟨⟨nd + nq, rfl⟩⟩⟩
                  rcases Nat.lt_or_ge j k with h | h
                  · exact HUN.out j h
                  · obtain rfl : j = k := by omega
                    rw [← HXY.out.1, ← HXY.out.2.1, ← HXY.out.2.2.1, ← HXY.out.2.2.2]
                    exact HNE2.out
                case measure => simp [intOf]; omega
          · obtain rfl : k = i := by omega
            have HO : Hid (Outer w zs (k + 1) (.slice (some ⟨g, 0, none⟩) (k + 1) c) ns' (w2.drewN nd)) := Lib.hid (by
              refine ⟨HN'.out, ?_, ?_, bdn HP.out.2 _⟩
              · have h := HP.out.1
                rw [HN'.out] at h
                exact h.drawn ⟨⟨nd, rfl⟩⟩
              · intro j m hjm hm
                rcases Nat.lt_or_ge m k with h | h
                · have hl := HX.out.len
                  rw [HNE.out, getD_snoc (by omega), getD_snoc (by omega)]
                  exact HX.out.un j m hjm h
                · obtain rfl : m = k := by omega
                  exact HUN.out j hjm)
            go_wp2_with fail
            go_roundw
            case rel => first | exact ⟨k + 1, ns', by go_num, by omega, HO.out⟩ | ((repeat apply Exists.intro); refine ⟨?_, rfl⟩; exact ⟨k + 1, ns', by go_num, by omega, HO.out⟩)
            case measure => first | (simp [intOf]; omega) | (show l.length - (k + 1) < l.length - k; omega)
    · obtain rfl : i = l.length := by omega
      have hnl := HX.out.len
      obtain ⟨g, c, rfl, hgc, hgB, hglt, hst⟩ := ownS_strs HX.out.own (by omega)
      have HST := Lib.hid hst
      have HNL := Lib.hid hnl
      have hb := HX.out.bel
      have cz : ∃ a1, A1 = some a1 ∧ wr.cell? (a1.add at_) = some (.int .i32 (zs.getD at_ 0)) := by
        obtain ⟨a, ha, hc⟩ := i32s_at (i32s_below H1.out hb) at_ (by rw [HE.out]; exact hat)
        refine ⟨a, ha, ?_⟩
        rw [hc, List.getD_eq_getElem?_getD, List.getElem?_eq_getElem (by rw [HE.out]; exact hat)]; rfl
      have cx : wr.cell? ⟨g, at_, none⟩ = some (.string (ns.getD at_ ByteArray.empty)) := by
        obtain ⟨a, ha, hc⟩ := strs_at hst at_ (by omega)
        injection ha with ha
        subst ha
        rw [add_plain] at hc
        rw [hc, List.getD_eq_getElem?_getD, List.getElem?_eq_getElem (by omega)]; rfl
      obtain ⟨a1, rfl, cz⟩ := cz
      have hzz : -2147483648 ≤ zs.getD at_ 0 ∧ zs.getD at_ 0 ≤ 2147483647 := by
        apply HZR.out
        rw [List.getD_eq_getElem?_getD, List.getElem?_eq_getElem (by rw [HE.out]; exact hat)]
        exact List.getElem_mem _
      have HB := Lib.hid hb
      rw [hnl]
      have HGC : Hid (l.length ≤ c) := Lib.hid (by omega)
      clear hst hb hnl hgc
      obtain ⟨x, hx⟩ : ∃ x, x = ns.getD at_ ByteArray.empty := ⟨_, rfl⟩
      obtain ⟨z, hz⟩ : ∃ z, z = zs.getD at_ 0 := ⟨_, rfl⟩
      rw [← hx] at cx
      rw [← hz] at cz hzz
      obtain ⟨hz0, hz1⟩ := hzz
      have HXZ := Lib.hid (And.intro hx hz)
      clear hx hz
      have b1 : (at_ : Int) < (zs.length : Int) := by have := HE.out; omega
      have hw64 : IntKind.i64.wrap z = z := by rw [IntKind.wrap_i64]; omega
      go_wp2_with fail
      go_region_held3 (fun w' => w'.cell? (a1.add at_) = some (.int .i32 z) ∧ w'.cell? ⟨g, at_, none⟩ = some (.string x)) (go_keep) (fail)
      go_wp2_with fail
      obtain ⟨W1, hW1⟩ : ∃ W1, W1 = (wr.alloc (.cells #[.int .i64 14, .bool false, .int .i64 z, .int .u64 0, .int .u64 0, .string ⟨#[]⟩, .string x] 56)).drew := ⟨_, rfl⟩
      have hs1 : W1.heap.size = wr.heap.size + 1 := by rw [hW1]; simp
      have hbw : Below wr.heap.size wr W1 := by rw [hW1]; exact ((Below.refl _ _).alloc (Nat.le_refl _) _).drew
      have HBL : W1.heap[wr.heap.size]? = some (.cells #[.int .i64 14, .bool false, .int .i64 z, .int .u64 0, .int .u64 0, .string ⟨#[]⟩, .string x] 56 (0, 0)) := by rw [hW1]; exact heap_alloc_new wr _
      have K : ∀ w' : World, Below W1.heap.size W1 w' → w'.cell? ⟨wr.heap.size, 0, none⟩ = some (.int .i64 14) ∧ w'.cell? ⟨wr.heap.size, 1, none⟩ = some (.bool false) ∧ w'.cell? ⟨wr.heap.size, 2, none⟩ = some (.int .i64 z) ∧ w'.cell? ⟨wr.heap.size, 3, none⟩ = some (.int .u64 0) ∧ w'.cell? ⟨wr.heap.size, 4, none⟩ = some (.int .u64 0) ∧ w'.cell? ⟨wr.heap.size, 5, none⟩ = some (.string ⟨#[]⟩) ∧ w'.cell? ⟨wr.heap.size, 6, none⟩ = some (.string x) := fun w' hb => by
        have h := (hb.block wr.heap.size (by omega)).trans HBL
        exact ⟨cell_blk h rfl, cell_blk h rfl, cell_blk h rfl, cell_blk h rfl, cell_blk h rfl, cell_blk h rfl, cell_blk h rfl⟩
      rw [← hW1]
      clear hW1
      have HK := Lib.hid K
      have HBW := Lib.hid hbw
      have DM1 := fun W (hW : Below W1.heap.size W1 W) => HDM.out ns g c W HX.out.un HNL.out HGC.out (strs_below (strs_below HST.out hbw) hW) (HB.out.trans ((hbw.trans (hW.mono hbw.size)).mono HB.out.size))
      have DU1 := fun W (hW : Below W1.heap.size W1 W) => HDU.out ns g c W HX.out.un HNL.out HGC.out (strs_below (strs_below HST.out hbw) hW) (HB.out.trans ((hbw.trans (hW.mono hbw.size)).mono HB.out.size))
      rw [← HXZ.out.1, ← HXZ.out.2] at DM1 DU1
      obtain ⟨out, hout⟩ : ∃ out, out = outOf tag z x := ⟨_, rfl⟩
      rw [← hout] at DM1 DU1
      obtain ⟨f, hf⟩ : ∃ f, f = formOf tag := ⟨_, rfl⟩
      have FT := fun W => form_any tag W
      rw [← hf] at DM1 DU1 FT
      unfold inE at DM1 DU1
      have HD1 := Lib.hid DM1
      have HU1 := Lib.hid DU1
      have HFT := Lib.hid FT
      have HOUT := Lib.hid hout
      clear K HBL hbw DM1 DU1 FT hout hf
      go_region_held3 (fun w' => w'.cell? ⟨wr.heap.size, 0, none⟩ = some (.int .i64 14) ∧ w'.cell? ⟨wr.heap.size, 1, none⟩ = some (.bool false) ∧ w'.cell? ⟨wr.heap.size, 2, none⟩ = some (.int .i64 z) ∧ w'.cell? ⟨wr.heap.size, 3, none⟩ = some (.int .u64 0) ∧ w'.cell? ⟨wr.heap.size, 4, none⟩ = some (.int .u64 0) ∧ w'.cell? ⟨wr.heap.size, 5, none⟩ = some (.string ⟨#[]⟩) ∧ w'.cell? ⟨wr.heap.size, 6, none⟩ = some (.string x))
        (first | exact HK.out _ (Below.refl _ _).drew | exact HK.out _ (Below.refl _ _) | exact HK.out _ hb2' | exact HK.out _ hb3')
        (first
          | (go_at_call 24; ((with_reducible refine (HFT.out _).mono ?_)); rintro e w2 ⟨rfl, hb2⟩; have hb2' : Below W1.heap.size W1 w2 := ((Below.refl _ _).drew).trans hb2)
          | (go_at_call 23; ((with_reducible refine (HD1.out _ hb2').mono ?_)); rintro e w3 ⟨rfl, hb3⟩; have hb3' : Below W1.heap.size W1 w3 := hb2'.trans (hb3.mono hb2'.size)))
      have HB3 := Lib.hid hb3'
      clear hb2 hb2' hb3 hb3'
      obtain ⟨k0, k1, k2, k3, k4, k5, k6⟩ := HK.out w3 HB3.out
      have cx3 : w3.cell? ⟨g, at_, none⟩ = some (.string x) := ((HBW.out.trans (HB3.out.mono HBW.out.size)).cell (p := ⟨g, at_, none⟩) hglt).trans cx
      have SG := fun W => laws_signed.calls 20 z _ W (signed_plain z (by omega) (by omega))
      obtain ⟨sg, hsg⟩ : ∃ sg : ByteArray, sg = ⟨(Lib.itoa z).toArray⟩ := ⟨_, rfl⟩
      rw [← hsg] at SG
      have HSG := Lib.hid SG
      have HSGE := Lib.hid hsg
      clear SG hsg
      have t8 : (at_ : Int) < (l.length : Int) := t6
      clear cx cz
      cases tag
      · have ho : out = x := HOUT.out
        subst ho
        go_wp2_with fail
        all_goals
          ((with_reducible refine (HSG.out _).mono ?_))
          rintro e w4 ⟨rfl, hb4⟩
          have HB4 := Lib.hid (HB3.out.trans (hb4.mono HB3.out.size))
          clear hb4
          go_wp2_with fail
        all_goals
          ((with_reducible refine (HFT.out _).mono ?_))
          rintro e w5 ⟨rfl, hb5⟩
          have HB5 := Lib.hid (HB4.out.trans (hb5.mono HB4.out.size))
          clear hb5
          go_wp2_with fail
          ((with_reducible refine (HU1.out _ HB5.out).mono ?_))
          rintro e w6 ⟨rfl, hb6⟩
          have HB6 := Lib.hid (HB5.out.trans (hb6.mono HB5.out.size))
          have m2 := fun o => (HK.out (w6.alloc o) (HB6.out.alloc HB6.out.size o)).2.2.1
          have m6 := fun o => (HK.out (w6.alloc o) (HB6.out.alloc HB6.out.size o)).2.2.2.2.2.2
          have hlt6 : wr.heap.size < w6.heap.size := by have := HB6.out.size; omega
          have hne6 : ¬ wr.heap.size = w6.heap.size := by omega
          clear hb6 k0 k1 k2 k3 k4 k5 k6 cx3
          go_wp2_with fail
          go_ret
          exact ⟨rfl, (HB.out.trans ((HBW.out.trans (HB6.out.mono HBW.out.size)).mono HB.out.size)).alloc (by omega) _⟩
      · have ho : out = sg := HOUT.out.trans HSGE.out.symm
        subst ho
        go_wp2_with fail
        all_goals
          ((with_reducible refine (HSG.out _).mono ?_))
          rintro e w4 ⟨rfl, hb4⟩
          have HB4 := Lib.hid (HB3.out.trans (hb4.mono HB3.out.size))
          clear hb4
          go_wp2_with fail
        all_goals
          ((with_reducible refine (HFT.out _).mono ?_))
          rintro e w5 ⟨rfl, hb5⟩
          have HB5 := Lib.hid (HB4.out.trans (hb5.mono HB4.out.size))
          clear hb5
          go_wp2_with fail
          ((with_reducible refine (HU1.out _ HB5.out).mono ?_))
          rintro e w6 ⟨rfl, hb6⟩
          have HB6 := Lib.hid (HB5.out.trans (hb6.mono HB5.out.size))
          have m2 := fun o => (HK.out (w6.alloc o) (HB6.out.alloc HB6.out.size o)).2.2.1
          have m6 := fun o => (HK.out (w6.alloc o) (HB6.out.alloc HB6.out.size o)).2.2.2.2.2.2
          have hlt6 : wr.heap.size < w6.heap.size := by have := HB6.out.size; omega
          have hne6 : ¬ wr.heap.size = w6.heap.size := by omega
          clear hb6 k0 k1 k2 k3 k4 k5 k6 cx3
          go_wp2_with fail
          go_ret
          exact ⟨rfl, (HB.out.trans ((HBW.out.trans (HB6.out.mono HBW.out.size)).mono HB.out.size)).alloc (by omega) _⟩

end Go.Proofs.YtonfdfikgnhheaaGreatDoor.enums
