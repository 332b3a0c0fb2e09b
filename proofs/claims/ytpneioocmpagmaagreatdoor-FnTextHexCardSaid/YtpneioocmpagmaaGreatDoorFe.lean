/- strconv.readFloat at a decimal. -/
import Derived.Test.YtpneioocmpagmaaGreatDoorNum
import Derived.Test.YtpneioocmpagmaaGreatDoorFb
import Derived.Test.YtpneioocmpagmaaGreatDoorPu0
import Derived.LoopTactic
import Derived.Outline
import Derived.Deep.LoopGhost
import Derived.WalkMore
namespace Go.Proofs.YtpneioocmpagmaaGreatDoor.fl
open Go.RowKit
open Go.Proofs.YtpneioocmpagmaaGreatDoor.pu Go.Proofs.YtpneioocmpagmaaGreatDoor.num
set_option linter.unusedVariables false
set_option linter.unusedSimpArgs false

/-- A power of ten: nothing, or an e, perhaps a sign, and digits. -/
inductive Ex : List UInt8 → Int → Prop where
  | none : Ex [] 0
  | plain (c : UInt8) (ds : List UInt8) : (c.toNat = 101 ∨ c.toNat = 69) → ds ≠ [] → (∀ d ∈ ds, 48 ≤ d.toNat ∧ d.toNat ≤ 57) → Ex (c :: ds) (ev ds)
  | plus (c : UInt8) (ds : List UInt8) : (c.toNat = 101 ∨ c.toNat = 69) → ds ≠ [] → (∀ d ∈ ds, 48 ≤ d.toNat ∧ d.toNat ≤ 57) → Ex (c :: 43 :: ds) (ev ds)
  | minus (c : UInt8) (ds : List UInt8) : (c.toNat = 101 ∨ c.toNat = 69) → ds ≠ [] → (∀ d ∈ ds, 48 ≤ d.toNat ∧ d.toNat ≤ 57) → Ex (c :: 45 :: ds) (-(ev ds : Int))

theorem at_get (t : ByteArray) (i : Nat) (h : i < t.size) : t[i] = t.data.toList.getD i 0 := by
  rw [List.getD_eq_getElem?_getD, Array.getElem?_toList]
  show t.data[i] = _
  rw [Array.getElem?_eq_getElem (show i < t.data.size from h)]; rfl

/-- The power of ten. -/
def RF.pow (s : RF) (E : Int) : Int := if s.mant = 0 then 0 else (if s.dot then s.dp else (s.nd : Int)) + E - (s.ndm : Int)

def RFv (t : ByteArray) (ng : Bool) (s : RF) (E : Int) : Value := .tuple #[.int .u64 (s.mant : Int), .int .i64 (s.pow E), .bool ng, .bool s.tr, .bool false, .int .i64 (t.size : Int), .bool true]

theorem ex_parts {ex : List UInt8} {E : Int} (h : Ex ex E) (hne : ex ≠ []) : ∃ (c : UInt8) (S ds : List UInt8), ex = c :: (S ++ ds) ∧ 1 ≤ ds.length ∧ (∀ d ∈ ds, 48 ≤ d.toNat ∧ d.toNat ≤ 57) ∧
    ((S = [] ∧ E = (ev ds : Int)) ∨ (S = [43] ∧ E = (ev ds : Int)) ∨ (S = [45] ∧ E = -(ev ds : Int))) := by
  have hl : ∀ ds : List UInt8, ds ≠ [] → 1 ≤ ds.length := fun ds h => by
    cases ds with
    | nil => exact absurd rfl h
    | cons a l => simp
  cases h with
  | none => exact absurd rfl hne
  | plain c ds hc h1 h2 => exact ⟨c, [], ds, rfl, hl _ h1, h2, .inl ⟨rfl, rfl⟩⟩
  | plus c ds hc h1 h2 => exact ⟨c, [43], ds, rfl, hl _ h1, h2, .inr (.inl ⟨rfl, rfl⟩)⟩
  | minus c ds hc h1 h2 => exact ⟨c, [45], ds, rfl, hl _ h1, h2, .inr (.inr ⟨rfl, rfl⟩)⟩

theorem getD_tail {l pre body S ds : List UInt8} {c : UInt8} (h : l = pre ++ (body ++ (c :: (S ++ ds)))) (j : Nat) : l.getD (pre.length + body.length + 1 + j) 0 = (S ++ ds).getD j 0 := by
  rw [h, List.getD_eq_getElem?_getD, List.getD_eq_getElem?_getD, List.getElem?_append_right (by omega), List.getElem?_append_right (by omega),
    show pre.length + body.length + 1 + j - pre.length - body.length = j + 1 from by omega, List.getElem?_cons_succ]

theorem ex_head {ex : List UInt8} {E : Int} (h : Ex ex E) : ex.getD 0 0 = 0 ∧ ex = [] ∨ (ex.getD 0 0).toNat = 101 ∨ (ex.getD 0 0).toNat = 69 := by
  cases h with
  | none => exact .inl ⟨rfl, rfl⟩
  | plain c ds hc _ _ => exact .inr hc
  | plus c ds hc _ _ => exact .inr hc
  | minus c ds hc _ _ => exact .inr hc

theorem low_md (c : UInt8) (h : Md c ∨ c.toNat = 101 ∨ c.toNat = 69) : low c.toNat ≠ 120 := by
  have h1 : ∀ n : Nat, n < 58 → low n ≠ 120 := by decide
  unfold Md at h
  rcases h with (h | ⟨_, h⟩) | h | h
  · rw [h]; decide
  · exact h1 _ (by omega)
  · rw [h]; decide
  · rw [h]; decide

theorem md_ne {c : UInt8} (h : Md c) : ((c.toNat : Int) == 43) = false ∧ ((c.toNat : Int) == 45) = false := by
  unfold Md at h
  simp only [beq_eq_false_iff_ne]
  omega

/-- The byte at a place of the mantissa, or behind it. -/
theorem at_body {l pre body ex : List UInt8} {E : Int} (h : l = pre ++ (body ++ ex)) (hb : ∀ c ∈ body, Md c) (hex : Ex ex E) (j : Nat) (hj : pre.length + j < l.length) (hj2 : j ≤ body.length) :
    (j < body.length ∧ l.getD (pre.length + j) 0 = body.getD j 0 ∧ Md (body.getD j 0)) ∨ (j = body.length ∧ ((l.getD (pre.length + j) 0).toNat = 101 ∨ (l.getD (pre.length + j) 0).toNat = 69)) := by
  have e1 : l.getD (pre.length + j) 0 = (body ++ ex).getD j 0 := by
    rw [h, List.getD_eq_getElem?_getD, List.getD_eq_getElem?_getD, List.getElem?_append_right (by omega), show pre.length + j - pre.length = j from by omega]
  rcases Nat.lt_or_ge j body.length with hlt | hge
  · left
    have e2 : (body ++ ex).getD j 0 = body.getD j 0 := by
      rw [List.getD_eq_getElem?_getD, List.getD_eq_getElem?_getD, List.getElem?_append_left hlt]
    refine ⟨hlt, e1.trans e2, hb _ ?_⟩
    rw [List.getD_eq_getElem?_getD, List.getElem?_eq_getElem hlt]
    exact List.getElem_mem hlt
  · right
    have hjn : j = body.length := by omega
    have e2 : (body ++ ex).getD j 0 = ex.getD 0 0 := by
      rw [List.getD_eq_getElem?_getD, List.getD_eq_getElem?_getD, List.getElem?_append_right hge, hjn, Nat.sub_self]
    refine ⟨hjn, ?_⟩
    rw [e1, e2]
    rcases ex_head hex with ⟨_, h0⟩ | h1
    · rw [h, h0, hjn] at hj; simp at hj
    · exact h1

set_option maxHeartbeats 400000000 in
set_option maxRecDepth 100000 in
theorem read_float (t : ByteArray) (ng : Bool) (body ex : List UInt8) (E : Int) (hmax : t.size ≤ 140737488355328)
    (ht : t.data.toList = (if ng then [45] else []) ++ (body ++ ex)) (hb : ∀ c ∈ body, Md c) (hdig : (rf body).dig = true) (hdot : ∀ l c r, body = l ++ c :: r → (rf l).dot = true → c.toNat ≠ 46) (hex : Ex ex E) (w : World) :
    Calls Tryz.prog 201 #[.string t] w fun e w' => e = .returned (RFv t ng (rf body) E) ∧ w = w' := by
  have hsz : t.size = t.data.toList.length := by rw [Array.length_toList]; rfl
  have hbl : 1 ≤ body.length := by
    cases body with
    | nil => rw [rf_nil] at hdig; cases hdig
    | cons c l => simp
  obtain ⟨pre, hpre⟩ : ∃ pre : List UInt8, pre = if ng then [45] else [] := ⟨_, rfl⟩
  rw [← hpre] at ht
  obtain ⟨i0, hi0⟩ : ∃ i0, i0 = pre.length := ⟨_, rfl⟩
  have HAT : Hid (∀ (j : Nat) (h : i0 + j < t.size), j ≤ body.length → (j < body.length ∧ t[i0 + j] = body.getD j 0 ∧ Md t[i0 + j]) ∨ (j = body.length ∧ ((t[i0 + j]).toNat = 101 ∨ (t[i0 + j]).toNat = 69))) := Lib.hid (fun j h hj2 => by
    rw [at_get, hi0]
    rcases at_body ht hb hex j (by rw [← hsz, ← hi0]; exact h) hj2 with ⟨h1, h2, h3⟩ | h1
    · rw [h2]; exact .inl ⟨h1, rfl, h3⟩
    · exact .inr h1)
  have hlen := congrArg List.length ht
  rw [← hsz, List.length_append, List.length_append, ← hi0] at hlen
  have hi1 : ng = true ∧ i0 = 1 ∧ (∀ h : 0 < t.size, (t[0]).toNat = 45) ∨ ng = false ∧ i0 = 0 := by
    cases ng with
    | true => exact .inl ⟨rfl, by rw [hi0, hpre]; rfl, fun h => by rw [at_get, ht, hpre]; rfl⟩
    | false => exact .inr ⟨rfl, by rw [hi0, hpre]; rfl⟩
  obtain ⟨n, hn⟩ : ∃ n, n = body.length := ⟨_, rfl⟩
  obtain ⟨x, hx⟩ : ∃ x, x = ex.length := ⟨_, rfl⟩
  rw [← hn] at hbl HAT hlen
  rw [← hx] at hlen
  have HL := Lib.hid (And.intro ht (And.intro hb (And.intro hdig (And.intro hdot (And.intro hex (And.intro hn hx))))))
  have HLEN := Lib.hid hlen
  have hle : i0 + n ≤ t.size := by omega
  clear hsz ht hb hdig hdot hex hn hx hlen hi0 hpre
  go_enter Tryz.func201, Tryz.ntmps201
  go_wp2_with fail
  go_step3
  have p0 : (0 : Int) < (t.size : Int) := by omega
  have p1 : 0 < t.size := by omega
  have pe : ¬ t = ByteArray.empty := by rintro rfl; exact absurd p1 (by decide)
  go_upto_block 0 with (fail)
  go_cut [4, 7] (fun v4 v7 wx => v4 = .bool ng ∧ v7 = .int .i64 (i0 : Int) ∧ w = wx)
  case first => as_aux_lemma =>
    rcases hi1 with ⟨rfl, rfl, h45⟩ | ⟨rfl, rfl⟩
    · have e1 : (((t[0]'p1).toNat : Int) == 43) = false := by rw [h45 p1]; rfl
      have e2 : (((t[0]'p1).toNat : Int) == 45) = true := by rw [h45 p1]; rfl
      go_wp2_with (first | go_meet | fail)
      all_goals exact ⟨rfl, rfl⟩
    · have hm : Md (t[0]'p1) := by
        rcases HAT.out 0 (by omega) (by omega) with ⟨_, _, h⟩ | ⟨h, _⟩
        · exact h
        · omega
      obtain ⟨e1, e2⟩ := md_ne hm
      go_wp2_with (first | go_meet | fail)
      all_goals exact ⟨rfl, rfl⟩
  case rest => as_aux_lemma =>
    obtain ⟨rfl, rfl, rfl⟩ := hcut
    have h12 : i0 + 2 < t.size → (i0 : Int) < (t.size : Int) ∧ (0 : Int) ≤ (i0 : Int) + 1 ∧ (i0 : Int) + 1 < (t.size : Int) := by omega
    go_upto_region 12 with (fail)
    go_cut [54] (fun v54 wx => v54 = .bool false ∧ w = wx)
    case first => as_aux_lemma =>
      by_cases A : i0 + 2 < t.size
      · obtain ⟨g0, g1, g2⟩ := h12 A
        have A' : (i0 : Int) + 2 < (t.size : Int) := by omega
        have hy : low (t[i0 + 1]).toNat ≠ 120 := low_md _ (by
          rcases HAT.out 1 (by omega) (by omega) with ⟨_, _, h⟩ | ⟨_, h⟩
          · exact .inl h
          · exact .inr h)
        have o1 := or32 (t[i0 + 1]).toNat (t[i0 + 1]).toNat_lt
        have hy' : ((low (t[i0 + 1]).toNat : Int) == 120) = false := by rw [beq_eq_false_iff_ne]; omega
        clear hy h12
        by_cases B : ((t[i0]).toNat : Int) = 48
        · have B' : (((t[i0]).toNat : Int) == 48) = true := by rw [B]; rfl
          clear B
          go_wp2_with (first | go_meet | (go_at_call 141; refine (lower_any _ _).mono ?_; rintro e w' ⟨rfl, rfl⟩))
          all_goals exact rfl
        · have B' : (((t[i0]).toNat : Int) == 48) = false := by rw [beq_eq_false_iff_ne]; exact B
          clear B
          go_wp2_with (first | go_meet | fail)
          all_goals exact rfl
      · have A' : ¬ (i0 : Int) + 2 < (t.size : Int) := by omega
        go_wp2_with (first | go_meet | fail)
        all_goals exact rfl
    case rest => as_aux_lemma =>
      obtain ⟨rfl, rfl⟩ := hcut
      clear h12 hi1
      go_wp2_with fail
      go_step3
      go_wp2_with fail
      have HAP : Hid (∀ (p : Nat) (h : p < t.size), i0 ≤ p → p - i0 ≤ n → (p - i0 < n ∧ t[p] = body.getD (p - i0) 0 ∧ Md t[p]) ∨ (p - i0 = n ∧ ((t[p]).toNat = 101 ∨ (t[p]).toNat = 69))) := Lib.hid (fun p h hp hn => by
        obtain ⟨j, rfl⟩ : ∃ j, p = i0 + j := ⟨p - i0, by omega⟩
        have := HAT.out j h (by omega)
        rwa [show i0 + j - i0 = j from by omega])
      go_loop [2, 5, 7, 9, 13, 14, 15, 16, 17] (fun v2 v5 v7 v9 v13 v14 v15 v16 v17 => ∃ (p : Nat) (s : RF), i0 ≤ p ∧ p ≤ i0 + n ∧ s = rf (body.take (p - i0)) ∧ v2 = .int .u64 (s.mant : Int) ∧ v5 = .bool s.tr ∧ v7 = .int .i64 (p : Int) ∧ v9 = .bool false ∧ v13 = .bool s.dot ∧ v14 = .bool s.dig ∧ v15 = .int .i64 (s.nd : Int) ∧ v16 = .int .i64 (s.ndm : Int) ∧ v17 = .int .i64 s.dp)
        (fun _ _ v7 _ _ _ _ _ _ => t.size - (intOf v7).toNat)
      case atStart => exact ⟨i0, ⟨0, 0, 0, 0, false, false, false⟩, Nat.le_refl _, by omega, by rw [Nat.sub_self]; rfl, rfl, rfl, rfl, rfl, rfl, rfl, rfl, rfl, rfl⟩
      case round => as_aux_lemma =>
        obtain ⟨p, s, hp0, hp1, hs, rfl, rfl, rfl, rfl, rfl, rfl, rfl, rfl, rfl⟩ := hrel
        have hok : RF.Ok (body.take (p - i0)).length s := by
          rw [hs]
          exact rf_ok _ (fun c hc => HL.out.2.1 c (List.mem_of_mem_take hc))
        have hbig := hok.big
        have hmant := Lib.hid hok.mant
        have k1 := hok.ndm
        have k2 := hok.le
        have k3 := hok.nd
        have k4 := hok.dp0
        have k5 := hok.dp1
        have k6 : (body.take (p - i0)).length ≤ n := by have := HL.out.2.2.2.2.2.1; simp; omega
        obtain ⟨N, hN⟩ : ∃ N, N = (body.take (p - i0)).length := ⟨_, rfl⟩
        rw [← hN] at k3 k4 k5 k6
        have HS := Lib.hid hs
        clear hok hs hN
        obtain ⟨mant, nd, ndm, dp, dot, dig, tr⟩ := s
        simp only at hbig k1 k2 k3 k4 k5 hmant
        have q0 : (0 : Int) ≤ (p : Int) := by omega
        have m0 : (0 : Int) ≤ (mant : Int) := by omega
        rcases Nat.lt_or_ge p t.size with hpt | hpt
        · have hpt' : (p : Int) < (t.size : Int) := by omega
          rcases HAP.out p hpt hp0 (by omega) with ⟨hpn, hcb, hmd⟩ | ⟨hpn, he⟩
          · as_aux_lemma =>
            -- a byte of the mantissa
            have HSN : Hid (rf (body.take (p + 1 - i0)) = RF.step ⟨mant, nd, ndm, dp, dot, dig, tr⟩ (t[p])) := Lib.hid (by
              have e : body.take (p + 1 - i0) = body.take (p - i0) ++ [t[p]] := by
                have hlt : p - i0 < body.length := by rw [← HL.out.2.2.2.2.2.1]; exact hpn
                rw [show p + 1 - i0 = (p - i0) + 1 from by omega, List.take_succ_eq_append_getElem hlt, hcb, List.getD_eq_getElem?_getD, List.getElem?_eq_getElem hlt]; rfl
              rw [e, rf_snoc, ← HS.out])
            have HDT : Hid (dot = true → (t[p]).toNat ≠ 46) := Lib.hid (fun hd => by
              have hlt : p - i0 < body.length := by rw [← HL.out.2.2.2.2.2.1]; exact hpn
              have h1 : t[p] = body[p - i0] := by rw [hcb, List.getD_eq_getElem?_getD, List.getElem?_eq_getElem hlt]; rfl
              rw [h1]
              refine HL.out.2.2.2.1 (body.take (p - i0)) (body[p - i0]) (body.drop (p - i0 + 1)) ?_ (by rw [← HS.out]; exact hd)
              rw [List.getElem_cons_drop]
              exact (List.take_append_drop _ _).symm)
            have hp2 : p + 1 ≤ i0 + n := by omega
            have HMS : Hid (t.size - (p + 1) < t.size - p) := Lib.hid (by omega)
            have HM18 : ndm < 19 → mant < 1000000000000000000 := fun h => by
              have h1 : mant < 10 ^ ndm := hmant.out
              exact Nat.lt_of_lt_of_le h1 (Nat.le_trans (Nat.pow_le_pow_right (by omega) (show ndm ≤ 18 by omega)) (by decide))
            clear hcb
            obtain ⟨c, hc⟩ : ∃ c, c = (t[p]).toNat := ⟨_, rfl⟩
            unfold Md at hmd
            rw [← hc] at hmd
            unfold RF.step at HSN
            rw [← hc] at HSN HDT
            simp only at HSN
            have HC := Lib.hid hc.symm
            have hci : (((t[p]).toNat : Nat) : Int) = (c : Int) := by rw [hc]
            clear hc
            rcases hmd with h46 | ⟨hc0, hc1⟩
            · as_aux_lemma =>
              obtain rfl : dot = false := by
                cases dot with
                | false => rfl
                | true => exact absurd h46 (HDT.out rfl)
              rw [if_pos h46] at HSN
              clear HDT HM18
              have e95 : ((c : Int) == 95) = false := by rw [h46]; rfl
              have e46 : ((c : Int) == 46) = true := by rw [h46]; rfl
              clear h46
              go_wp2_with fail
              exact ⟨⟨p + 1, _, by omega, hp2, HSN.out.symm, rfl, rfl, by go_num, rfl, rfl, rfl, rfl, rfl, rfl⟩, by simp [intOf]; exact HMS.out⟩
            · have h46 : ¬ c = 46 := by omega
              rw [if_neg h46] at HSN
              have e95 : ((c : Int) == 95) = false := by rw [beq_eq_false_iff_ne]; omega
              have e46 : ((c : Int) == 46) = false := by rw [beq_eq_false_iff_ne]; omega
              have i0' : (48 : Int) ≤ (c : Int) := by omega
              have i1' : (c : Int) ≤ 57 := by omega
              clear h46 HDT
              by_cases hz : c = 48 ∧ nd = 0
              · as_aux_lemma =>
                rw [if_pos hz] at HSN
                obtain ⟨rfl, rfl⟩ := hz
                have e48 : (((48 : Nat) : Int) == 48) = true := rfl
                clear HM18
                go_wp2_with fail
                exact ⟨⟨p + 1, _, by omega, hp2, HSN.out.symm, rfl, rfl, by go_num, rfl, rfl, rfl, rfl, rfl, rfl⟩, by simp [intOf]; exact HMS.out⟩
              · rw [if_neg hz] at HSN
                have hz' : (((c : Int) == 48) = true ∧ ((nd : Int) == 0) = false) ∨ ((c : Int) == 48) = false := by
                  simp only [beq_iff_eq, beq_eq_false_iff_ne]; omega
                by_cases hnd : ndm < 19
                · as_aux_lemma =>
                  rw [if_pos hnd] at HSN
                  have j0 : (ndm : Int) < 19 := by omega
                  have j1 := HM18 hnd
                  have HV : Hid (Value.int .u64 ((mant : Int) * 10 + ((c : Int) - 48)) = Value.int .u64 ((mant * 10 + (c - 48) : Nat) : Int)) := Lib.hid (by congr 1; omega)
                  clear hnd HM18 hz
                  rcases hz' with ⟨e48, en⟩ | e48
                  all_goals
                    go_wp2_with fail
                    exact ⟨⟨p + 1, _, by omega, hp2, HSN.out.symm, HV.out, rfl, by go_num, rfl, rfl, rfl, by go_num, by go_num, rfl⟩, by simp [intOf]; exact HMS.out⟩
                · rw [if_neg hnd] at HSN
                  have j0 : ¬ (ndm : Int) < 19 := by omega
                  clear hnd HM18
                  by_cases h48 : c = 48
                  · as_aux_lemma =>
                    rw [if_pos h48] at HSN
                    obtain ⟨e48, en⟩ : ((c : Int) == 48) = true ∧ ((nd : Int) == 0) = false := by
                      rcases hz' with h | h
                      · exact h
                      · rw [h48] at h; cases h
                    have e48' : ((c : Int) != 48) = false := by rw [h48]; rfl
                    clear h48 hz hz'
                    go_wp2_with fail
                    exact ⟨⟨p + 1, _, by omega, hp2, HSN.out.symm, rfl, rfl, by go_num, rfl, rfl, rfl, by go_num, rfl, rfl⟩, by simp [intOf]; exact HMS.out⟩
                  · as_aux_lemma =>
                    rw [if_neg h48] at HSN
                    have e48 : ((c : Int) == 48) = false := by rw [beq_eq_false_iff_ne]; omega
                    have e48' : ((c : Int) != 48) = true := by rw [bne_iff_ne]; omega
                    clear h48 hz hz'
                    go_wp2_with fail
                    exact ⟨⟨p + 1, _, by omega, hp2, HSN.out.symm, rfl, rfl, by go_num, rfl, rfl, rfl, by go_num, rfl, rfl⟩, by simp [intOf]; exact HMS.out⟩
          · as_aux_lemma =>
            -- an e
            have hpe : p = i0 + n := by omega
            have HB : Hid ((⟨mant, nd, ndm, dp, dot, dig, tr⟩ : RF) = rf body) := Lib.hid (by
              rw [HS.out, List.take_of_length_le]
              rw [← HL.out.2.2.2.2.2.1]; omega)
            obtain rfl : dig = true := by have := HL.out.2.2.1; rw [← HB.out] at this; exact this
            have HPE := Lib.hid hpe
            have hne : ex ≠ [] := fun h => by
              have h1 := HL.out.2.2.2.2.2.2
              rw [h] at h1
              have := HLEN.out
              simp at h1; omega
            obtain ⟨c, S, ds, hexl, hds1, hdsd, hform⟩ := ex_parts HL.out.2.2.2.2.1 hne
            have HEX := Lib.hid hexl
            have HDD := Lib.hid hdsd
            obtain ⟨sl, hsl⟩ : ∃ sl, sl = S.length := ⟨_, rfl⟩
            obtain ⟨dl, hdl⟩ : ∃ dl, dl = ds.length := ⟨_, rfl⟩
            have HSL := Lib.hid (And.intro hsl hdl)
            have hsz2 : p + 1 + sl + dl = t.size := by
              have h1 := HL.out.2.2.2.2.2.2
              rw [hexl] at h1
              simp only [List.length_cons, List.length_append, ← hsl, ← hdl] at h1
              have := HLEN.out
              omega
            have HTL : Hid (∀ (j : Nat) (h : p + 1 + j < t.size), t[p + 1 + j] = (S ++ ds).getD j 0) := Lib.hid (fun j h => by
              rw [at_get]
              have h1 := HL.out.1
              rw [HEX.out] at h1
              have h2 := getD_tail h1 j
              have h3 : pre.length + body.length = p := by
                have h4 := congrArg List.length HL.out.1
                rw [List.length_append, List.length_append, ← HL.out.2.2.2.2.2.1] at h4
                have h5 := HLEN.out
                have h6 : t.data.toList.length = t.size := by rw [Array.length_toList]; rfl
                have h7 := HL.out.2.2.2.2.2.2
                have h8 := HL.out.2.2.2.2.2.1
                omega
              rw [h3] at h2
              exact h2)
            rw [← hdl] at hds1
            have HSZ := Lib.hid hsz2
            have hp1s : p + 1 < t.size := by omega
            have hp1 : ((p : Int) + 1) < (t.size : Int) := by omega
            clear hexl hdsd hsl hdl hne hpe hsz2
            have hlowe : Hid (low (t[p]).toNat = 101) := Lib.hid (by rcases he with h | h <;> rw [h] <;> decide)
            have o1 := or32 (t[p]).toNat (t[p]).toNat_lt
            rw [hlowe.out] at o1
            have o1' : bits .or .u8 ((t[p]).toNat : Int) 32 = 101 := o1
            have e95 : (((t[p]).toNat : Int) == 95) = false := by rw [beq_eq_false_iff_ne]; omega
            have e46 : (((t[p]).toNat : Int) == 46) = false := by rw [beq_eq_false_iff_ne]; omega
            have i57 : ¬ ((t[p]).toNat : Int) ≤ 57 := by omega
            have i48 : (48 : Int) ≤ ((t[p]).toNat : Int) := by omega
            have q1 : (0 : Int) ≤ (p : Int) + 1 := by omega
            clear o1
            obtain ⟨dq, hdq⟩ : ∃ dq : Int, dq = if dot then dp else (nd : Int) := ⟨_, rfl⟩
            have hdqb : -140737488355328 ≤ dq ∧ dq ≤ 140737488355328 := by rw [hdq]; split <;> omega
            have HDQ := Lib.hid hdq
            clear hdq
            go_upto_if 142 with (fail)
            go_cut [17] (fun v17 wx => v17 = .int .i64 dq ∧ w = wx)
            case first => as_aux_lemma =>
              have hdq := HDQ.out
              cases dot with
              | true =>
                have hdq' : dq = dp := by rw [hdq]; rfl
                clear hdq
                go_wp2_with (first | go_meet | fail)
                all_goals (rw [hdq'])
              | false =>
                have hdq' : dq = (nd : Int) := by rw [hdq]; rfl
                clear hdq
                go_wp2_with (first | go_meet | fail)
                all_goals (rw [hdq'])
            case rest => as_aux_lemma =>
              obtain ⟨rfl, rfl⟩ := hcut
              obtain ⟨dq0, dq1⟩ := hdqb
              go_upto_block 4 with (go_at_call 141; refine (lower_any _ _).mono ?_; rintro e w' ⟨rfl, rfl⟩)
              go_cut [7, 19] (fun v7 v19 wx => v7 = .int .i64 ((p + 1 + sl : Nat) : Int) ∧ (∃ sg : Int, v19 = .int .i64 sg ∧ (sg = 1 ∨ sg = -1) ∧ E = (ev ds : Int) * sg) ∧ w = wx)
              case first => as_aux_lemma =>
                have T0 := HTL.out 0 hp1s
                simp only [Nat.add_zero] at T0
                rcases hform with ⟨rfl, hE⟩ | ⟨rfl, hE⟩ | ⟨rfl, hE⟩
                · obtain rfl : sl = 0 := HSL.out.1
                  have hdg : 48 ≤ (t[p + 1]).toNat ∧ (t[p + 1]).toNat ≤ 57 := by
                    rw [T0, List.nil_append, List.getD_eq_getElem?_getD, List.getElem?_eq_getElem (by have := HSL.out.2; omega)]
                    exact HDD.out _ (List.getElem_mem _)
                  have f1 : (((t[p + 1]).toNat : Int) == 43) = false := by rw [beq_eq_false_iff_ne]; omega
                  have f2 : (((t[p + 1]).toNat : Int) == 45) = false := by rw [beq_eq_false_iff_ne]; omega
                  clear T0 hdg
                  go_wp2_with (first | go_meet | fail)
                  all_goals exact ⟨rfl, ⟨1, rfl, .inl rfl, by rw [hE]; omega⟩⟩
                · obtain rfl : sl = 1 := HSL.out.1
                  have f1 : (((t[p + 1]).toNat : Int) == 43) = true := by rw [T0]; rfl
                  clear T0
                  go_wp2_with (first | go_meet | fail)
                  all_goals exact ⟨congrArg (Value.int .i64) (by omega), ⟨1, rfl, .inl rfl, by rw [hE]; omega⟩⟩
                · obtain rfl : sl = 1 := HSL.out.1
                  have f1 : (((t[p + 1]).toNat : Int) == 43) = false := by rw [T0]; rfl
                  have f2 : (((t[p + 1]).toNat : Int) == 45) = true := by rw [T0]; rfl
                  clear T0
                  go_wp2_with (first | go_meet | fail)
                  all_goals exact ⟨congrArg (Value.int .i64) (by omega), ⟨-1, rfl, .inr rfl, by rw [hE]; omega⟩⟩
              case rest => as_aux_lemma =>
                obtain ⟨rfl, ⟨sg, rfl, hsg, hE⟩, rfl⟩ := hcut
                have HE := Lib.hid hE
                obtain ⟨q, hq⟩ : ∃ q, q = p + 1 + sl := ⟨_, rfl⟩
                rw [← hq]
                have HTQ : Hid (∀ (j : Nat) (h : q + j < t.size), t[q + j] = ds.getD j 0) := Lib.hid (fun j h => by
                  have e : q + j = p + 1 + (sl + j) := by omega
                  have h1 := HTL.out (sl + j) (by omega)
                  have h2 : t[q + j] = t[p + 1 + (sl + j)] := by congr 1
                  rw [h2, h1, List.getD_eq_getElem?_getD, List.getD_eq_getElem?_getD, List.getElem?_append_right (by rw [← HSL.out.1]; omega), ← HSL.out.1]
                  congr 2; omega)
                have HQS : Hid (q + dl = t.size) := Lib.hid (by rw [hq]; exact HSZ.out)
                have HDQQ : Hid (∀ (j : Nat) (h : j < t.size), q ≤ j → t[j] = ds.getD (j - q) 0 ∧ 48 ≤ (t[j]).toNat ∧ (t[j]).toNat ≤ 57) := Lib.hid (fun j h hj => by
                  obtain ⟨i, rfl⟩ : ∃ i, j = q + i := ⟨j - q, by omega⟩
                  have h1 := HTQ.out i h
                  have hi : i < ds.length := by have := HQS.out; rw [← HSL.out.2]; omega
                  rw [show q + i - q = i from by omega, h1]
                  refine ⟨rfl, ?_⟩
                  rw [List.getD_eq_getElem?_getD, List.getElem?_eq_getElem hi]
                  exact HDD.out _ (List.getElem_mem hi))
                have g1 : q < t.size := by have := HQS.out; omega
                have g2 : (q : Int) < (t.size : Int) := by omega
                have g34 := (HDQQ.out q g1 (Nat.le_refl _)).2
                obtain ⟨g3, g4⟩ := g34
                have g8 : ¬ t.size ≤ q := by omega
                have g5 : (48 : Int) ≤ ((t[q]).toNat : Int) := by omega
                have g6 : ((t[q]).toNat : Int) ≤ 57 := by omega
                have g7 : (0 : Int) ≤ (q : Int) := by omega
                clear hq hE hform e95 e46 i57 i48 o1' g3 g4 he
                go_wp2_with fail
                go_loop [7, 9, 20] (fun v7 v9 v20 => ∃ j : Nat, q ≤ j ∧ j ≤ t.size ∧ v7 = .int .i64 (j : Int) ∧ v9 = .bool false ∧ v20 = .int .i64 ((ev (ds.take (j - q)) : Nat) : Int)) (fun v7 _ _ => t.size - (intOf v7).toNat)
                case atStart => exact ⟨q, Nat.le_refl _, by omega, rfl, rfl, by rw [Nat.sub_self]; rfl⟩
                case round => as_aux_lemma =>
                  obtain ⟨j, hj0, hj1, rfl, rfl, rfl⟩ := hrel
                  have hev := ev_lt (ds.take (j - q))
                  obtain ⟨ee, hee⟩ : ∃ ee, ee = ev (ds.take (j - q)) := ⟨_, rfl⟩
                  rw [← hee] at hev ⊢
                  have HEE := Lib.hid hee
                  clear hee
                  have k0 : (0 : Int) ≤ (j : Int) := by omega
                  rcases Nat.lt_or_ge j t.size with hjs | hjs
                  · obtain ⟨h1, h2, h3⟩ := HDQQ.out j hjs hj0
                    have HSN : Hid (ev (ds.take (j + 1 - q)) = if ee < 10000 then ee * 10 + ((t[j]).toNat - 48) else ee) := Lib.hid (by
                      have hlt : j - q < ds.length := by have := HQS.out; rw [← HSL.out.2]; omega
                      have e : ds.take (j + 1 - q) = ds.take (j - q) ++ [t[j]] := by
                        rw [show j + 1 - q = (j - q) + 1 from by omega, List.take_succ_eq_append_getElem hlt, h1, List.getD_eq_getElem?_getD, List.getElem?_eq_getElem hlt]; rfl
                      rw [e, ev_snoc, ← HEE.out])
                    obtain ⟨c, hc⟩ : ∃ c, c = (t[j]).toNat := ⟨_, rfl⟩
                    have hci : (((t[j]).toNat : Nat) : Int) = (c : Int) := by rw [hc]
                    rw [← hc] at HSN h2 h3
                    have k1 : (j : Int) < (t.size : Int) := by omega
                    have k2 : (48 : Int) ≤ (c : Int) := by omega
                    have k3 : (c : Int) ≤ 57 := by omega
                    have k4 : ((c : Int) == 95) = false := by rw [beq_eq_false_iff_ne]; omega
                    have HMS : Hid (t.size - (j + 1) < t.size - j) := Lib.hid (by omega)
                    have HJ2 : Hid (q ≤ j + 1 ∧ j + 1 ≤ t.size) := Lib.hid ⟨by omega, by omega⟩
                    clear h1 hc g5 g6
                    by_cases hlt : ee < 10000
                    · rw [if_pos hlt] at HSN
                      have k5 : (ee : Int) < 10000 := by omega
                      have HV : Hid (Value.int .i64 ((ee : Int) * 10 + (c : Int) - 48) = Value.int .i64 ((ee * 10 + (c - 48) : Nat) : Int)) := Lib.hid (by congr 1; omega)
                      clear hlt
                      go_wp2_with fail
                      exact ⟨⟨j + 1, HJ2.out.1, HJ2.out.2, by go_num, rfl, by rw [HSN.out]; exact HV.out⟩, by simp [intOf]; exact HMS.out⟩
                    · rw [if_neg hlt] at HSN
                      have k5 : ¬ (ee : Int) < 10000 := by omega
                      clear hlt
                      go_wp2_with fail
                      exact ⟨⟨j + 1, HJ2.out.1, HJ2.out.2, by go_num, rfl, by rw [HSN.out]⟩, by simp [intOf]; exact HMS.out⟩
                  · have hjs' : j = t.size := by omega
                    have HV2 : Hid (ee = ev ds) := Lib.hid (by
                      rw [HEE.out, List.take_of_length_le]
                      have := HQS.out; rw [← HSL.out.2]; omega)
                    have k1 : ¬ (j : Int) < (t.size : Int) := by omega
                    have hps : Hid ((j : Int) = (t.size : Int)) := Lib.hid (by omega)
                    clear hjs' hjs g5 g6
                    have HSG := Lib.hid hsg
                    by_cases hm : mant = 0
                    · have hm1 : ((mant : Int) != 0) = false := by rw [hm]; rfl
                      have HM := Lib.hid hm
                      clear hm
                      rcases hsg with rfl | rfl
                      all_goals
                        go_wp2_with fail
                        refine bodyPost_ret (v := .tuple #[.int .u64 (mant : Int), .int .i64 0, .bool ng, .bool tr, .bool false, .int .i64 (j : Int), .bool true]) (by simp [results, Tryz.results201, go_sem]) rfl ⟨?_, rfl⟩
                        rw [← HB.out, hps.out]
                        unfold RFv RF.pow
                        simp only
                        rw [if_pos HM.out]
                    · have hm1 : ((mant : Int) != 0) = true := by rw [bne_iff_ne]; omega
                      have HM := Lib.hid hm
                      clear hm
                      rcases hsg with rfl | rfl
                      · go_wp2_with fail
                        refine bodyPost_ret (v := .tuple #[.int .u64 (mant : Int), .int .i64 (dq + (ee : Int) - (ndm : Int)), .bool ng, .bool tr, .bool false, .int .i64 (j : Int), .bool true]) (by simp [results, Tryz.results201, go_sem]) rfl ⟨?_, rfl⟩
                        rw [← HB.out, hps.out, HE.out, HDQ.out, HV2.out]
                        unfold RFv RF.pow
                        simp only
                        rw [if_neg HM.out, Int.mul_one]
                      · go_wp2_with fail
                        refine bodyPost_ret (v := .tuple #[.int .u64 (mant : Int), .int .i64 (dq + (ee : Int) * -1 - (ndm : Int)), .bool ng, .bool tr, .bool false, .int .i64 (j : Int), .bool true]) (by simp [results, Tryz.results201, go_sem]) rfl ⟨?_, rfl⟩
                        rw [← HB.out, hps.out, HE.out, HDQ.out, HV2.out]
                        unfold RFv RF.pow
                        simp only
                        rw [if_neg HM.out]
        · as_aux_lemma =>
          -- the end
          have hpe : p = i0 + n := by omega
          have hx0 : x = 0 := by have := HLEN.out; omega
          have HB : Hid ((⟨mant, nd, ndm, dp, dot, dig, tr⟩ : RF) = rf body) := Lib.hid (by
            rw [HS.out, List.take_of_length_le]
            rw [← HL.out.2.2.2.2.2.1]; omega)
          have HE : Hid (E = 0) := Lib.hid (by
            have h1 := HL.out.2.2.2.2.1
            have h2 : ex = [] := List.eq_nil_of_length_eq_zero (by rw [← HL.out.2.2.2.2.2.2]; exact hx0)
            rw [h2] at h1
            cases h1
            rfl)
          obtain rfl : dig = true := by have := HL.out.2.2.1; rw [← HB.out] at this; exact this
          have hpt' : ¬ (p : Int) < (t.size : Int) := by omega
          have hps : Hid ((p : Int) = (t.size : Int)) := Lib.hid (by have := HLEN.out; omega)
          clear hpe hx0 hpt
          by_cases hm : mant = 0
          · as_aux_lemma =>
            have hm1 : ((mant : Int) != 0) = false := by rw [hm]; rfl
            have HM := Lib.hid hm
            clear hm
            cases dot with
            | true => as_aux_lemma =>
              go_wp2_with fail
              refine bodyPost_ret (v := .tuple #[.int .u64 (mant : Int), .int .i64 0, .bool ng, .bool tr, .bool false, .int .i64 (p : Int), .bool true]) (by simp [results, Tryz.results201, go_sem]) rfl ⟨?_, rfl⟩
              rw [← HB.out, hps.out]
              unfold RFv RF.pow
              simp only
              rw [if_pos HM.out]
            | false => as_aux_lemma =>
              go_wp2_with fail
              refine bodyPost_ret (v := .tuple #[.int .u64 (mant : Int), .int .i64 0, .bool ng, .bool tr, .bool false, .int .i64 (p : Int), .bool true]) (by simp [results, Tryz.results201, go_sem]) rfl ⟨?_, rfl⟩
              rw [← HB.out, hps.out]
              unfold RFv RF.pow
              simp only
              rw [if_pos HM.out]
          · as_aux_lemma =>
            have hm1 : ((mant : Int) != 0) = true := by rw [bne_iff_ne]; omega
            have HM := Lib.hid hm
            clear hm
            cases dot with
            | true => as_aux_lemma =>
              go_wp2_with fail
              refine bodyPost_ret (v := .tuple #[.int .u64 (mant : Int), .int .i64 (dp - (ndm : Int)), .bool ng, .bool tr, .bool false, .int .i64 (p : Int), .bool true]) (by simp [results, Tryz.results201, go_sem]) rfl ⟨?_, rfl⟩
              rw [← HB.out, hps.out, HE.out]
              unfold RFv RF.pow
              simp only
              rw [if_neg HM.out]
              simp
            | false => as_aux_lemma =>
              go_wp2_with fail
              refine bodyPost_ret (v := .tuple #[.int .u64 (mant : Int), .int .i64 ((nd : Int) - (ndm : Int)), .bool ng, .bool tr, .bool false, .int .i64 (p : Int), .bool true]) (by simp [results, Tryz.results201, go_sem]) rfl ⟨?_, rfl⟩
              rw [← HB.out, hps.out, HE.out]
              unfold RFv RF.pow
              simp only
              rw [if_neg HM.out]
              simp

end Go.Proofs.YtpneioocmpagmaaGreatDoor.fl

