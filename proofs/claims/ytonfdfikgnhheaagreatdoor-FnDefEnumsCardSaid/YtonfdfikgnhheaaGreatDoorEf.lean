/- The printed functions that laws.FnDefEnums calls: what they come to. -/
import Derived.Test.YtonfdfikgnhheaaGreatDoorPFnDefEnumsx2
import Derived.Test.YtonfdfikgnhheaaGreatDoorPFnDefEnumsx3
import Derived.Test.YtonfdfikgnhheaaGreatDoorPFnDefEnumsx5
import Derived.Test.YtonfdfikgnhheaaGreatDoorPFnDefEnumsx6
import Derived.Test.YtonfdfikgnhheaaGreatDoorEe
import Derived.Lib.ItoaLen
namespace Go.Proofs.YtonfdfikgnhheaaGreatDoor.enums
open Go.RowKit Go.Proofs.YtonfdfikgnhheaaGreatDoor.PFnDefEnums Go.Proofs.YtonfdfikgnhheaaGreatDoorW.PrintWords Go.Proofs.YtonfdfikgnhheaaGreatDoorW.PrintLast Go.Proofs.YtonfdfikgnhheaaGreatDoorW.PrintMore
set_option linter.unusedVariables false
set_option linter.unusedSimpArgs false

theorem w64 {i : Int} (h0 : 0 ≤ i) (h1 : i ≤ 9223372036854775000) : wrap64 (i + 1) = i + 1 := by unfold wrap64; omega

theorem fits_l0 (l : List ByteArray) (hl : l.length ≤ 9223372036854770000) : ∀ (d k : Nat) (i : Int), 0 ≤ i → i ≤ l.length → (l.length : Int) - i = d → d < k → ∃ b, laws_zzFits3.l0 k l (l.length : Int) i = some b := by
  intro d
  induction d with
  | zero =>
    intro k i h0 h1 hd hk
    obtain ⟨k, rfl⟩ : ∃ m, k = m + 1 := ⟨k - 1, by omega⟩
    exact ⟨true, by simp only [laws_zzFits3.l0]; rw [if_neg (by omega)]⟩
  | succ d ih =>
    intro k i h0 h1 hd hk
    obtain ⟨k, rfl⟩ : ∃ m, k = m + 1 := ⟨k - 1, by omega⟩
    simp only [laws_zzFits3.l0]
    rw [if_pos (by omega), if_pos h0, if_pos (by omega)]
    by_cases h : ((rdOf ByteArray.empty l i).size : Int) > 2147483647
    · exact ⟨false, by rw [if_pos h]⟩
    · rw [if_neg h, w64 h0 (by omega)]
      exact ih k (i + 1) (by omega) (by omega) (by omega) (by omega)

theorem fits_any (l : List ByteArray) (hl : l.length ≤ 9223372036854770000) : ∃ k b, laws_zzFits3.f k l = some b := by
  unfold laws_zzFits3.f
  by_cases h : (l.length : Int) > 2147483647
  · exact ⟨0, false, by rw [if_pos h]⟩
  · obtain ⟨b, hb⟩ := fits_l0 l hl l.length (l.length + 1) 0 (by omega) (by omega) (by omega) (by omega)
    exact ⟨l.length + 1, b, by rw [if_neg h]; exact hb⟩

theorem letter_any (c : Int) : ∃ b, laws_letter.f c = some b := by
  unfold laws_letter.f
  repeat' split
  all_goals exact ⟨_, rfl⟩

theorem extract_one (s : ByteArray) (i : Int) (h0 : 0 ≤ i) (h1 : i < s.size) : (s.extract i.toNat (i + 1).toNat).size = 1 := by
  rw [ByteArray.size_extract]; omega

theorem ident_l0 (s : ByteArray) (hs : s.size ≤ 1000) : ∀ (d k : Nat) (i : Int) (o : ByteArray), 0 ≤ i → i ≤ s.size → (s.size : Int) - i = d → d < k → o.size ≤ 1 + i → ∃ r, laws_ident.l0 k s o i = some r := by
  intro d
  induction d with
  | zero =>
    intro k i o h0 h1 hd hk ho
    obtain ⟨k, rfl⟩ : ∃ m, k = m + 1 := ⟨k - 1, by omega⟩
    exact ⟨o, by simp only [laws_ident.l0]; rw [if_neg (by omega)]⟩
  | succ d ih =>
    intro k i o h0 h1 hd hk ho
    obtain ⟨k, rfl⟩ : ∃ m, k = m + 1 := ⟨k - 1, by omega⟩
    have hlt : i < (s.size : Int) := by omega
    obtain ⟨b, hb⟩ := letter_any (bt s i)
    have hx := extract_one s i h0 hlt
    simp only [laws_ident.l0]
    rw [if_pos hlt, if_pos h0, hb]
    simp only [Option.bind_some]
    rw [w64 h0 (by omega)]
    have hadd : (o ++ s.extract i.toNat (i + 1).toNat).size ≤ 1 + (i + 1) := by rw [ByteArray.size_append, hx]; omega
    cases b with
    | true =>
      rw [if_pos rfl, if_pos (by omega), if_pos (by omega), if_pos (by omega)]
      exact ih k (i + 1) _ (by omega) (by omega) (by omega) (by omega) hadd
    | false =>
      rw [if_neg (by simp)]
      by_cases h48 : bt s i ≥ 48
      · rw [if_pos h48]
        by_cases h57 : bt s i ≤ 57
        · rw [if_pos h57, if_pos (by omega), if_pos (by omega), if_pos (by omega)]
          exact ih k (i + 1) _ (by omega) (by omega) (by omega) (by omega) hadd
        · rw [if_neg h57]
          exact ih k (i + 1) o (by omega) (by omega) (by omega) (by omega) (by omega)
      · rw [if_neg h48]
        exact ih k (i + 1) o (by omega) (by omega) (by omega) (by omega) (by omega)

theorem ident_any (s : ByteArray) (hs : s.size ≤ 1000) : ∃ k r, laws_ident.f k s = some r := by
  obtain ⟨r, hr⟩ := ident_l0 s hs s.size (s.size + 1) 0 (⟨#[110]⟩ : ByteArray) (by omega) (by omega) (by omega) (by omega) (by decide)
  exact ⟨_, r, hr⟩

theorem str_one (n : Nat) : strOfNums [(n : Int)] = ⟨#[UInt8.ofNat n]⟩ := by simp [strOfNums]

theorem digits_plain : ∀ (k u : Nat), u < 10 ^ (k + 1) → u < 18446744073709551616 → laws_digits.f (k + 1) (u : Int) = some ⟨(Lib.decDigits u).toArray⟩ := by
  intro k
  induction k with
  | zero =>
    intro u h _
    have h10 : u < 10 := by omega
    simp only [laws_digits.f]
    rw [if_pos (by omega), Lib.decDigits_one h10, show (IntKind.u64.wrap (48 + (u : Int))) % 256 = ((48 + u : Nat) : Int) from by rw [IntKind.wrap_u64]; omega, str_one]
  | succ k ih =>
    intro u h h64
    by_cases h10 : u < 10
    · simp only [laws_digits.f]
      rw [if_pos (by omega), Lib.decDigits_one h10, show (IntKind.u64.wrap (48 + (u : Int))) % 256 = ((48 + u : Nat) : Int) from by rw [IntKind.wrap_u64]; omega, str_one]
    · rw [show laws_digits.f (k + 1 + 1) (u : Int) = _ from rfl]
      simp only [laws_digits.f]
      rw [if_neg (by omega), show IntKind.u64.wrap (Int.tdiv (u : Int) 10) = ((u / 10 : Nat) : Int) from by rw [IntKind.wrap_u64, Int.tdiv_eq_ediv_of_nonneg (by omega)]; omega]
      rw [show (if ((u / 10 : Nat) : Int) < 10 then _ else _) = laws_digits.f (k + 1) ((u / 10 : Nat) : Int) from rfl, ih (u / 10) (by omega) (by omega)]
      simp only [Option.bind_some]
      rw [Int.tmod_eq_emod_of_nonneg (by omega), show (IntKind.u64.wrap (48 + (u : Int) % 10)) % 256 = ((48 + u % 10 : Nat) : Int) from by rw [IntKind.wrap_u64]; omega, str_one]
      have hlen : (Lib.decDigits (u / 10)).length ≤ 20 := by
        rw [Lib.decDigits_length]; exact Lib.nDigits_le20 _ (by omega)
      rw [if_pos (by simp [ByteArray.size]; omega)]
      rw [show Lib.decDigits u = Lib.decDigits (u / 10) ++ [UInt8.ofNat (48 + u % 10)] from by rw [Lib.decDigits, dif_neg h10]]
      congr 1

theorem pow20 (u : Nat) (h : u < 18446744073709551616) : u < 10 ^ (19 + 1) := by
  have : (18446744073709551616 : Nat) ≤ 10 ^ (19 + 1) := by decide
  omega

theorem signed_plain (n : Int) (h0 : -9223372036854775808 ≤ n) (h1 : n ≤ 9223372036854775807) : laws_signed.f 20 n = some ⟨(Lib.itoa n).toArray⟩ := by
  unfold laws_signed.f Lib.itoa
  by_cases hn : n < 0
  · rw [if_pos hn, if_pos hn]
    rw [show IntKind.u64.wrap (-(IntKind.u64.wrap n)) = ((n.natAbs : Nat) : Int) from by rw [IntKind.wrap_u64, IntKind.wrap_u64]; omega]
    rw [digits_plain 19 n.natAbs (pow20 _ (by omega)) (by omega)]
    simp only [Option.bind_some]
    have hlen : (Lib.decDigits n.natAbs).length ≤ 20 := by
      rw [Lib.decDigits_length]; exact Lib.nDigits_le20 _ (by omega)
    rw [if_pos (by simp [ByteArray.size]; omega)]
    congr 1
  · rw [if_neg hn, if_neg hn]
    rw [show IntKind.u64.wrap n = ((n.toNat : Nat) : Int) from by rw [IntKind.wrap_u64]; omega]
    rw [digits_plain 19 n.toNat (pow20 _ (by omega)) (by omega)]
    rfl

/-- The pairs of names and numbers. -/
def pairs (l : List ByteArray) (zs : List Int) : List (ByteArray × Int) := l.zip zs

theorem enum_l0 (l : List ByteArray) (zs : List Int) (he : zs.length = l.length) (hl : l.length ≤ 1000) : ∀ (d k i : Nat) (r : List S104), i ≤ l.length → l.length - i = d → d < k → r.length = i →
    impl_enum.l0 k l zs r (i : Int) = some (r ++ ((pairs l zs).drop i).map fun x => ⟨x.1, x.2⟩) := by
  intro d
  induction d with
  | zero =>
    intro k i r h1 hd hk hr
    obtain ⟨k, rfl⟩ : ∃ m, k = m + 1 := ⟨k - 1, by omega⟩
    simp only [impl_enum.l0]
    rw [if_neg (by omega)]
    have : (pairs l zs).length ≤ i := by unfold pairs; simp; omega
    rw [List.drop_eq_nil_of_le this]
    simp
  | succ d ih =>
    intro k i r h1 hd hk hr
    obtain ⟨k, rfl⟩ : ∃ m, k = m + 1 := ⟨k - 1, by omega⟩
    simp only [impl_enum.l0]
    rw [if_pos (by omega), if_pos (by omega), if_pos (by omega), if_pos (by omega), w64 (by omega) (by omega)]
    rw [show (i : Int) + 1 = ((i + 1 : Nat) : Int) from by omega, ih k (i + 1) _ (by omega) (by omega) (by omega) (by simp; omega)]
    have hlt : i < (pairs l zs).length := by unfold pairs; simp; omega
    rw [List.drop_eq_getElem_cons hlt]
    have e1 : rdOf ByteArray.empty l (i : Int) = l[i]'(by omega) := by
      unfold rdOf
      rw [Int.toNat_natCast, List.getD_eq_getElem?_getD, List.getElem?_eq_getElem (by omega)]; rfl
    have e2 : rd zs (i : Int) = zs[i]'(by omega) := by
      unfold rd
      rw [Int.toNat_natCast, List.getD_eq_getElem?_getD, List.getElem?_eq_getElem (by omega)]; rfl
    rw [e1, e2]
    simp [pairs]

theorem enum_plain (l : List ByteArray) (zs : List Int) (he : zs.length = l.length) (hl : l.length ≤ 1000) : impl_enum.f (l.length + 1) l zs = some ((pairs l zs).map fun x => ⟨x.1, x.2⟩) := by
  unfold impl_enum.f
  have := enum_l0 l zs he hl l.length (l.length + 1) 0 [] (by omega) (by omega) (by omega) rfl
  simpa using this

/-- A row of strings that is read. -/
def Strs (w : World) (A : Option Addr) (l : List ByteArray) : Prop := Kd.C Kd.string w A l.length l
def I32s (w : World) (A : Option Addr) (zs : List Int) : Prop := Kd.C (Kd.int .i32) w A zs.length zs

theorem enum_made (A0 : Option Addr) (c0 : Nat) (l : List ByteArray) (A1 : Option Addr) (c1 : Nat) (zs : List Int) (he : zs.length = l.length) (hl : l.length ≤ 1000) (hpos : 0 < l.length) (w : World) (h0 : Strs w A0 l) (hc0 : l.length ≤ c0) (h1 : I32s w A1 zs) (hc1 : zs.length ≤ c1) :
    Calls Tryz.prog 43 #[.slice A0 l.length c0, .slice A1 zs.length c1] w fun e w' => ∃ v, e = .returned v ∧ MadeE w w' v (pairs l zs) := by
  refine (impl_enum.calls (l.length + 1) A0 c0 l A1 c1 zs _ w h0 hc0 h1 hc1 (enum_plain l zs he hl)).mono fun e w' ⟨v, hv, hR, hb⟩ => ⟨v, hv, ?_⟩
  obtain ⟨A, c, rfl, hle, hC⟩ := Kd.R_reads hR
  have hlen : ((pairs l zs).map fun x => (⟨x.1, x.2⟩ : S104)).length = (pairs l zs).length := List.length_map _
  have hpl : (pairs l zs).length = l.length := by unfold pairs; simp; omega
  rw [hlen] at hC hR hle ⊢
  obtain ⟨ad, hA, hc1, _⟩ := at_T104 hC 0 (by omega) (by omega)
  subst hA
  obtain ⟨g, rfl⟩ := Kd.R_head hR
  refine ⟨g, c, rfl, ⟨?_, fun j x hj => ?_⟩, hb⟩
  · have := World.block_lt_of_cell? w' _ (by rw [hc1])
    rw [add_plain] at this
    exact this
  · have hjl : j < (pairs l zs).length := (List.getElem?_eq_some_iff.1 hj).1
    obtain ⟨ad, hA, h1, h2⟩ := at_T104 hC (j : Int) (by omega) (by omega)
    injection hA with hA
    subst hA
    rw [Int.toNat_natCast, add_plain] at h1 h2
    have e : rd_T104 ((pairs l zs).map fun x => (⟨x.1, x.2⟩ : S104)) (j : Int) = ⟨x.1, x.2⟩ := by
      unfold rd_T104
      rw [Int.toNat_natCast, List.getD_eq_getElem?_getD, List.getElem?_map, hj]; rfl
    rw [e] at h1 h2
    exact ⟨h1, h2⟩

theorem strs_mk {w : World} {a : Addr} {l : List ByteArray} (hm : l.length ≤ 9223372036854775807) (hc : ∀ j (hj : j < l.length), w.cell? (a.add j) = some (.string l[j])) : Strs w (some a) l :=
  ⟨rfl, hm, fun _ => ⟨a, rfl, fun j p hj => ⟨[.string p], rfl, rfl, fun i u hu => by
    have hi : i = 0 := by
      have := (List.getElem?_eq_some_iff.1 hu).1
      simpa using this
    subst hi
    obtain ⟨hjl, he⟩ := List.getElem?_eq_some_iff.1 hj
    have hu' : Value.string p = u := by simpa using hu
    rw [← hu', ← he]
    have := hc j hjl
    simpa [Kd.string, Kd.scalar] using this⟩⟩⟩

theorem strs_nil (w : World) : Strs w none [] := ⟨rfl, by simp, fun h => absurd h (by simp)⟩

theorem strs_at {w : World} {A : Option Addr} {l : List ByteArray} (h : Strs w A l) (j : Nat) (hj : j < l.length) : ∃ a, A = some a ∧ w.cell? (a.add j) = some (.string l[j]) := by
  obtain ⟨ad, hA, hc⟩ := h.2.2 (by omega)
  obtain ⟨c, hs, hr, hcell⟩ := hc j _ (List.getElem?_eq_getElem hj)
  refine ⟨ad, hA, ?_⟩
  have hk : c = [.string l[j]] := hr
  subst hk
  have := hcell 0 _ rfl
  simpa [Kd.string, Kd.scalar] using this

theorem i32s_mk {w : World} {a : Addr} {l : List Int} (hm : l.length ≤ 9223372036854775807) (hc : ∀ j (hj : j < l.length), w.cell? (a.add j) = some (.int .i32 l[j])) : I32s w (some a) l :=
  ⟨rfl, hm, fun _ => ⟨a, rfl, fun j p hj => ⟨[.int .i32 p], rfl, rfl, fun i u hu => by
    have hi : i = 0 := by
      have := (List.getElem?_eq_some_iff.1 hu).1
      simpa using this
    subst hi
    obtain ⟨hjl, he⟩ := List.getElem?_eq_some_iff.1 hj
    have hu' : Value.int .i32 p = u := by simpa using hu
    rw [← hu', ← he]
    have := hc j hjl
    simpa [Kd.int, Kd.scalar] using this⟩⟩⟩

theorem i32s_nil (w : World) : I32s w none [] := ⟨rfl, by simp, fun h => absurd h (by simp)⟩

theorem i32s_at {w : World} {A : Option Addr} {l : List Int} (h : I32s w A l) (j : Nat) (hj : j < l.length) : ∃ a, A = some a ∧ w.cell? (a.add j) = some (.int .i32 l[j]) := by
  obtain ⟨ad, hA, hc⟩ := h.2.2 (by omega)
  obtain ⟨c, hs, hr, hcell⟩ := hc j _ (List.getElem?_eq_getElem hj)
  refine ⟨ad, hA, ?_⟩
  have hk : c = [.int .i32 l[j]] := hr
  subst hk
  have := hcell 0 _ rfl
  simpa [Kd.int, Kd.scalar] using this

theorem strs_below {w w' : World} {A : Option Addr} {l : List ByteArray} (h : Strs w A l) (hb : Below w.heap.size w w') : Strs w' A l := Kd.C_below h hb
theorem i32s_below {w w' : World} {A : Option Addr} {l : List Int} (h : I32s w A l) (hb : Below w.heap.size w w') : I32s w' A l := Kd.C_below h hb

/-- A row of strings of the call's own. -/
def OwnS (w : World) (B : Nat) (v : Value) (l : List ByteArray) : Prop := w.ownsRow B 9 1 v l.length (l.map Value.string)

theorem ownS_strs {w : World} {B : Nat} {v : Value} {l : List ByteArray} (h : OwnS w B v l) (hn : 0 < l.length) : ∃ g c, v = .slice (some ⟨g, 0, none⟩) l.length c ∧ l.length ≤ c ∧ B ≤ g ∧ g < w.heap.size ∧ Strs w (some ⟨g, 0, none⟩) l := by
  have hh := h
  rcases h.2 with ⟨_, h0⟩ | ⟨g, cap, cur, rfl, hg, hb, hnc, hm, _⟩
  · have : l = [] := by simpa using h0
    subst this; simp at hn
  · refine ⟨g, cap, rfl, hnc, hg, (Array.getElem?_eq_some_iff.1 hb).1, strs_mk (by unfold maxLen at hm; omega) fun j hj => ?_⟩
    exact World.ownsRow.cells (g := g) hh rfl j _ (by rw [List.getElem?_map, List.getElem?_eq_getElem hj]; rfl)

end Go.Proofs.YtonfdfikgnhheaaGreatDoor.enums
