/- laws.FnTextJoined. -/
import Derived.Test.YtpneioocmpagmaaGreatDoorQj
import Derived.Test.YtpneioocmpagmaaGreatDoorQk
import Derived.Test.YtpneioocmpagmaaGreatDoorQd
namespace Go.Proofs.YtpneioocmpagmaaGreatDoor.tx
open Go.RowKit
set_option linter.unusedVariables false
set_option linter.unusedSimpArgs false

/-- A list of strings, wherever it lies. -/
def Strs (w : World) (A : Option Addr) (l : List ByteArray) : Prop := ∀ (j : Nat) x, l[j]? = some x → ∃ a, A = some a ∧ w.cell? (a.add j) = some (.string x)

/-- A list of bytes, wherever it lies. -/
def U8s (w : World) (A : Option Addr) (l : List Int) : Prop := ∀ (j : Nat) x, l[j]? = some x → ∃ a, A = some a ∧ w.cell? (a.add j) = some (.int .u8 x)

theorem add_block (a : Addr) (j : Nat) : (a.add j).block = a.block := by unfold Addr.add; split <;> rfl

theorem Strs.below {w w' : World} {A : Option Addr} {l : List ByteArray} (h : Strs w A l) (hb : Below w.heap.size w w') : Strs w' A l := fun j x hj => by
  obtain ⟨a, e, hc⟩ := h j x hj
  exact ⟨a, e, (hb.cell (cell_lt hc)).trans hc⟩

theorem U8s.below {w w' : World} {A : Option Addr} {l : List Int} (h : U8s w A l) (hb : Below w.heap.size w w') : U8s w' A l := fun j x hj => by
  obtain ⟨a, e, hc⟩ := h j x hj
  exact ⟨a, e, (hb.cell (cell_lt hc)).trans hc⟩

theorem Strs.addr {w : World} {A : Option Addr} {l : List ByteArray} (h : Strs w A l) {j : Nat} (hj : j < l.length) : ∃ a, A = some a ∧ ∀ k (hk : k < l.length), w.cell? (a.add k) = some (.string l[k]) := by
  obtain ⟨a, e, _⟩ := h j l[j] (List.getElem?_eq_getElem hj)
  refine ⟨a, e, fun k hk => ?_⟩
  obtain ⟨a', e', hc⟩ := h k l[k] (List.getElem?_eq_getElem hk)
  obtain rfl : a = a' := by rw [e] at e'; exact Option.some.inj e'
  exact hc

def SomeB (w : World) (e : Ending) (w' : World) : Prop := (∃ b, e = .returned (.bool b)) ∧ w = w'

set_option maxHeartbeats 4000000 in
set_option maxRecDepth 100000 in
theorem fits_any (A : Option Addr) (l : List ByteArray) (c : Nat) (hl : l.length ≤ 9223372036854770000) (w : World) (h : Strs w A l) :
    Calls Tryz.prog 18 #[.slice A l.length c] w fun e w' => SomeB w e w' := by
  have HS := Lib.hid h
  clear h
  go_enter Tryz.func18, Tryz.ntmps18
  by_cases h0 : (2147483647 : Int) < l.length
  · go_wp2_with fail
    go_ret
    exact ⟨⟨_, rfl⟩, rfl⟩
  · go_wp2_with fail
    go_loop [10] (fun v => ∃ k : Nat, v = .int .i64 k ∧ k ≤ l.length) (fun v => l.length - (intOf v).toNat)
    case atStart => exact ⟨0, rfl, Nat.zero_le _⟩
    case round =>
      obtain ⟨k, rfl, hk⟩ := hrel
      by_cases hkn : k < l.length
      · obtain ⟨a, rfl, hcell⟩ := HS.out.addr hkn
        have hc := hcell k hkn
        obtain ⟨x, hx⟩ : ∃ x, x = l[k] := ⟨_, rfl⟩
        rw [← hx] at hc
        have hki : (k : Int) < (l.length : Int) := by omega
        clear hcell hx
        by_cases hxs : (2147483647 : Int) < (x.size : Int)
        · go_wp2_with fail
          go_ret
          exact ⟨⟨_, rfl⟩, rfl⟩
        · go_wp2_with fail
          go_round
          case rel => exact ⟨k + 1, by go_num, by omega⟩
          case measure => simp [intOf]; omega
      · go_wp2_with fail
        go_ret
        exact ⟨⟨_, rfl⟩, rfl⟩

/-- Bytes out of a string. -/
theorem conv_bytes' (l : List UInt8) (W : World) : ∃ c C fr, (convert 9 25 (.string ⟨l.toArray⟩)).run Tryz.prog W = .ok (.slice (some ⟨W.heap.size, 0, none⟩) l.length c) (W.drew.alloc (.cells C 5 fr)) ∧ ∀ j u, (l.map bb)[j]? = some u → (W.drew.alloc (.cells C 5 fr)).cell? ((⟨W.heap.size, 0, none⟩ : Addr).add j) = some u := by
  have CV := run_bytes_of_string (P := Tryz.prog) W 9 25 5 ⟨l.toArray⟩ Tryz.underlying9 Tryz.underlying25 Tryz.underlying5
  have hs : (⟨l.toArray⟩ : ByteArray).size = l.length := by show l.toArray.size = _; simp
  rw [hs] at CV
  refine ⟨_, _, _, CV, fun j u hj => ?_⟩
  have hj' : j < l.length := by
    have := (List.getElem?_eq_some_iff.1 hj).1
    simpa using this
  rw [add_pos, Nat.zero_add, cell_of_row (W.drew.alloc _) W.heap.size j _ 5 _ (heap_alloc_new W.drew _)]
  rw [bytesRow_at _ _ j (by show j < l.toArray.size; simpa using hj'), ← hj, List.getElem?_map, List.getElem?_eq_getElem hj']
  simp [bb]

/-- What stands between rounds. -/
structure LRel (w : World) (k : Nat) (s a : ByteArray) (os : List (List UInt8)) (wr : World) : Prop where
  bl : Bl s.data.toList os
  len : os.length = k
  all : a = strOf os.flatten
  ssz : s.size ≤ 6013 * k
  asz : a.size ≤ 1000 * k
  bel : Below w.heap.size w wr

theorem lrel_step {w : World} {k : Nat} {s a : ByteArray} {os : List (List UInt8)} {wr w' : World} (h : LRel w k s a os wr) (x bl : ByteArray) (g : List UInt8) (hx : x.size ≤ 1000) (hb : Blank bl.data.toList) (hg : Tenc g x.data.toList) (hgl : g.length ≤ 6 * x.data.toList.length) (hw : Below w.heap.size w w') :
    LRel w (k + 1) (s ++ bl ++ ⟨(34 :: g ++ [34]).toArray⟩) (a ++ x) (os ++ [x.data.toList]) w' := by
  have hbs : bl.size ≤ 11 := by
    rw [tsize_list]
    rcases hb with h | h | h | h | h <;> rw [h] <;> simp
  have hxs := tsize_list x
  have e1 : (⟨(34 :: g ++ [34]).toArray⟩ : ByteArray).data.toList = 34 :: g ++ [34] := by simp
  have e2 : (⟨(34 :: g ++ [34]).toArray⟩ : ByteArray).size = g.length + 2 := by rw [tsize_list, e1]; simp
  refine ⟨?_, by simp [h.len], ?_, ?_, ?_, hw⟩
  · have := bl_snoc h.bl hb hg
    have e : (s ++ bl ++ ⟨(34 :: g ++ [34]).toArray⟩ : ByteArray).data.toList = s.data.toList ++ (bl.data.toList ++ (34 :: g ++ [34])) := by simp [ByteArray.data_append]
    rw [e]; exact this
  · rw [h.all]
    apply ByteArray.ext
    simp [strOf, ByteArray.data_append]
  · have := h.ssz
    rw [ByteArray.size_append, ByteArray.size_append, e2]; omega
  · have := h.asz
    rw [ByteArray.size_append]; omega

set_option maxHeartbeats 40000000 in
set_option maxRecDepth 100000 in
theorem joined_walk (A0 A1 : Option Addr) (l : List ByteArray) (zs : List Int) (c0 c1 : Nat) (hl : l.length ≤ 9223372036854770000) (w : World) (h0 : Strs w A0 l) (h1 : U8s w A1 zs) (hzr : ∀ z ∈ zs, 0 ≤ z ∧ z < 256)
    (EB : ∀ w', Below w.heap.size w w' → EncEnv w' ∧ DecEnv w') :
    Calls Tryz.prog 8 #[.slice A0 l.length c0, .slice A1 zs.length c1] w fun e w' => e = .returned (.bool true) ∧ Below w.heap.size w w' := by
  have HF := Lib.hid (fits_any A0 l c0 hl w h0)
  have H0 := Lib.hid h0
  have H1 := Lib.hid h1
  have HZ := Lib.hid hzr
  have HE := Lib.hid EB
  clear h0 h1 hzr EB
  go_enter Tryz.func8, Tryz.ntmps8
  go_wp2_with fail
  refine HF.out.mono ?_
  rintro e w' ⟨⟨fb, rfl⟩, rfl⟩
  clear HF
  cases fb
  case false =>
    go_wp2_with fail
    go_ret
    exact ⟨rfl, Below.refl _ _⟩
  case true =>
    by_cases hz : (2147483647 : Int) < (zs.length : Int)
    · go_wp2_with fail
      go_ret
      exact ⟨rfl, Below.refl _ _⟩
    by_cases hn : l.length = 0
    · have hn0 : ((l.length : Int) == 0) = true := by simp [hn]
      go_wp2_with fail
      go_ret
      exact ⟨rfl, Below.refl _ _⟩
    by_cases hn2 : (20 : Int) < (l.length : Int)
    · have hn0 : ((l.length : Int) == 0) = false := by simp [hn]
      go_wp2_with fail
      go_ret
      exact ⟨rfl, Below.refl _ _⟩
    have hn0 : ((l.length : Int) == 0) = false := by simp [hn]
    obtain ⟨a, rfl, hcell⟩ := H0.out.addr (j := 0) (by omega)
    have HC := Lib.hid hcell
    have hl20 : l.length ≤ 20 := by omega
    clear hcell
    go_wp2_with fail
    go_loopw [5, 6, 30] (fun v5 v6 v30 wr => ∃ (k : Nat) (s al : ByteArray) (os : List (List UInt8)), v30 = .int .i64 k ∧ k ≤ l.length ∧ v5 = .string s ∧ v6 = .string al ∧ LRel w k s al os wr) (fun _ _ v30 _ => l.length - (intOf v30).toNat)
    case atStart => exact ⟨0, ⟨#[]⟩, ⟨#[]⟩, [], rfl, Nat.zero_le _, rfl, rfl, .nil, rfl, rfl, Nat.le_refl _, Nat.le_refl _, Below.refl _ _⟩
    case round =>
      obtain ⟨k, s, al, os, rfl, hk, rfl, rfl, hrel⟩ := hrel
      have HR := Lib.hid hrel
      have hss : s.size ≤ 6013 * k := hrel.ssz
      have has : al.size ≤ 1000 * k := hrel.asz
      have hwr : w.heap.size ≤ wr.heap.size := hrel.bel.size
      by_cases hkn : k < l.length
      · have hc : wr.cell? (a.add k) = some (.string l[k]) := (hrel.bel.cell (by rw [add_block]; have := cell_lt (HC.out k hkn); rw [add_block] at this; exact this)).trans (HC.out k hkn)
        obtain ⟨x, hx⟩ : ∃ x, x = l[k] := ⟨_, rfl⟩
        rw [← hx] at hc
        have hki : (k : Int) < (l.length : Int) := by omega
        clear hx hrel
        by_cases hxs : (1000 : Int) < (x.size : Int)
        · go_wp2_with fail
          go_ret
          exact ⟨rfl, HR.out.bel⟩
        · have TQW := Lib.hid (fun (W : World) (hW : Below w.heap.size w W) => text_quote x W (by omega) (fun w' h => (HE.out w' (hW.trans (h.mono hW.size))).1))
          have hxs' : x.size ≤ 1000 := by omega
          have hal1 : ¬ 9223372036854775807 < al.size + x.size := by omega
          by_cases hkz : k < zs.length
          · obtain ⟨z, hzz⟩ : ∃ z, zs[k]? = some z := ⟨_, List.getElem?_eq_getElem hkz⟩
            obtain ⟨a1, rfl, hc1⟩ := H1.out k z hzz
            have hz256 := HZ.out z (List.mem_of_getElem? hzz)
            have hc1' : wr.cell? (a1.add k) = some (.int .u8 z) := (HR.out.bel.cell (cell_lt hc1)).trans hc1
            have hc2 : ∀ o, (wr.alloc o).cell? (a1.add k) = some (.int .u8 z) := fun o => (World.cell?_alloc_lt wr o _ (cell_lt hc1')).trans hc1'
            have hkzi : (k : Int) < (zs.length : Int) := by omega
            have hm : Int.tmod z 5 = 0 ∨ Int.tmod z 5 = 1 ∨ Int.tmod z 5 = 2 ∨ Int.tmod z 5 = 3 ∨ Int.tmod z 5 = 4 := by
              rw [Int.tmod_eq_emod_of_nonneg hz256.1]; omega
            have hm' : Int.tmod z 5 = z % 5 := Int.tmod_eq_emod_of_nonneg hz256.1
            have HM := Lib.hid hm'
            clear hc1 hzz hkz hm'
            rcases hm with hm | hm | hm | hm | hm
            · have hm2 : z % 5 = _ := HM.out.symm.trans hm
              go_wp2_with fail
              refine (TQW.out _ (HR.out.bel.alloc hwr _)).mono ?_
              rintro e w3 ⟨v', g, rfl, hown, htg, hgl, hb3⟩
              have cv := out_string (.inr hown)
              obtain ⟨u, hu⟩ : ∃ u : ByteArray, u = ⟨(34 :: g ++ [34]).toArray⟩ := ⟨_, rfl⟩
              have hus : u.size ≤ 6002 := by rw [hu, tsize_list]; have := tsize_list x; simp; omega
              rw [← hu] at cv
              have HP := Lib.hid (And.intro hu (And.intro htg (And.intro hgl ((HR.out.bel.alloc hwr _).trans (hb3.mono (by simp; omega))))))
              have hsz1 : ¬ 9223372036854775807 < s.size + 0 + u.size := by omega
              clear hu htg hgl hb3 hown hm hm2
              go_wp2_with fail
              refine ⟨⟨k + 1, s ++ ⟨#[]⟩ ++ u, al ++ x, os ++ [x.data.toList], by go_num, by omega, rfl, rfl, ?_⟩, by simp [intOf]; omega⟩
              have := lrel_step HR.out x ⟨#[]⟩ g hxs' (.inl rfl) HP.out.2.1 HP.out.2.2.1 HP.out.2.2.2
              rw [← HP.out.1] at this
              exact this
            · have hm2 : z % 5 = _ := HM.out.symm.trans hm
              go_wp2_with fail
              refine (TQW.out _ (HR.out.bel.alloc hwr _)).mono ?_
              rintro e w3 ⟨v', g, rfl, hown, htg, hgl, hb3⟩
              have cv := out_string (.inr hown)
              obtain ⟨u, hu⟩ : ∃ u : ByteArray, u = ⟨(34 :: g ++ [34]).toArray⟩ := ⟨_, rfl⟩
              have hus : u.size ≤ 6002 := by rw [hu, tsize_list]; have := tsize_list x; simp; omega
              rw [← hu] at cv
              have HP := Lib.hid (And.intro hu (And.intro htg (And.intro hgl ((HR.out.bel.alloc hwr _).trans (hb3.mono (by simp; omega))))))
              have hsz1 : ¬ 9223372036854775807 < s.size + 1 + u.size := by omega
              clear hu htg hgl hb3 hown hm hm2
              go_wp2_with fail
              refine ⟨⟨k + 1, s ++ ⟨#[32]⟩ ++ u, al ++ x, os ++ [x.data.toList], by go_num, by omega, rfl, rfl, ?_⟩, by simp [intOf]; omega⟩
              have := lrel_step HR.out x ⟨#[32]⟩ g hxs' (.inr (.inl rfl)) HP.out.2.1 HP.out.2.2.1 HP.out.2.2.2
              rw [← HP.out.1] at this
              exact this
            · have hm2 : z % 5 = _ := HM.out.symm.trans hm
              go_wp2_with fail
              refine (TQW.out _ (HR.out.bel.alloc hwr _)).mono ?_
              rintro e w3 ⟨v', g, rfl, hown, htg, hgl, hb3⟩
              have cv := out_string (.inr hown)
              obtain ⟨u, hu⟩ : ∃ u : ByteArray, u = ⟨(34 :: g ++ [34]).toArray⟩ := ⟨_, rfl⟩
              have hus : u.size ≤ 6002 := by rw [hu, tsize_list]; have := tsize_list x; simp; omega
              rw [← hu] at cv
              have HP := Lib.hid (And.intro hu (And.intro htg (And.intro hgl ((HR.out.bel.alloc hwr _).trans (hb3.mono (by simp; omega))))))
              have hsz1 : ¬ 9223372036854775807 < s.size + 1 + u.size := by omega
              clear hu htg hgl hb3 hown hm hm2
              go_wp2_with fail
              refine ⟨⟨k + 1, s ++ ⟨#[10]⟩ ++ u, al ++ x, os ++ [x.data.toList], by go_num, by omega, rfl, rfl, ?_⟩, by simp [intOf]; omega⟩
              have := lrel_step HR.out x ⟨#[10]⟩ g hxs' (.inr (.inr (.inl rfl))) HP.out.2.1 HP.out.2.2.1 HP.out.2.2.2
              rw [← HP.out.1] at this
              exact this
            · have hm2 : z % 5 = _ := HM.out.symm.trans hm
              go_wp2_with fail
              refine (TQW.out _ (HR.out.bel.alloc hwr _)).mono ?_
              rintro e w3 ⟨v', g, rfl, hown, htg, hgl, hb3⟩
              have cv := out_string (.inr hown)
              obtain ⟨u, hu⟩ : ∃ u : ByteArray, u = ⟨(34 :: g ++ [34]).toArray⟩ := ⟨_, rfl⟩
              have hus : u.size ≤ 6002 := by rw [hu, tsize_list]; have := tsize_list x; simp; omega
              rw [← hu] at cv
              have HP := Lib.hid (And.intro hu (And.intro htg (And.intro hgl ((HR.out.bel.alloc hwr _).trans (hb3.mono (by simp; omega))))))
              have hsz1 : ¬ 9223372036854775807 < s.size + 2 + u.size := by omega
              clear hu htg hgl hb3 hown hm hm2
              go_wp2_with fail
              refine ⟨⟨k + 1, s ++ ⟨#[9, 32]⟩ ++ u, al ++ x, os ++ [x.data.toList], by go_num, by omega, rfl, rfl, ?_⟩, by simp [intOf]; omega⟩
              have := lrel_step HR.out x ⟨#[9, 32]⟩ g hxs' (.inr (.inr (.inr (.inl rfl)))) HP.out.2.1 HP.out.2.2.1 HP.out.2.2.2
              rw [← HP.out.1] at this
              exact this
            · have hm2 : z % 5 = _ := HM.out.symm.trans hm
              go_wp2_with fail
              refine (TQW.out _ (HR.out.bel.alloc hwr _)).mono ?_
              rintro e w3 ⟨v', g, rfl, hown, htg, hgl, hb3⟩
              have cv := out_string (.inr hown)
              obtain ⟨u, hu⟩ : ∃ u : ByteArray, u = ⟨(34 :: g ++ [34]).toArray⟩ := ⟨_, rfl⟩
              have hus : u.size ≤ 6002 := by rw [hu, tsize_list]; have := tsize_list x; simp; omega
              rw [← hu] at cv
              have HP := Lib.hid (And.intro hu (And.intro htg (And.intro hgl ((HR.out.bel.alloc hwr _).trans (hb3.mono (by simp; omega))))))
              have hsz1 : ¬ 9223372036854775807 < s.size + 11 + u.size := by omega
              clear hu htg hgl hb3 hown hm hm2
              go_wp2_with fail
              refine ⟨⟨k + 1, s ++ ⟨#[35, 32, 97, 32, 114, 101, 109, 97, 114, 107, 10]⟩ ++ u, al ++ x, os ++ [x.data.toList], by go_num, by omega, rfl, rfl, ?_⟩, by simp [intOf]; omega⟩
              have := lrel_step HR.out x ⟨#[35, 32, 97, 32, 114, 101, 109, 97, 114, 107, 10]⟩ g hxs' (.inr (.inr (.inr (.inr rfl)))) HP.out.2.1 HP.out.2.2.1 HP.out.2.2.2
              rw [← HP.out.1] at this
              exact this
          · have hkzi : ¬ (k : Int) < (zs.length : Int) := by omega
            go_wp2_with fail
            refine (TQW.out _ HR.out.bel).mono ?_
            rintro e w3 ⟨v', g, rfl, hown, htg, hgl, hb3⟩
            have cv := out_string (.inr hown)
            obtain ⟨u, hu⟩ : ∃ u : ByteArray, u = ⟨(34 :: g ++ [34]).toArray⟩ := ⟨_, rfl⟩
            have hus : u.size ≤ 6002 := by rw [hu, tsize_list]; have := tsize_list x; simp; omega
            rw [← hu] at cv
            have HP := Lib.hid (And.intro hu (And.intro htg (And.intro hgl (HR.out.bel.trans (hb3.mono hwr)))))
            have hsz1 : ¬ 9223372036854775807 < s.size + u.size := by omega
            clear hu htg hgl hb3 hown
            go_wp2_with fail
            refine ⟨⟨k + 1, s ++ u, al ++ x, os ++ [x.data.toList], by go_num, by omega, rfl, rfl, ?_⟩, by simp [intOf]; omega⟩
            have := lrel_step HR.out x ⟨#[]⟩ g hxs' (.inl rfl) HP.out.2.1 HP.out.2.2.1 HP.out.2.2.2
            have e : s ++ (⟨#[]⟩ : ByteArray) = s := ByteArray.append_empty
            rw [← HP.out.1, e] at this
            exact this
      · have hke : k = l.length := by omega
        have hos : os ≠ [] := by intro h; have := hrel.len; rw [h] at this; simp at this; omega
        have hos2 : os.length ≤ 1000 := by rw [hrel.len]; omega
        have hki : ¬ (k : Int) < (l.length : Int) := by omega
        have hsl : s.size = s.data.toList.length := tsize_list s
        have hne : s.data.toList ≠ [] := by
          intro h
          have hb := hrel.bl
          rw [h] at hb
          generalize hm : ([] : List UInt8) = m at hb
          cases hb with
          | nil => exact hos rfl
          | cons bl g x s os h1 h2 h3 => cases bl <;> simp at hm
        have CV := conv_bytes' s.data.toList wr
        have hsd : (⟨s.data.toList.toArray⟩ : ByteArray) = s := by cases s; rfl
        rw [hsd] at CV
        obtain ⟨cap, C, fr, hcv, hrow⟩ := CV
        obtain ⟨A, hA⟩ : ∃ A, A = strOf os.flatten := ⟨_, rfl⟩
        have hall := hrel.all
        rw [← hA] at hall
        subst hall
        obtain ⟨n, hn'⟩ : ∃ n, n = s.data.toList.length := ⟨_, rfl⟩
        have HN := Lib.hid hn'
        have TS := text_scalar_e s.data.toList hne (by omega) ⟨wr.heap.size, 0, none⟩ cap 2 0 (strOf os.flatten) (reads_string s.data.toList os (by omega) hrel.bl hos hos2) (fun _ _ => True) (fun _ _ => True) (fun _ _ => True) (fun _ _ => True) (fun _ _ => True) (fun _ => True) (fun _ => True) (fun _ _ => True) (fun x y => x = strOf os.flatten ∧ y = true) (wr.drew.alloc (.cells C 5 fr)) hrow
          (fun w' h => (HE.out w' (hrel.bel.trans ((((Below.refl _ _).drew.alloc (Nat.le_refl _) _).trans (h.mono (by simp))).mono hwr))).2)
          (fun t k1 k2 k3 k4 k5 W hW => str_vals t k1 k2 k3 (strOf os.flatten) k4 k5 W)
        rw [← hn'] at TS hcv
        rw [← hA] at TS
        have HTS := Lib.hid TS
        have HB := Lib.hid hrel.bel
        clear TS hrow hrel hA hn' hne hos hos2 hsl hsd
        go_wp2_with fail
        refine HTS.out.mono ?_
        rintro e w2 ⟨⟨v, rs, rfl, x0, y0, x1, y1, x2, y2, x3, y3, x4, y4, x5, y5, x6, y6, x7, y7, x8, y8, hv, q0, q1, q2, q3, q4, q5, q6, q7, q8⟩, hb2⟩
        injection hv with hv
        subst hv
        obtain ⟨rfl, rfl⟩ := q8
        have HB2 : Hid (Below w.heap.size w w2) := Lib.hid (HB.out.trans ((((Below.refl _ _).drew.alloc (Nat.le_refl _) _).trans (hb2.mono (by simp))).mono hwr))
        clear hb2 q0 q1 q2 q3 q4 q5 q6 q7
        go_wp2_with fail
        go_ret
        exact ⟨rfl, by have hb := HB2.out; have hz := hb.size; go_grown⟩

end Go.Proofs.YtpneioocmpagmaaGreatDoor.tx
