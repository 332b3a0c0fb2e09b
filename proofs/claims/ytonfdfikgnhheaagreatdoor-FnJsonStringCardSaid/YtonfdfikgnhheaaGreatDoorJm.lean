/- laws.FnJsonString: its walk. -/
import Derived.Test.YtonfdfikgnhheaaGreatDoorJt1
import Derived.Test.YtonfdfikgnhheaaGreatDoorJw
namespace Go.Proofs.YtonfdfikgnhheaaGreatDoor.js
open Go.RowKit Go.Proofs.YtonfdfikgnhheaaGreatDoor.js8
set_option linter.unusedVariables false
set_option linter.unusedSimpArgs false

theorem str_back (s : ByteArray) : (⟨s.data.toList.toArray⟩ : ByteArray) = s := by cases s; rfl

set_option maxHeartbeats 8000000 in
set_option maxRecDepth 100000 in
theorem law_all (s : ByteArray) (w : World) (EB : ∀ w', Below w.heap.size w w' → EncEnv w') (DB : ∀ w', Below w.heap.size w w' → DecEnv w') :
    Calls Tryz.prog 5 #[.string s] w fun e w' => e = .returned (.bool true) ∧ Below w.heap.size w w' := by
  by_cases hz1 : (s.size : Int) > 2147483647
  · go_enter Tryz.func5, Tryz.ntmps5
    go_wp2
    go_ret
    exact ⟨rfl, Below.refl _ _⟩
  by_cases hz2 : (s.size : Int) > 10000
  · go_enter Tryz.func5, Tryz.ntmps5
    go_wp2
    go_ret
    exact ⟨rfl, Below.refl _ _⟩
  have HE := Lib.hid (fun b0 c0 W hb hr E => json_encode s W b0 c0 hb hr E (by omega))
  have HU := Lib.hid (utf8_says s (by omega))
  have HZ : Hid (s.size ≤ 10000) := Lib.hid (by omega)
  go_enter Tryz.func5, Tryz.ntmps5
  go_wp2_with fail
  have hb1 : Below w.heap.size w (w.alloc (.cells #[.int .i64 3, .string s, .bool false, .int .i64 0, .int .u64 0, .int .u64 0, .int .i64 0] 44)) := (Below.refl _ _).alloc (Nat.le_refl _) _
  refine (HE.out w.heap.size 1 _ (by simp) (heap_alloc_new w _) (fun w' hb => EB w' (hb1.trans (hb.mono hb1.size)))).mono ?_
  rintro e w2 (⟨hv, ⟨v', rfl, hown⟩, hb2⟩ | ⟨hv, rfl, hb2⟩)
  · have hb12 : Below w.heap.size w w2 := hb1.trans (hb2.mono hb1.size)
    obtain ⟨l, hl⟩ : ∃ l, l = s.data.toList := ⟨_, rfl⟩
    rw [← hl] at hv hown HU
    obtain ⟨gb, n, cap, rfl, hgn, hgc, hgm, hgb, hglt, hby⟩ := own_row hown (by simp)
    have hll : l.length = s.size := by rw [hl]; exact Array.length_toList
    have hle := enc_len l
    have hn47 : n ≤ 140737488355000 := by
      have h1 : n = (34 :: enc l ++ [34]).length := hgn.symm
      simp only [List.length_append, List.length_cons, List.length_nil] at h1
      have := HZ.out
      omega
    obtain ⟨T, hT⟩ : ∃ T, T = 34 :: enc l ++ [34] := ⟨_, rfl⟩
    rw [← hT] at hgn hby
    have HT := Lib.hid (fun W (hW : Below w2.heap.size w2 W) => json_tokens gb n cap T (enc l ++ [34]) l (by rw [hT]; rfl) hgn hn47 W (Nat.lt_of_lt_of_le hglt hW.size) (fun j u hj => (hW.cell (p := (⟨gb, 0, none⟩ : Addr).add j) (by rw [add_pos]; exact hglt)).trans (hby j u hj)) (ju_enc [] l) (valid_enc [] rfl l.length l (Nat.le_refl _) hv) (fun w' hw' => DB w' (hb12.trans ((hW.trans (hw'.mono hW.size)).mono hb12.size))))
    have HV := Lib.hid hv
    have HB := Lib.hid (And.intro hb12 (And.intro hby hgn))
    have HL := Lib.hid (And.intro hl hT)
    have HZ2 := Lib.hid (And.intro hll (And.intro hle hn47))
    clear hb1 hb2 hb12 hv hown hby hgn hl hT hll hle hn47
    unfold TSays at HT
    go_wp2_with fail
    refine (HU.out w2).mono ?_
    rw [HV.out]
    rintro e w3 ⟨rfl, hb3⟩
    have HX := Lib.hid hb3
    have hz3 := hb3.size
    clear hb3
    go_wp2_with fail
    refine (HT.out w3 HX.out).mono ?_
    rintro e w4 ⟨⟨v4, rfl, ho4⟩, hb4⟩
    obtain ⟨tb, tcap, rfl, htl, hrow⟩ : ∃ tb tcap, v4 = .slice (some ⟨tb, 0, none⟩) 1 tcap ∧ tb < w4.heap.size ∧ (∀ j u, (jtA 0 ⟨T.toArray⟩ ⟨l.toArray⟩)[j]? = some u → w4.cell? ((⟨tb, 0, none⟩ : Addr).add j) = some u) := by
      rcases ho4.2 with ⟨_, h0⟩ | ⟨g, cap', cur, rfl, hg, hbk, _⟩
      · exact absurd h0 (by decide)
      · exact ⟨g, cap', rfl, (Array.getElem?_eq_some_iff.1 hbk).1, fun j u hu => World.ownsRow.cells ho4 rfl j u hu⟩
    have f0 : w4.cell? ⟨tb, 0, none⟩ = some (.int .i64 16) := by have := hrow 0 _ rfl; rwa [add_pos] at this
    have f3 : w4.cell? ⟨tb, 3, none⟩ = some (.string ⟨T.toArray⟩) := by have := hrow 3 _ rfl; rwa [add_pos] at this
    have f4 : w4.cell? ⟨tb, 4, none⟩ = some (.string s) := by
      have := hrow 4 _ rfl
      rw [add_pos, HL.out.1, str_back] at this
      exact this
    have hb24 : Below w2.heap.size w2 w4 := HX.out.trans (hb4.mono hz3)
    have cv := fun (W : World) (hW : Below w2.heap.size w2 W) => conv_row (c := cap) ((rowm_of HB.out.2.1).below hW hglt)
    rw [HB.out.2.2] at cv
    have H4 := Lib.hid (HB.out.1.trans (hb24.mono HB.out.1.size))
    obtain ⟨raw, hraw⟩ : ∃ raw : ByteArray, raw = ⟨T.toArray⟩ := ⟨_, rfl⟩
    rw [← hraw] at f3 cv
    have HC : Hid (∀ W, Below w4.heap.size w4 W → W.cell? ⟨tb, 0, none⟩ = some (.int .i64 16) ∧ W.cell? ⟨tb, 3, none⟩ = some (.string raw) ∧ W.cell? ⟨tb, 4, none⟩ = some (.string s) ∧ (convert 29 9 (.slice (some ⟨gb, 0, none⟩) n cap)).run Tryz.prog W = .ok (.string raw) W) := Lib.hid (fun W hW =>
      ⟨(hW.cell (p := ⟨tb, 0, none⟩) htl).trans f0, (hW.cell (p := ⟨tb, 3, none⟩) htl).trans f3, (hW.cell (p := ⟨tb, 4, none⟩) htl).trans f4, cv W (hb24.trans (hW.mono hb24.size))⟩)
    clear hraw hb24 hrow ho4 hb4 cv f0 f3 f4
    go_wp2
    go_region_held3 (fun w' => w'.cell? ⟨tb, 0, none⟩ = some (.int .i64 16) ∧ w'.cell? ⟨tb, 3, none⟩ = some (.string raw) ∧ w'.cell? ⟨tb, 4, none⟩ = some (.string s) ∧ (convert 29 9 (.slice (some ⟨gb, 0, none⟩) n cap)).run Tryz.prog w' = .ok (.string raw) w') (first | exact HC.out _ (by go_grown) | go_keep) (fail)
    go_wp2
    go_ret
    exact ⟨rfl, H4.out.drew⟩
  · have HX := Lib.hid (hb1.trans (hb2.mono hb1.size))
    have hz2' := hb2.size
    clear hb1 hb2
    have HU2 := HU.out w2
    rw [hv] at HU2
    have HU3 := Lib.hid HU2
    clear HU2
    go_wp2_with fail
    refine HU3.out.mono ?_
    rintro e w3 ⟨rfl, hb3⟩
    go_wp2_with fail
    go_ret
    exact ⟨rfl, HX.out.trans (hb3.mono HX.out.size)⟩

end Go.Proofs.YtonfdfikgnhheaaGreatDoor.js
