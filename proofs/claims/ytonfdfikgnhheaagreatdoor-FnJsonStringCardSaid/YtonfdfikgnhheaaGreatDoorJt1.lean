/- json.NewDecoder, impl.JsonTokens at a text that is one string. -/
import Derived.Test.YtonfdfikgnhheaaGreatDoorJz
namespace Go.Proofs.YtonfdfikgnhheaaGreatDoor.js
open Go.RowKit
set_option linter.unusedVariables false
set_option linter.unusedSimpArgs false

theorem rowm_of {w : World} {b : Nat} {m : List UInt8} (h : Bytes w b 0 m) : RowM w b 0 m := by
  intro j hj
  have := h j (bb (m.getD j 0)) (by rw [List.getElem?_map, List.getD_eq_getElem?_getD, List.getElem?_eq_getElem hj]; rfl)
  rw [add_pos] at this
  exact this

set_option maxHeartbeats 4000000 in
set_option maxRecDepth 100000 in
theorem new_decoder (a : Option Addr) (n c : Nat) (w : World) :
    Calls Tryz.prog 34 #[.slice a n c] w fun e w' => e = .returned (.pointer (some ⟨w.heap.size, 0, none⟩)) ∧ DecAt w' w.heap.size 0 0 (.slice none 0 0) false ⟨#[]⟩ (.slice none 0 0) (.slice a n c) (.slice a n c) ∧ Below w.heap.size w w' ∧ w'.heap.size = w.heap.size + 1 := by
  go_enter Tryz.func34, Tryz.ntmps34
  go_wp2
  go_ret
  refine ⟨rfl, ?_, by go_grown, by simp⟩
  exact heap_alloc_new w _

set_option maxHeartbeats 8000000 in
set_option maxRecDepth 100000 in
theorem json_tokens (b0 L cap0 : Nat) (T m ot : List UInt8) (hTm : T = 34 :: m) (hT : T.length = L) (hL47 : L ≤ 140737488355000) (w : World) (hb0 : b0 < w.heap.size) (hr : Bytes w b0 0 T)
    (hju : Ju [] m ot) (hvm : Lib.validD m = true) (hE : ∀ w', Below w.heap.size w w' → DecEnv w') :
    Calls Tryz.prog 15 #[.slice (some ⟨b0, 0, none⟩) L cap0] w fun e w' => TSays w.heap.size T ot e w' ∧ Below w.heap.size w w' := by
  have hL1 : 1 ≤ L := by rw [← hT, hTm]; simp
  have HC := Lib.hid (copied_row b0 0 cap0 L T hT hL1 (by omega) w hb0 hr)
  have HJ := Lib.hid (And.intro hTm (And.intro hT (And.intro hL47 (And.intro hju (And.intro hvm hE)))))
  clear hr hTm hT hju hvm hE
  unfold TSays
  go_enter Tryz.func15, Tryz.ntmps15
  go_wp2_with fail
  refine HC.out.mono ?_
  rintro e w1 ⟨⟨v1, rfl, hown⟩, hb1⟩
  obtain ⟨gb, n, cap, rfl, hgn, hgc, hgm, hgb, hglt, hby⟩ := own_row hown (by rw [HJ.out.2.1]; exact hL1)
  obtain rfl : L = n := by rw [← hgn]; exact HJ.out.2.1.symm
  have H1 := Lib.hid (And.intro hb1 (And.intro hby hgn))
  have hz1 := hb1.size
  clear hb1 hby hgn hown
  go_wp2_with fail
  refine (new_decoder _ _ _ _).mono ?_
  rintro e w2 ⟨rfl, hd2, hb2, hs2⟩
  have hb12 : Below w.heap.size w w2 := H1.out.1.trans (hb2.mono hz1)
  have R := json_read w1.heap.size gb L cap 0 L cap T m ot HJ.out.1 HJ.out.2.1 hgc hgm HJ.out.2.2.1 rfl w2 (by omega) hglt hd2 ((rowm_of H1.out.2.1).below hb2 hglt) HJ.out.2.2.2.1 HJ.out.2.2.2.2.1 (fun w' hw' => HJ.out.2.2.2.2.2 w' (H1.out.1.trans ((hb2.trans hw').mono hz1)))
  have HR := Lib.hid R
  have H2 := Lib.hid hb12
  clear R hd2 hb2 hb12
  go_wp2_with fail
  refine HR.out.mono ?_
  unfold TSays
  rintro e w3 ⟨⟨v3, rfl, ho3⟩, hk3⟩
  have H3 := Lib.hid (And.intro (own_mono (B' := w.heap.size) ho3 (by omega)) (H2.out.trans (hk3.below hz1 (by omega))))
  clear ho3 hk3
  go_wp2_with fail
  refine bodyPost_ret (v := .tuple #[v3, .bool true]) (by simp [results, Tryz.results15, go_sem]) rfl ⟨⟨_, rfl, H3.out.1⟩, H3.out.2⟩

end Go.Proofs.YtonfdfikgnhheaaGreatDoor.js
