/- laws.FnDefEnums at every argument. -/
import Derived.Test.YtonfdfikgnhheaaGreatDoorEg
import Derived.Test.YtonfdfikgnhheaaGreatDoorEp
namespace Go.Proofs.YtonfdfikgnhheaaGreatDoor.enums
open Go.RowKit Go.Proofs.YtonfdfikgnhheaaGreatDoor.PFnDefEnums Go.Proofs.YtonfdfikgnhheaaGreatDoorW.PrintWords Go.Proofs.YtonfdfikgnhheaaGreatDoorW.PrintLast Go.Proofs.YtonfdfikgnhheaaGreatDoorW.PrintMore
set_option linter.unusedVariables false
set_option linter.unusedSimpArgs false

theorem pairs_at {ns : List ByteArray} {zs : List Int} {i : Nat} (h : i < ns.length) (he : zs.length = ns.length) : (pairs ns zs)[i]? = some (ns.getD i ByteArray.empty, zs.getD i 0) := by
  unfold pairs
  rw [List.getElem?_zip_eq_some]
  simp only [List.getD_eq_getElem?_getD]
  rw [List.getElem?_eq_getElem h, List.getElem?_eq_getElem (by omega)]
  exact ⟨rfl, rfl⟩

theorem law_all (l : List ByteArray) (zs : List Int) (A0 A1 : Option Addr) (c0 c1 : Nat) (at_ : Int) (tag : Bool) (w : World)
    (h0 : Strs w A0 l) (hc0 : l.length ≤ c0) (h1 : I32s w A1 zs) (hc1 : zs.length ≤ c1) (hlm : l.length ≤ 9223372036854770000) (hzr : ∀ z ∈ zs, -2147483648 ≤ z ∧ z ≤ 2147483647)
    (htab : Lib.TabIs Tryz.prog w "internal/strconv.uint64pow10" .u64 Lib.pow10Tab) (herr : pu.Errs w) :
    Calls Tryz.prog 9 #[.slice A0 l.length c0, .slice A1 zs.length c1, .int .i64 at_, .bool tag] w fun e w' => LawSays w e w' := by
  obtain ⟨k, b, hf⟩ := fits_any l hlm
  have HF := laws_zzFits3.calls k A0 c0 l b w h0 hc0 hf
  cases b with
  | false => exact law_unfit l zs A0 A1 c0 c1 at_ tag w (Lib.hid HF)
  | true =>
    by_cases hg : (zs.length : Int) ≤ 2147483647 ∧ (1 : Int) ≤ l.length ∧ (l.length : Int) ≤ 50 ∧ zs.length = l.length ∧ 0 ≤ at_ ∧ at_ < l.length
    · obtain ⟨_, g1, g2, g3, g4, g5⟩ := hg
      obtain ⟨a, rfl⟩ := Int.eq_ofNat_of_zero_le g4
      refine law_good l zs A0 A1 c0 c1 a tag w (Lib.hid HF) h0 h1 hc1 (by omega) (by omega) g3 (by omega) hzr ?_ ?_
      all_goals
        intro ns g c W hun hlen hgc hs hb
        have hz : -2147483648 ≤ zs.getD a 0 ∧ zs.getD a 0 ≤ 2147483647 := by
          apply hzr
          rw [List.getD_eq_getElem?_getD, List.getElem?_eq_getElem (by omega)]
          exact List.getElem_mem _
        have hpl : (pairs ns zs).length = ns.length := by unfold pairs; simp; omega
        have hat := pairs_at (ns := ns) (zs := zs) (i := a) (by omega) (by omega)
        have EN : ∀ W', Below W.heap.size W W' → Calls Tryz.prog 43 #[.slice (some ⟨g, 0, none⟩) l.length c, .slice A1 zs.length c1] W' fun e w' => ∃ v, e = .returned v ∧ MadeE W' w' v (pairs ns zs) := fun W' hW' => by
          rw [← hlen]
          exact enum_made (some ⟨g, 0, none⟩) c ns A1 c1 zs (by omega) (by omega) (by omega) W' (strs_below hs hW') (by omega) (i32s_below (i32s_below h1 hb) (hW'.mono hb.size |> fun h => hW')) hc1
        have HFN : ∀ j y, j < a → (pairs ns zs)[j]? = some y → y.1 ≠ ns.getD a ByteArray.empty ∧ y.2 ≠ zs.getD a 0 := fun j y hj hy => by
          rw [pairs_at (ns := ns) (zs := zs) (i := j) (by omega) (by omega)] at hy
          cases hy
          exact hun j a hj (by omega)
        have BN := fun W' g' c' (hr : ERow W' g' (pairs ns zs)) => by_number (pairs ns zs) g' c' a (ns.getD a ByteArray.empty, zs.getD a 0) hat (fun j y hj hy => (HFN j y hj hy).2) (by omega) W' hr
        have BM := fun W' g' c' (hr : ERow W' g' (pairs ns zs)) => by_name (pairs ns zs) g' c' a (ns.getD a ByteArray.empty, zs.getD a 0) hat (fun j y hj hy => (HFN j y hj hy).1) (by omega) W' hr
      · cases tag with
        | false => exact defMarshal (zs.getD a 0) (ns.getD a ByteArray.empty, zs.getD a 0) 1 (ns.getD a ByteArray.empty) (pairs ns zs) _ _ rfl hz.1 hz.2 W EN BN (fun W' _ => dmarshal_name (zs.getD a 0) (ns.getD a ByteArray.empty, zs.getD a 0) W')
        | true => exact defMarshal (zs.getD a 0) (ns.getD a ByteArray.empty, zs.getD a 0) 2 ⟨(Lib.itoa (zs.getD a 0)).toArray⟩ (pairs ns zs) _ _ rfl hz.1 hz.2 W EN BN (fun W' hW' => dmarshal_tag (zs.getD a 0) hz.1 hz.2 _ W' (Lib.tabBelow_of_tabIs htab W' (hb.trans (hW'.mono hb.size))))
      · cases tag with
        | false => exact defUnmarshal (zs.getD a 0) (ns.getD a ByteArray.empty, zs.getD a 0) 1 (ns.getD a ByteArray.empty) (pairs ns zs) _ _ hz.1 hz.2 W EN (fun W' g' c' _ hr => dunE_name (pairs ns zs) g' c' (ns.getD a ByteArray.empty, zs.getD a 0) hz.1 hz.2 W' hr (fun W2 hr2 => BM W2 g' c' hr2))
        | true =>
          have hl := Lib.itoa_length_le (zs.getD a 0) (by omega) (by omega)
          exact defUnmarshal (zs.getD a 0) (ns.getD a ByteArray.empty, zs.getD a 0) 2 ⟨(Lib.itoa (zs.getD a 0)).toArray⟩ (pairs ns zs) _ _ hz.1 hz.2 W EN (fun W' g' c' hW' hr => dunE_tag (pairs ns zs) g' c' (ns.getD a ByteArray.empty, zs.getD a 0) hz.1 hz.2 W' hr ⟨(Lib.itoa (zs.getD a 0)).toArray⟩ (by simpa using num.pi_itoa (zs.getD a 0) hz.1 hz.2) (by show (Lib.itoa (zs.getD a 0)).toArray.size ≤ _; rw [List.size_toArray]; omega) (herr.below (hb.trans (hW'.mono hb.size))) (fun W2 hr2 => BN W2 g' c' hr2))
    · exact law_bad l zs A0 A1 c0 c1 at_ tag w (Lib.hid HF) hg

end Go.Proofs.YtonfdfikgnhheaaGreatDoor.enums
