/- The reference's reading of whole numbers: toNumber, ReadWhole, ReadCount. -/
import Derived.Test.YtdcgoaikfbbneaaGreatDoorDs
namespace Go.Proofs.YtdcgoaikfbbneaaGreatDoor.ints
open Go.RowKit Go.Proofs.YtdcgoaikfbbneaaGreatDoor.num Go.Proofs.YtdcgoaikfbbneaaGreatDoor.pu
set_option linter.unusedVariables false
set_option linter.unusedSimpArgs false

def TN (mx v : Nat) (e : Ending) : Prop := (v ≤ mx → e = .returned (.tuple #[.int .u64 v, .bool true])) ∧ (¬ v ≤ mx → e = .returned (.tuple #[.int .u64 0, .bool false]))

def VM (mx : Nat) (l : List UInt8) (v k n : Nat) : Prop := v = val (l.drop k) n ∧ n ≤ mx

theorem vm_next {mx : Nat} {l : List UInt8} {v k n : Nat} (h : VM mx l v k n) (hk : k < l.length) (hn : n * 10 + ((l.getD k 0).toNat - 48) ≤ mx) : VM mx l v (k + 1) (n * 10 + ((l.getD k 0).toNat - 48)) := by
  obtain ⟨h0, h1⟩ := h
  rw [drop_get l k hk, val] at h0
  exact ⟨h0, hn⟩

theorem vm_over {mx : Nat} {l : List UInt8} {v k n : Nat} (h : VM mx l v k n) (hk : k < l.length) (hn : ¬ n * 10 + ((l.getD k 0).toNat - 48) ≤ mx) : ¬ v ≤ mx := by
  obtain ⟨h0, h1⟩ := h
  rw [drop_get l k hk, val] at h0
  have := val_ge (l.drop (k + 1)) (n * 10 + ((l.getD k 0).toNat - 48))
  omega

theorem vm_end {mx : Nat} {l : List UInt8} {v k n : Nat} (h : VM mx l v k n) (hk : l.length ≤ k) : v = n ∧ n ≤ mx := by
  obtain ⟨h0, h1⟩ := h
  rw [List.drop_eq_nil_of_le hk, val] at h0
  exact ⟨h0, h1⟩

set_option maxHeartbeats 4000000 in
set_option maxRecDepth 100000 in
theorem to_number (t : ByteArray) (mx B : Nat) (cap : Nat) (hall : ∀ c ∈ t.data.toList, IsDig c) (h9 : 9 ≤ mx) (hmx : mx < 18446744073709551616) (hmax : t.size ≤ 140737488355328) (w : World)
    (hB : ∀ j, j < t.size → w.cell? ⟨B, j, none⟩ = some (.int .u8 (t.data.toList.getD j 0).toNat)) :
    Calls Tryz.prog 14 #[.slice (some ⟨B, 0, none⟩) t.size cap, .int .u64 mx] w fun e w' => TN mx (val t.data.toList 0) e ∧ w = w' := by
  obtain ⟨v, hv⟩ : ∃ v, v = val t.data.toList 0 := ⟨_, rfl⟩
  have hm0 : VM mx t.data.toList v 0 0 := ⟨hv, Nat.zero_le _⟩
  rw [← hv]
  clear hv
  have HL := Lib.hid (show t.data.toList.length = t.size by simp)
  have HB := Lib.hid hB
  have HA := Lib.hid hall
  have HMX := Lib.hid (And.intro h9 hmx)
  clear hB hall h9 hmx
  go_enter Tryz.func14, Tryz.ntmps14
  go_wp2_with fail
  go_loop [6, 7] (fun vn vi => ∃ (k n : Nat), vn = .int .u64 n ∧ vi = .int .i64 k ∧ k ≤ t.size ∧ VM mx t.data.toList v k n) (fun _ vi => t.size - (intOf vi).toNat)
  case atStart => exact ⟨0, 0, rfl, rfl, by omega, hm0⟩
  case round =>
    clear hm0
    obtain ⟨k, n, rfl, rfl, hk, hm⟩ := hrel
    by_cases hkn : k < t.size
    · have hc := HB.out k hkn
      have hkl : k < t.data.toList.length := by rw [HL.out]; exact hkn
      have hd := HA.out _ (show t.data.toList.getD k 0 ∈ t.data.toList by rw [List.getD_eq_getElem?_getD, List.getElem?_eq_getElem hkl]; exact List.getElem_mem hkl)
      obtain ⟨c, hcd⟩ : ∃ c, c = (t.data.toList.getD k 0).toNat := ⟨_, rfl⟩
      have h1 := vm_next hm hkl
      have h2 := vm_over hm hkl
      unfold IsDig at hd
      rw [← hcd] at hc hd h1 h2
      have hnm := hm.2
      obtain ⟨h9, hmx⟩ := HMX.out
      obtain ⟨d, rfl⟩ : ∃ d, c = d + 48 := ⟨c - 48, by omega⟩
      have hd9 : d ≤ 9 := by omega
      have e0 : d + 48 - 48 = d := by omega
      rw [e0] at h1 h2
      have e1 : IntKind.u8.wrap (((d + 48 : Nat) : Int) - 48) = (d : Int) := by rw [IntKind.wrap_u8]; omega
      have e2 : IntKind.u64.wrap ((d : Nat) : Int) = (d : Int) := by rw [IntKind.wrap_u64]; omega
      have e3 : IntKind.u64.wrap ((mx : Int) - (d : Int)) = ((mx - d : Nat) : Int) := by rw [IntKind.wrap_u64]; omega
      obtain ⟨q, hq⟩ : ∃ q, q = (mx - d) / 10 := ⟨_, rfl⟩
      have e4 : IntKind.u64.wrap (((mx - d : Nat) : Int) / 10) = (q : Int) := by rw [IntKind.wrap_u64]; omega
      by_cases ho : n * 10 + d ≤ mx
      · have e7 : (n : Int) ≤ (q : Int) := by omega
        have e5 : IntKind.u64.wrap ((n : Int) * 10) = (n : Int) * 10 := by rw [IntKind.wrap_u64]; omega
        have e6 : IntKind.u64.wrap ((n : Int) * 10 + (d : Int)) = (n : Int) * 10 + (d : Int) := by rw [IntKind.wrap_u64]; omega
        have H1 := Lib.hid (h1 ho)
        clear h1 h2 hm hcd hd e0 hnm h9 hmx hkl hq
        go_wp2_with fail
        exact ⟨⟨k + 1, n * 10 + d, by simp, rfl, by omega, H1.out⟩, by simp [intOf]; omega⟩
      · have e7 : (q : Int) < (n : Int) := by omega
        have H2 := Lib.hid (h2 ho)
        clear h1 h2 hm hcd hd e0 hnm h9 hmx hkl hq
        go_wp2_with fail
        go_ret2
        exact ⟨⟨fun h => absurd h H2.out, fun _ => rfl⟩, rfl⟩
    · have he := vm_end hm (by rw [HL.out]; omega)
      obtain ⟨rfl, he⟩ := he
      have HE := Lib.hid he
      clear he hm
      go_wp2_with fail
      go_ret2
      exact ⟨⟨fun _ => rfl, fun h => absurd HE.out h⟩, rfl⟩

end Go.Proofs.YtdcgoaikfbbneaaGreatDoor.ints
