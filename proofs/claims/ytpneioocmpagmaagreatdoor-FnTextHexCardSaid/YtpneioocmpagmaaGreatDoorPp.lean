/- strconv.ParseInt and strconv.ParseUint at any base and size: their contracts. -/
import Derived.Test.YtpneioocmpagmaaGreatDoorPi
import Derived.Test.YtpneioocmpagmaaGreatDoorShelf
namespace Go.Proofs.YtpneioocmpagmaaGreatDoor.pu
open Go.RowKit Go.Proofs.YtpneioocmpagmaaGreatDoor.num
set_option linter.unusedVariables false
set_option linter.unusedSimpArgs false

/-- The two sentinels of strconv hold errors. -/
def Errs (w : World) : Prop := (∃ te pe, w.cell? ⟨6, 0, none⟩ = some (.iface te pe)) ∧ ∃ te pe, w.cell? ⟨2, 0, none⟩ = some (.iface te pe)

theorem lt_of_cell {w : World} {a : Addr} {v : Value} (h : w.cell? a = some v) : a.block < w.heap.size := by
  unfold World.cell? at h
  cases hh : w.heap[a.block]? with
  | none => rw [hh] at h; cases h
  | some o => exact (Array.getElem?_eq_some_iff.1 hh).1

theorem Errs.below {w w' : World} (h : Errs w) (hb : Below w.heap.size w w') : Errs w' := by
  obtain ⟨⟨t1, p1, h1⟩, ⟨t2, p2, h2⟩⟩ := h
  exact ⟨⟨t1, p1, (hb.cell (lt_of_cell h1)).trans h1⟩, ⟨t2, p2, (hb.cell (lt_of_cell h2)).trans h2⟩⟩

def NumErr (v : Value) : Prop := ∃ N, v = .iface 152 (.pointer (some ⟨N, 0, none⟩))

set_option maxHeartbeats 4000000 in
set_option maxRecDepth 100000 in
theorem toError_any (fn s : ByteArray) (base bits k : Int) (hk : k = 1 ∨ k = 2) (w : World) (hs : s.size ≤ 140737488355328) (he : Errs w) :
    Calls Tryz.prog 112 #[.string fn, .string s, .int .i64 base, .int .i64 bits, .iface 198 (.int .i64 k)] w fun e w' => (∃ v, e = .returned v ∧ NumErr v) ∧ Below w.heap.size w w' := by
  obtain ⟨⟨t1, p1, h1⟩, ⟨t2, p2, h2⟩⟩ := he
  rcases hk with rfl | rfl
  · exact (Tryz.strconv_toError_range fn s base bits _ w (by omega) h2 (.inr ⟨_, _, rfl⟩)).mono fun e w' ⟨N, he, _, _, hb⟩ => ⟨⟨_, he, N, rfl⟩, hb⟩
  · exact (Tryz.strconv_toError_syntax fn s base bits _ w (by omega) h1 (.inr ⟨_, _, rfl⟩)).mono fun e w' ⟨N, he, _, _, hb⟩ => ⟨⟨_, he, N, rfl⟩, hb⟩

def FailsP (e : Ending) : Prop := ∃ (n : Int) (v : Value), e = .returned (tupI n v) ∧ NumErr v

/-- How strconv.ParseInt ends. -/
def EndsP (r : Option (Int × Bool)) (e : Ending) : Prop :=
  match r with
  | some (n, us) => e = .returned (tupI n .nilIface) ∨ (us = true ∧ FailsP e)
  | none => FailsP e

theorem endsI_cases {r : Option (Int × Bool)} {e : Ending} (h : EndsI r e) : (∃ n us, r = some (n, us) ∧ e = .returned (tupI n .nilIface)) ∨ ((∀ n us, r = some (n, us) → us = true) ∧ FailsI e) := by
  cases r with
  | none => exact .inr ⟨fun _ _ h => by (cases h), h⟩
  | some x =>
    obtain ⟨n, us⟩ := x
    rcases h with h | ⟨hu, h⟩
    · exact .inl ⟨n, us, rfl, h⟩
    · exact .inr ⟨fun _ _ h => by (cases h; exact hu), h⟩

theorem endsP_fail {r : Option (Int × Bool)} {e : Ending} (h : ∀ n us, r = some (n, us) → us = true) (he : FailsP e) : EndsP r e := by
  cases r with
  | none => exact he
  | some x =>
    obtain ⟨n, us⟩ := x
    exact .inr ⟨h n us rfl, he⟩

set_option maxHeartbeats 4000000 in
set_option maxRecDepth 100000 in
theorem parseInt (t : ByteArray) (b bits : Nat) (hb : b = 0 ∨ (2 ≤ b ∧ b ≤ 36)) (h1 : 2 ≤ bits) (h64 : bits ≤ 64) (hmax : t.size ≤ 140737488355328) (w : World) (he : Errs w) :
    Calls Tryz.prog 86 #[.string t, .int .i64 b, .int .i64 bits] w fun e w' => EndsP (pi b (2 ^ bits - 1) (2 ^ (bits - 1)) t.data.toList) e ∧ Below w.heap.size w w' := by
  have PA := Lib.hid (pi_any t b bits hb h1 h64 hmax w)
  have HE := Lib.hid he
  clear he
  obtain ⟨r, hr⟩ : ∃ r, r = pi b (2 ^ bits - 1) (2 ^ (bits - 1)) t.data.toList := ⟨_, rfl⟩
  rw [← hr] at PA ⊢
  clear hr
  go_enter Tryz.func86, Tryz.ntmps86
  go_wp2_with fail
  refine PA.out.mono ?_
  rintro e w1 ⟨he, hb1⟩
  have HE1 := Lib.hid (HE.out.below hb1)
  rcases endsI_cases he with ⟨n, us, hr, rfl⟩ | ⟨hus, n, k, rfl, hk⟩
  · unfold tupI
    have HR := Lib.hid hr
    clear hr he
    go_wp2
    go_ret2
    rw [HR.out]
    exact ⟨.inl rfl, hb1⟩
  · unfold tupI
    have HK := Lib.hid hk
    have HU := Lib.hid hus
    clear hk hus he
    go_wp2_with (go_at_call 112; refine (toError_any _ t _ _ k HK.out w1 hmax HE1.out).mono ?_; rintro e w2 ⟨⟨v, rfl, hv⟩, hb2⟩)
    go_ret2
    exact ⟨endsP_fail HU.out ⟨n, v, rfl, hv⟩, hb1.trans (hb2.mono hb1.size)⟩

def tupU (n : Int) (v : Value) : Value := .tuple #[.int .u64 n, v]
def FailsU (e : Ending) : Prop := ∃ (n : Int) (v : Value), e = .returned (tupU n v) ∧ NumErr v

/-- How strconv.ParseUint ends. -/
def EndsU (r : NumEnd) (e : Ending) : Prop :=
  match r with
  | .ok n us => e = .returned (tupU n .nilIface) ∨ (us = true ∧ FailsU e)
  | _ => FailsU e

theorem ends_cases {mx : Nat} {r : NumEnd} {e : Ending} (h : Ends mx r e) : (∃ n us, r = .ok n us ∧ e = .returned (tupU n .nilIface)) ∨ ((∀ n us, r = .ok n us → us = true) ∧ ∃ n k : Int, e = .returned (tupU n (.iface 198 (.int .i64 k))) ∧ (k = 1 ∨ k = 2)) := by
  cases r with
  | syn => exact .inr ⟨fun _ _ h => by (cases h), _, _, h, .inr rfl⟩
  | rng => exact .inr ⟨fun _ _ h => by (cases h), _, _, h, .inl rfl⟩
  | ok n us =>
    rcases h with h | ⟨hu, h⟩
    · exact .inl ⟨n, us, rfl, h⟩
    · exact .inr ⟨fun _ _ h => by (cases h; exact hu), _, _, h, .inr rfl⟩

theorem endsU_fail {r : NumEnd} {e : Ending} (h : ∀ n us, r = .ok n us → us = true) (he : FailsU e) : EndsU r e := by
  cases r with
  | syn => exact he
  | rng => exact he
  | ok n us => exact .inr ⟨h n us rfl, he⟩

set_option maxHeartbeats 4000000 in
set_option maxRecDepth 100000 in
theorem parseUint (t : ByteArray) (b bits : Nat) (hb : b = 0 ∨ (2 ≤ b ∧ b ≤ 36)) (h1 : 1 ≤ bits) (h64 : bits ≤ 64) (hmax : t.size ≤ 140737488355328) (w : World) (he : Errs w) :
    Calls Tryz.prog 85 #[.string t, .int .i64 b, .int .i64 bits] w fun e w' => EndsU (pu b (2 ^ bits - 1) t.data.toList) e ∧ Below w.heap.size w w' := by
  have PA := Lib.hid (pu_any t b bits hb h1 h64 hmax w)
  have HE := Lib.hid he
  clear he
  obtain ⟨mx, hm⟩ : ∃ mx, mx = 2 ^ bits - 1 := ⟨_, rfl⟩
  rw [← hm] at PA ⊢
  obtain ⟨r, hr⟩ : ∃ r, r = pu b mx t.data.toList := ⟨_, rfl⟩
  rw [← hr] at PA ⊢
  clear hr hm
  go_enter Tryz.func85, Tryz.ntmps85
  go_wp2_with fail
  refine PA.out.mono ?_
  rintro e w1 ⟨he, hb1⟩
  have HE1 := Lib.hid (HE.out.below hb1)
  rcases ends_cases he with ⟨n, us, hr, rfl⟩ | ⟨hus, n, k, rfl, hk⟩
  · unfold tupU
    have HR := Lib.hid hr
    clear hr he
    go_wp2
    go_ret2
    rw [HR.out]
    exact ⟨.inl rfl, hb1⟩
  · unfold tupU
    have HK := Lib.hid hk
    have HU := Lib.hid hus
    clear hk hus he
    go_wp2_with (go_at_call 112; refine (toError_any _ t _ _ k HK.out w1 hmax HE1.out).mono ?_; rintro e w2 ⟨⟨v, rfl, hv⟩, hb2⟩)
    go_ret2
    exact ⟨endsU_fail HU.out ⟨n, v, rfl, hv⟩, hb1.trans (hb2.mono hb1.size)⟩

end Go.Proofs.YtpneioocmpagmaaGreatDoor.pu

