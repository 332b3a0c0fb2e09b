/- defval.Unmarshal at the kinds of whole numbers: its contracts. -/
import Derived.Test.YtdcgoaikfbbneaaGreatDoorDw
namespace Go.Proofs.YtdcgoaikfbbneaaGreatDoor.ints
open Go.RowKit Go.Proofs.YtdcgoaikfbbneaaGreatDoor.num Go.Proofs.YtdcgoaikfbbneaaGreatDoor.pu
set_option linter.unusedVariables false
set_option linter.unusedSimpArgs false

theorem endsP_cases {r : Option (Int × Bool)} {e : Ending} (h : EndsP r e) : (∃ n us, r = some (n, us) ∧ e = .returned (tupI n .nilIface)) ∨ ((∀ n us, r = some (n, us) → us = true) ∧ FailsP e) := by
  cases r with
  | none => exact .inr ⟨fun _ _ h => by (cases h), h⟩
  | some x =>
    obtain ⟨n, us⟩ := x
    rcases h with h | ⟨hu, h⟩
    · exact .inl ⟨n, us, rfl, h⟩
    · exact .inr ⟨fun _ _ h => by (cases h; exact hu), h⟩

theorem endsU_cases {r : NumEnd} {e : Ending} (h : EndsU r e) : (∃ n us, r = .ok n us ∧ e = .returned (tupU n .nilIface)) ∨ ((∀ n us, r = .ok n us → us = true) ∧ FailsU e) := by
  cases r with
  | syn => exact .inr ⟨fun _ _ h => by (cases h), h⟩
  | rng => exact .inr ⟨fun _ _ h => by (cases h), h⟩
  | ok n us =>
    rcases h with h | ⟨hu, h⟩
    · exact .inl ⟨n, us, rfl, h⟩
    · exact .inr ⟨fun _ _ h => by (cases h; exact hu), h⟩

theorem pi_range {b mx half : Nat} {l : List UInt8} {n : Int} {us : Bool} (hh : 0 < half) (h : pi b mx half l = some (n, us)) : -(half : Int) ≤ n ∧ n < half := by
  unfold pi at h
  by_cases h1 : l = []
  · rw [if_pos h1] at h; cases h
  · rw [if_neg h1] at h
    cases hp : pu b mx (sgn l).2 with
    | syn => rw [hp] at h; cases h
    | rng => rw [hp] at h; cases h
    | ok m u =>
      rw [hp] at h
      simp only at h
      by_cases h2 : (sgn l).1 = true
      · rw [if_pos h2] at h
        by_cases h3 : m ≤ half
        · rw [if_pos h3] at h; simp only [Option.some.injEq, Prod.mk.injEq] at h; omega
        · rw [if_neg h3] at h; cases h
      · rw [if_neg h2] at h
        by_cases h3 : m < half
        · rw [if_pos h3] at h; simp only [Option.some.injEq, Prod.mk.injEq] at h; omega
        · rw [if_neg h3] at h; cases h

/-- It ends with an error that is not nil, and a value of no kind. -/
def FailsV (e : Ending) : Prop := ∃ a, e = .returned (.tuple #[.agg #[.int .i64 0, .int .u64 0, .string ⟨#[]⟩, .slice none 0 0], .nilIface, .iface 106 (.pointer (some a))])

def valV (t : Int) (n : Int) : Value := .agg #[.int .i64 t, .int .u64 n, .string ⟨#[]⟩, .slice none 0 0]

set_option maxHeartbeats 4000000 in
set_option maxRecDepth 100000 in
theorem dun32 (s : ByteArray) (k f : Int) (hk : k = 5 ∨ k = 15 ∨ k = 17) (hmax : s.size ≤ 140737488355328) (w : World) (he : Errs w) :
    Calls Tryz.prog 10 #[.string s, .int .i8 k, .iface 50 (.slice none 0 0), .int .i64 f] w
      fun e w' => ((∃ (n : Int) (us : Bool), pi 0 (2 ^ 32 - 1) (2 ^ (32 - 1)) s.data.toList = some (n, us) ∧ e = .returned (.tuple #[valV 2 (IntKind.u64.wrap n), .nilIface, .nilIface])) ∨ ((∀ (n : Int) (us : Bool), pi 0 (2 ^ 32 - 1) (2 ^ (32 - 1)) s.data.toList = some (n, us) → us = true) ∧ FailsV e)) ∧ Below w.heap.size w w' := by
  have PA : ∀ o : Obj, Calls Tryz.prog 17 #[.string s, .int .i64 0, .int .i64 32] (w.alloc o) _ := fun o => parseInt s 0 32 (.inl rfl) (by omega) (by omega) hmax (w.alloc o) (he.below ((Below.refl _ _).alloc (Nat.le_refl _) _))
  obtain ⟨r, hr⟩ : ∃ r, r = pi 0 (2 ^ 32 - 1) (2 ^ (32 - 1)) s.data.toList := ⟨_, rfl⟩
  have R : ∀ n us, r = some (n, us) → IntKind.i32.wrap n = n := by
    intro n us h
    have := pi_range (by decide) (hr ▸ h)
    rw [IntKind.wrap_i32]
    simp only [Nat.reducePow, Nat.reduceSub] at this
    omega
  rw [← hr] at PA ⊢
  have PA := Lib.hid PA
  have R := Lib.hid R
  clear hr he
  rcases hk with rfl | rfl | rfl
  all_goals
    go_enter Tryz.func10, Tryz.ntmps10
    go_wp2_with fail
    refine (PA.out _).mono ?_
    rintro e w1 ⟨he, hb1⟩
    have HG : w1.heap[w.heap.size]? = some (.cells #[.int .i64 0, .int .u64 0, .string ⟨#[]⟩, .slice none 0 0] 40 (0, 0)) := (after_box hb1).1
    have HZ := (after_box hb1).2.1
    have HB := (after_box hb1).2.2
    clear hb1
    rcases endsP_cases he with ⟨n, us, hr, rfl⟩ | ⟨hus, n, v, rfl, N, rfl⟩
    · unfold tupI
      have hw := R.out n us hr
      have HR := Lib.hid hr
      clear hr he
      go_wp2_with (first | ((with_reducible refine store_blk ?_ 40 (.tmp 8) (.tmp 89) ?_ w.heap.size #[.int .i64 2, .int .u64 (IntKind.u64.wrap n), .string ⟨#[]⟩, .slice none 0 0] ?_ ?_ 40 #[.int .i64 0, .int .u64 0, .string ⟨#[]⟩, .slice none 0 0] (alloc_old HG) 4 infoP ?_ ?_ ?_ w w.heap.size (Nat.le_refl _) (HB.alloc (Nat.le_of_lt HZ) _) ?_); rfl; rfl; rfl; rfl; rfl; rfl; rfl; (intro w5 hg5 hcs ho5 hs5 hb5); have c0 := hcs 0 _ rfl; have c1 := hcs 1 _ rfl; have c2 := hcs 2 _ rfl; have c3 := hcs 3 _ rfl; clear hcs ho5; refine Hid.out ?_) | go_in)
      refine Lib.hid ?_
      go_wp2
      refine bodyPost_ret (v := .tuple #[valV 2 (IntKind.u64.wrap n), .nilIface, .nilIface]) (by simp [results, Tryz.results10, go_sem, c0, c1, c2, c3, valV]) rfl ⟨.inl ⟨n, us, HR.out, rfl⟩, hb5⟩
    · unfold tupI
      have HU := Lib.hid hus
      clear hus he
      go_wp2_with (first | (go_at_call 32; refine (new_any _ _).mono ?_; rintro e w2 ⟨⟨a, rfl⟩, hb2⟩; refine Hid.out ?_))
      have HG2 : w2.heap[w.heap.size]? = some (.cells #[.int .i64 0, .int .u64 0, .string ⟨#[]⟩, .slice none 0 0] 40 (0, 0)) := (hb2.block _ HZ).trans HG
      have HB2 : Below w.heap.size w w2 := HB.trans (hb2.mono (Nat.le_of_lt HZ))
      clear hb2
      refine Lib.hid ?_
      go_wp2_with (first | ((with_reducible refine store_blk ?_ 40 (.tmp 8) (.tmp 169) ?_ w.heap.size #[.int .i64 0, .int .u64 0, .string ⟨#[]⟩, .slice none 0 0] ?_ ?_ 40 #[.int .i64 0, .int .u64 0, .string ⟨#[]⟩, .slice none 0 0] HG2 4 infoP ?_ ?_ ?_ w w.heap.size (Nat.le_refl _) HB2 ?_); rfl; rfl; rfl; rfl; rfl; rfl; rfl; (intro w5 hg5 hcs ho5 hs5 hb5); have c0 := hcs 0 _ rfl; have c1 := hcs 1 _ rfl; have c2 := hcs 2 _ rfl; have c3 := hcs 3 _ rfl; clear hcs ho5; refine Hid.out ?_) | go_in)
      refine Lib.hid ?_
      go_wp2
      refine bodyPost_ret (v := .tuple #[.agg #[.int .i64 0, .int .u64 0, .string ⟨#[]⟩, .slice none 0 0], .nilIface, .iface 106 (.pointer (some a))]) (by simp [results, Tryz.results10, go_sem, c0, c1, c2, c3]) rfl ⟨.inr ⟨HU.out, a, rfl⟩, hb5⟩

set_option maxHeartbeats 4000000 in
set_option maxRecDepth 100000 in
theorem dun64 (s : ByteArray) (k f : Int) (hk : k = 3 ∨ k = 16 ∨ k = 18) (hmax : s.size ≤ 140737488355328) (w : World) (he : Errs w) :
    Calls Tryz.prog 10 #[.string s, .int .i8 k, .iface 50 (.slice none 0 0), .int .i64 f] w
      fun e w' => ((∃ (n : Int) (us : Bool), pi 0 (2 ^ 64 - 1) (2 ^ (64 - 1)) s.data.toList = some (n, us) ∧ e = .returned (.tuple #[valV 3 (IntKind.u64.wrap n), .nilIface, .nilIface])) ∨ ((∀ (n : Int) (us : Bool), pi 0 (2 ^ 64 - 1) (2 ^ (64 - 1)) s.data.toList = some (n, us) → us = true) ∧ FailsV e)) ∧ Below w.heap.size w w' := by
  have PA : ∀ o : Obj, Calls Tryz.prog 17 #[.string s, .int .i64 0, .int .i64 64] (w.alloc o) _ := fun o => parseInt s 0 64 (.inl rfl) (by omega) (by omega) hmax (w.alloc o) (he.below ((Below.refl _ _).alloc (Nat.le_refl _) _))
  obtain ⟨r, hr⟩ : ∃ r, r = pi 0 (2 ^ 64 - 1) (2 ^ (64 - 1)) s.data.toList := ⟨_, rfl⟩
  have R : ∀ n us, r = some (n, us) → IntKind.i64.wrap n = n := by
    intro n us h
    have := pi_range (by decide) (hr ▸ h)
    rw [IntKind.wrap_i64]
    simp only [Nat.reducePow, Nat.reduceSub] at this
    omega
  rw [← hr] at PA ⊢
  have PA := Lib.hid PA
  have R := Lib.hid R
  clear hr he
  rcases hk with rfl | rfl | rfl
  all_goals
    go_enter Tryz.func10, Tryz.ntmps10
    go_wp2_with fail
    refine (PA.out _).mono ?_
    rintro e w1 ⟨he, hb1⟩
    have HG : w1.heap[w.heap.size]? = some (.cells #[.int .i64 0, .int .u64 0, .string ⟨#[]⟩, .slice none 0 0] 40 (0, 0)) := (after_box hb1).1
    have HZ := (after_box hb1).2.1
    have HB := (after_box hb1).2.2
    clear hb1
    rcases endsP_cases he with ⟨n, us, hr, rfl⟩ | ⟨hus, n, v, rfl, N, rfl⟩
    · unfold tupI
      have hw := R.out n us hr
      have HR := Lib.hid hr
      clear hr he
      go_wp2_with (first | ((with_reducible refine store_blk ?_ 40 (.tmp 8) (.tmp 102) ?_ w.heap.size #[.int .i64 3, .int .u64 (IntKind.u64.wrap n), .string ⟨#[]⟩, .slice none 0 0] ?_ ?_ 40 #[.int .i64 0, .int .u64 0, .string ⟨#[]⟩, .slice none 0 0] (alloc_old HG) 4 infoP ?_ ?_ ?_ w w.heap.size (Nat.le_refl _) (HB.alloc (Nat.le_of_lt HZ) _) ?_); rfl; rfl; rfl; rfl; rfl; rfl; rfl; (intro w5 hg5 hcs ho5 hs5 hb5); have c0 := hcs 0 _ rfl; have c1 := hcs 1 _ rfl; have c2 := hcs 2 _ rfl; have c3 := hcs 3 _ rfl; clear hcs ho5; refine Hid.out ?_) | go_in)
      refine Lib.hid ?_
      go_wp2
      refine bodyPost_ret (v := .tuple #[valV 3 (IntKind.u64.wrap n), .nilIface, .nilIface]) (by simp [results, Tryz.results10, go_sem, c0, c1, c2, c3, valV]) rfl ⟨.inl ⟨n, us, HR.out, rfl⟩, hb5⟩
    · unfold tupI
      have HU := Lib.hid hus
      clear hus he
      go_wp2_with (first | (go_at_call 32; refine (new_any _ _).mono ?_; rintro e w2 ⟨⟨a, rfl⟩, hb2⟩; refine Hid.out ?_))
      have HG2 : w2.heap[w.heap.size]? = some (.cells #[.int .i64 0, .int .u64 0, .string ⟨#[]⟩, .slice none 0 0] 40 (0, 0)) := (hb2.block _ HZ).trans HG
      have HB2 : Below w.heap.size w w2 := HB.trans (hb2.mono (Nat.le_of_lt HZ))
      clear hb2
      refine Lib.hid ?_
      go_wp2_with (first | ((with_reducible refine store_blk ?_ 40 (.tmp 8) (.tmp 169) ?_ w.heap.size #[.int .i64 0, .int .u64 0, .string ⟨#[]⟩, .slice none 0 0] ?_ ?_ 40 #[.int .i64 0, .int .u64 0, .string ⟨#[]⟩, .slice none 0 0] HG2 4 infoP ?_ ?_ ?_ w w.heap.size (Nat.le_refl _) HB2 ?_); rfl; rfl; rfl; rfl; rfl; rfl; rfl; (intro w5 hg5 hcs ho5 hs5 hb5); have c0 := hcs 0 _ rfl; have c1 := hcs 1 _ rfl; have c2 := hcs 2 _ rfl; have c3 := hcs 3 _ rfl; clear hcs ho5; refine Hid.out ?_) | go_in)
      refine Lib.hid ?_
      go_wp2
      refine bodyPost_ret (v := .tuple #[.agg #[.int .i64 0, .int .u64 0, .string ⟨#[]⟩, .slice none 0 0], .nilIface, .iface 106 (.pointer (some a))]) (by simp [results, Tryz.results10, go_sem, c0, c1, c2, c3]) rfl ⟨.inr ⟨HU.out, a, rfl⟩, hb5⟩

set_option maxHeartbeats 4000000 in
set_option maxRecDepth 100000 in
theorem dunu32 (s : ByteArray) (k f : Int) (hk : k = 7 ∨ k = 13) (hmax : s.size ≤ 140737488355328) (w : World) (he : Errs w) :
    Calls Tryz.prog 10 #[.string s, .int .i8 k, .iface 50 (.slice none 0 0), .int .i64 f] w
      fun e w' => ((∃ (n : Nat) (us : Bool), pu 0 (2 ^ 32 - 1) s.data.toList = .ok n us ∧ e = .returned (.tuple #[valV 4 n, .nilIface, .nilIface])) ∨ ((∀ (n : Nat) (us : Bool), pu 0 (2 ^ 32 - 1) s.data.toList = .ok n us → us = true) ∧ FailsV e)) ∧ Below w.heap.size w w' := by
  have PA : ∀ o : Obj, Calls Tryz.prog 21 #[.string s, .int .i64 0, .int .i64 32] (w.alloc o) _ := fun o => parseUint s 0 32 (.inl rfl) (by omega) (by omega) hmax (w.alloc o) (he.below ((Below.refl _ _).alloc (Nat.le_refl _) _))
  obtain ⟨r, hr⟩ : ∃ r, r = pu 0 (2 ^ 32 - 1) s.data.toList := ⟨_, rfl⟩
  have R : ∀ n us, r = .ok n us → IntKind.u32.wrap (n : Int) = n ∧ IntKind.u64.wrap (n : Int) = n := by
    intro n us h
    have := pu_le (hr ▸ h)
    rw [IntKind.wrap_u32, IntKind.wrap_u64]
    simp only [Nat.reducePow, Nat.reduceSub] at this
    omega
  rw [← hr] at PA ⊢
  have PA := Lib.hid PA
  have R := Lib.hid R
  clear hr he
  rcases hk with rfl | rfl
  all_goals
    go_enter Tryz.func10, Tryz.ntmps10
    go_wp2_with fail
    refine (PA.out _).mono ?_
    rintro e w1 ⟨he, hb1⟩
    have HG : w1.heap[w.heap.size]? = some (.cells #[.int .i64 0, .int .u64 0, .string ⟨#[]⟩, .slice none 0 0] 40 (0, 0)) := (after_box hb1).1
    have HZ := (after_box hb1).2.1
    have HB := (after_box hb1).2.2
    clear hb1
    rcases endsU_cases he with ⟨n, us, hr, rfl⟩ | ⟨hus, n, v, rfl, N, rfl⟩
    · unfold tupU
      have hw := R.out n us hr
      obtain ⟨hw, hw64⟩ := hw
      have HR := Lib.hid hr
      clear hr he
      go_wp2_with (first | ((with_reducible refine store_blk ?_ 40 (.tmp 8) (.tmp 115) ?_ w.heap.size #[.int .i64 4, .int .u64 n, .string ⟨#[]⟩, .slice none 0 0] ?_ ?_ 40 #[.int .i64 0, .int .u64 0, .string ⟨#[]⟩, .slice none 0 0] (alloc_old HG) 4 infoP ?_ ?_ ?_ w w.heap.size (Nat.le_refl _) (HB.alloc (Nat.le_of_lt HZ) _) ?_); rfl; rfl; rfl; rfl; rfl; rfl; rfl; (intro w5 hg5 hcs ho5 hs5 hb5); have c0 := hcs 0 _ rfl; have c1 := hcs 1 _ rfl; have c2 := hcs 2 _ rfl; have c3 := hcs 3 _ rfl; clear hcs ho5; refine Hid.out ?_) | go_in)
      refine Lib.hid ?_
      go_wp2
      refine bodyPost_ret (v := .tuple #[valV 4 n, .nilIface, .nilIface]) (by simp [results, Tryz.results10, go_sem, c0, c1, c2, c3, valV]) rfl ⟨.inl ⟨n, us, HR.out, rfl⟩, hb5⟩
    · unfold tupU
      have HU := Lib.hid hus
      clear hus he
      go_wp2_with (first | (go_at_call 32; refine (new_any _ _).mono ?_; rintro e w2 ⟨⟨a, rfl⟩, hb2⟩; refine Hid.out ?_))
      have HG2 : w2.heap[w.heap.size]? = some (.cells #[.int .i64 0, .int .u64 0, .string ⟨#[]⟩, .slice none 0 0] 40 (0, 0)) := (hb2.block _ HZ).trans HG
      have HB2 : Below w.heap.size w w2 := HB.trans (hb2.mono (Nat.le_of_lt HZ))
      clear hb2
      refine Lib.hid ?_
      go_wp2_with (first | ((with_reducible refine store_blk ?_ 40 (.tmp 8) (.tmp 169) ?_ w.heap.size #[.int .i64 0, .int .u64 0, .string ⟨#[]⟩, .slice none 0 0] ?_ ?_ 40 #[.int .i64 0, .int .u64 0, .string ⟨#[]⟩, .slice none 0 0] HG2 4 infoP ?_ ?_ ?_ w w.heap.size (Nat.le_refl _) HB2 ?_); rfl; rfl; rfl; rfl; rfl; rfl; rfl; (intro w5 hg5 hcs ho5 hs5 hb5); have c0 := hcs 0 _ rfl; have c1 := hcs 1 _ rfl; have c2 := hcs 2 _ rfl; have c3 := hcs 3 _ rfl; clear hcs ho5; refine Hid.out ?_) | go_in)
      refine Lib.hid ?_
      go_wp2
      refine bodyPost_ret (v := .tuple #[.agg #[.int .i64 0, .int .u64 0, .string ⟨#[]⟩, .slice none 0 0], .nilIface, .iface 106 (.pointer (some a))]) (by simp [results, Tryz.results10, go_sem, c0, c1, c2, c3]) rfl ⟨.inr ⟨HU.out, a, rfl⟩, hb5⟩

set_option maxHeartbeats 4000000 in
set_option maxRecDepth 100000 in
theorem dunu64 (s : ByteArray) (k f : Int) (hk : k = 4 ∨ k = 6) (hmax : s.size ≤ 140737488355328) (w : World) (he : Errs w) :
    Calls Tryz.prog 10 #[.string s, .int .i8 k, .iface 50 (.slice none 0 0), .int .i64 f] w
      fun e w' => ((∃ (n : Nat) (us : Bool), pu 0 (2 ^ 64 - 1) s.data.toList = .ok n us ∧ e = .returned (.tuple #[valV 5 n, .nilIface, .nilIface])) ∨ ((∀ (n : Nat) (us : Bool), pu 0 (2 ^ 64 - 1) s.data.toList = .ok n us → us = true) ∧ FailsV e)) ∧ Below w.heap.size w w' := by
  have PA : ∀ o : Obj, Calls Tryz.prog 21 #[.string s, .int .i64 0, .int .i64 64] (w.alloc o) _ := fun o => parseUint s 0 64 (.inl rfl) (by omega) (by omega) hmax (w.alloc o) (he.below ((Below.refl _ _).alloc (Nat.le_refl _) _))
  obtain ⟨r, hr⟩ : ∃ r, r = pu 0 (2 ^ 64 - 1) s.data.toList := ⟨_, rfl⟩
  have R : ∀ n us, r = .ok n us → IntKind.u64.wrap (n : Int) = n ∧ IntKind.u64.wrap (n : Int) = n := by
    intro n us h
    have := pu_le (hr ▸ h)
    rw [IntKind.wrap_u64]
    simp only [Nat.reducePow, Nat.reduceSub] at this
    omega
  rw [← hr] at PA ⊢
  have PA := Lib.hid PA
  have R := Lib.hid R
  clear hr he
  rcases hk with rfl | rfl
  all_goals
    go_enter Tryz.func10, Tryz.ntmps10
    go_wp2_with fail
    refine (PA.out _).mono ?_
    rintro e w1 ⟨he, hb1⟩
    have HG : w1.heap[w.heap.size]? = some (.cells #[.int .i64 0, .int .u64 0, .string ⟨#[]⟩, .slice none 0 0] 40 (0, 0)) := (after_box hb1).1
    have HZ := (after_box hb1).2.1
    have HB := (after_box hb1).2.2
    clear hb1
    rcases endsU_cases he with ⟨n, us, hr, rfl⟩ | ⟨hus, n, v, rfl, N, rfl⟩
    · unfold tupU
      have hw := R.out n us hr
      obtain ⟨hw, hw64⟩ := hw
      have HR := Lib.hid hr
      clear hr he
      go_wp2_with (first | ((with_reducible refine store_blk ?_ 40 (.tmp 8) (.tmp 127) ?_ w.heap.size #[.int .i64 5, .int .u64 n, .string ⟨#[]⟩, .slice none 0 0] ?_ ?_ 40 #[.int .i64 0, .int .u64 0, .string ⟨#[]⟩, .slice none 0 0] (alloc_old HG) 4 infoP ?_ ?_ ?_ w w.heap.size (Nat.le_refl _) (HB.alloc (Nat.le_of_lt HZ) _) ?_); rfl; rfl; rfl; rfl; rfl; rfl; rfl; (intro w5 hg5 hcs ho5 hs5 hb5); have c0 := hcs 0 _ rfl; have c1 := hcs 1 _ rfl; have c2 := hcs 2 _ rfl; have c3 := hcs 3 _ rfl; clear hcs ho5; refine Hid.out ?_) | go_in)
      refine Lib.hid ?_
      go_wp2
      refine bodyPost_ret (v := .tuple #[valV 5 n, .nilIface, .nilIface]) (by simp [results, Tryz.results10, go_sem, c0, c1, c2, c3, valV]) rfl ⟨.inl ⟨n, us, HR.out, rfl⟩, hb5⟩
    · unfold tupU
      have HU := Lib.hid hus
      clear hus he
      go_wp2_with (first | (go_at_call 32; refine (new_any _ _).mono ?_; rintro e w2 ⟨⟨a, rfl⟩, hb2⟩; refine Hid.out ?_))
      have HG2 : w2.heap[w.heap.size]? = some (.cells #[.int .i64 0, .int .u64 0, .string ⟨#[]⟩, .slice none 0 0] 40 (0, 0)) := (hb2.block _ HZ).trans HG
      have HB2 : Below w.heap.size w w2 := HB.trans (hb2.mono (Nat.le_of_lt HZ))
      clear hb2
      refine Lib.hid ?_
      go_wp2_with (first | ((with_reducible refine store_blk ?_ 40 (.tmp 8) (.tmp 169) ?_ w.heap.size #[.int .i64 0, .int .u64 0, .string ⟨#[]⟩, .slice none 0 0] ?_ ?_ 40 #[.int .i64 0, .int .u64 0, .string ⟨#[]⟩, .slice none 0 0] HG2 4 infoP ?_ ?_ ?_ w w.heap.size (Nat.le_refl _) HB2 ?_); rfl; rfl; rfl; rfl; rfl; rfl; rfl; (intro w5 hg5 hcs ho5 hs5 hb5); have c0 := hcs 0 _ rfl; have c1 := hcs 1 _ rfl; have c2 := hcs 2 _ rfl; have c3 := hcs 3 _ rfl; clear hcs ho5; refine Hid.out ?_) | go_in)
      refine Lib.hid ?_
      go_wp2
      refine bodyPost_ret (v := .tuple #[.agg #[.int .i64 0, .int .u64 0, .string ⟨#[]⟩, .slice none 0 0], .nilIface, .iface 106 (.pointer (some a))]) (by simp [results, Tryz.results10, go_sem, c0, c1, c2, c3]) rfl ⟨.inr ⟨HU.out, a, rfl⟩, hb5⟩

end Go.Proofs.YtdcgoaikfbbneaaGreatDoor.ints
