/- The text form's token at a whole number: Bool, Int64, Int32, Uint64, Uint32, Float64, Float32, Enum, String. -/
import Derived.Test.YtpneioocmpagmaaGreatDoorTt
import Derived.Test.YtpneioocmpagmaaGreatDoorTf
import Derived.Test.YtpneioocmpagmaaGreatDoorPp
namespace Go.Proofs.YtpneioocmpagmaaGreatDoor.tx
open Go.RowKit Go.Proofs.YtpneioocmpagmaaGreatDoor.pu Go.Proofs.YtpneioocmpagmaaGreatDoor.num Go.Proofs.YtpneioocmpagmaaGreatDoor.fl
set_option linter.unusedVariables false
set_option linter.unusedSimpArgs false

def numTok (na : Nat) (p : Int) (raw : Value) (s : ByteArray) : Tok := ⟨3, 1, na, p, raw, s⟩

theorem conv_down (w : World) (b : Nat) : ∃ r n, (convert 93 98 (.float .f64 b)).run Tryz.prog w = .ok (.float .f32 r) (w.drewN n) := by
  have h1 := Tryz.underlying93
  have h2 := Tryz.underlying98
  cases hd : FloatKind.f64.decode b with
  | nan s t =>
    by_cases hf : (Question.nanConv FloatKind.f32 b).forced = true
    · exact ⟨_, 0, by simp [convert, run_underlying h1, run_underlying h2, Conv.floatToFloat, hd, hf]; exact ⟨rfl, rfl⟩⟩
    · exact ⟨_, 1, by simp [convert, run_underlying h1, run_underlying h2, Conv.floatToFloat, hd, hf]; exact ⟨rfl, rfl⟩⟩
  | infinity s => exact ⟨_, 0, by simp [convert, run_underlying h1, run_underlying h2, Conv.floatToFloat, hd]; exact ⟨rfl, rfl⟩⟩
  | number s m e =>
    by_cases hi : (FloatKind.f32.decode (FloatKind.f32.encode (.number s m e))).isInfinity = true
    · by_cases hf : (Question.floatToFloat b).forced = true
      · exact ⟨_, 0, by simp [convert, run_underlying h1, run_underlying h2, Conv.floatToFloat, hd, hi, hf]; exact ⟨rfl, rfl⟩⟩
      · exact ⟨_, 1, by simp [convert, run_underlying h1, run_underlying h2, Conv.floatToFloat, hd, hi, hf]; exact ⟨rfl, rfl⟩⟩
    · exact ⟨_, 0, by simp [convert, run_underlying h1, run_underlying h2, Conv.floatToFloat, hd, hi]; exact ⟨rfl, rfl⟩⟩

/-- ParseUint at a text that is read as n, or as none. -/
theorem pu_some {mx : Nat} {l : List UInt8} {n : Nat} {e : Ending} (h : EndsU (pu 0 mx l) e) (hp : pu 0 mx l = .ok n false) : e = .returned (tupU n .nilIface) := by
  rw [hp] at h
  rcases h with h | ⟨h, _⟩
  · exact h
  · cases h

theorem pu_none {mx : Nat} {l : List UInt8} {e : Ending} (h : EndsU (pu 0 mx l) e) (hp : pu 0 mx l = .syn ∨ pu 0 mx l = .rng) : FailsU e := by
  rcases hp with hp | hp <;> rw [hp] at h <;> exact h

theorem endsU_any {r : NumEnd} {e : Ending} (h : EndsU r e) : (∃ n : Int, e = .returned (tupU n .nilIface)) ∨ FailsU e := by
  cases r with
  | ok n us => rcases h with h | ⟨_, h⟩
               · exact .inl ⟨_, h⟩
               · exact .inr h
  | syn => exact .inr h
  | rng => exact .inr h

theorem pi_some {mx half : Nat} {l : List UInt8} {n : Int} {e : Ending} (h : EndsP (pi 0 mx half l) e) (hp : pi 0 mx half l = some (n, false)) : e = .returned (tupI n .nilIface) := by
  rw [hp] at h
  rcases h with h | ⟨h, _⟩
  · exact h
  · cases h

theorem pi_none {mx half : Nat} {l : List UInt8} {e : Ending} (h : EndsP (pi 0 mx half l) e) (hp : pi 0 mx half l = none) : FailsP e := by
  rw [hp] at h; exact h

set_option maxHeartbeats 4000000 in
set_option maxRecDepth 100000 in
theorem tok_int64 (na : Nat) (p : Int) (raw : Value) (hraw : raw.oneCell' = true) (s : ByteArray) (hmax : s.size ≤ 140737488355328) (n : Int) (hp : pi 0 (2 ^ 64 - 1) (2 ^ (64 - 1)) s.data.toList = some (n, false)) (hna : na = 0 ∨ na = 128) (w : World) (he : Errs w) :
    Calls Tryz.prog 54 #[(numTok na p raw s).v] w fun e w' => e = .returned (.tuple #[.int .i64 n, .bool true]) ∧ Below w.heap.size w w' := by
  have HP := Lib.hid (fun (W : World) (hW : Below w.heap.size w W) => parseInt s 0 64 (.inl rfl) (by decide) (by decide) hmax W (he.below hW))
  have HPI := Lib.hid hp
  clear hp he
  unfold numTok Tok.v
  have b0 : bits .and .u8 ((0 : Nat) : Int) 4 = 0 := by decide
  have b1 : bits .and .u8 ((128 : Nat) : Int) 4 = 0 := by decide
  have b2 : bits .and .u8 ((0 : Nat) : Int) 128 = 0 := by decide
  have b3 : bits .and .u8 ((128 : Nat) : Int) 128 = 128 := by decide
  rcases hna with rfl | rfl
  all_goals
    go_enter Tryz.func54, Tryz.ntmps54
    go_wp2_with fail
    refine (HP.out _ (by go_grown)).mono ?_
    rintro e w2 ⟨hends, hb2⟩
    obtain rfl := pi_some hends HPI.out
    clear hends
    unfold tupI
    go_wp2_with fail
    go_ret2
    exact ⟨rfl, Below.trans ((Below.refl _ _).alloc (Nat.le_refl _) _) (hb2.mono (by simp))⟩

set_option maxHeartbeats 4000000 in
set_option maxRecDepth 100000 in
theorem tok_int64_none (na : Nat) (p : Int) (raw : Value) (hraw : raw.oneCell' = true) (s : ByteArray) (hmax : s.size ≤ 140737488355328)  (hp : pi 0 (2 ^ 64 - 1) (2 ^ (64 - 1)) s.data.toList = none) (hna : na = 0 ∨ na = 128) (w : World) (he : Errs w) :
    Calls Tryz.prog 54 #[(numTok na p raw s).v] w fun e w' => e = .returned (.tuple #[.int .i64 0, .bool false]) ∧ Below w.heap.size w w' := by
  have HP := Lib.hid (fun (W : World) (hW : Below w.heap.size w W) => parseInt s 0 64 (.inl rfl) (by decide) (by decide) hmax W (he.below hW))
  have HPI := Lib.hid hp
  clear hp he
  unfold numTok Tok.v
  have b0 : bits .and .u8 ((0 : Nat) : Int) 4 = 0 := by decide
  have b1 : bits .and .u8 ((128 : Nat) : Int) 4 = 0 := by decide
  have b2 : bits .and .u8 ((0 : Nat) : Int) 128 = 0 := by decide
  have b3 : bits .and .u8 ((128 : Nat) : Int) 128 = 128 := by decide
  rcases hna with rfl | rfl
  all_goals
    go_enter Tryz.func54, Tryz.ntmps54
    go_wp2_with fail
    refine (HP.out _ (by go_grown)).mono ?_
    rintro e w2 ⟨hends, hb2⟩
    obtain ⟨n', v', rfl, N', rfl⟩ := pi_none hends HPI.out
    clear hends
    unfold tupI
    go_wp2_with fail
    go_ret2
    exact ⟨rfl, Below.trans ((Below.refl _ _).alloc (Nat.le_refl _) _) (hb2.mono (by simp))⟩

set_option maxHeartbeats 4000000 in
set_option maxRecDepth 100000 in
theorem tok_int32 (na : Nat) (p : Int) (raw : Value) (hraw : raw.oneCell' = true) (s : ByteArray) (hmax : s.size ≤ 140737488355328) (n : Int) (h0 : -2147483648 ≤ n) (h1 : n ≤ 2147483647) (hp : pi 0 (2 ^ 32 - 1) (2 ^ (32 - 1)) s.data.toList = some (n, false)) (hna : na = 0 ∨ na = 128) (w : World) (he : Errs w) :
    Calls Tryz.prog 55 #[(numTok na p raw s).v] w fun e w' => e = .returned (.tuple #[.int .i32 n, .bool true]) ∧ Below w.heap.size w w' := by
  have HP := Lib.hid (fun (W : World) (hW : Below w.heap.size w W) => parseInt s 0 32 (.inl rfl) (by decide) (by decide) hmax W (he.below hW))
  have HPI := Lib.hid hp
  clear hp he
  unfold numTok Tok.v
  have b0 : bits .and .u8 ((0 : Nat) : Int) 4 = 0 := by decide
  have b1 : bits .and .u8 ((128 : Nat) : Int) 4 = 0 := by decide
  have b2 : bits .and .u8 ((0 : Nat) : Int) 128 = 0 := by decide
  have b3 : bits .and .u8 ((128 : Nat) : Int) 128 = 128 := by decide
  rcases hna with rfl | rfl
  all_goals
    go_enter Tryz.func55, Tryz.ntmps55
    go_wp2_with fail
    refine (HP.out _ (by go_grown)).mono ?_
    rintro e w2 ⟨hends, hb2⟩
    obtain rfl := pi_some hends HPI.out
    clear hends
    unfold tupI
    go_wp2_with fail
    go_ret2
    exact ⟨rfl, Below.trans ((Below.refl _ _).alloc (Nat.le_refl _) _) (hb2.mono (by simp))⟩

set_option maxHeartbeats 4000000 in
set_option maxRecDepth 100000 in
theorem tok_int32_none (na : Nat) (p : Int) (raw : Value) (hraw : raw.oneCell' = true) (s : ByteArray) (hmax : s.size ≤ 140737488355328)  (hp : pi 0 (2 ^ 32 - 1) (2 ^ (32 - 1)) s.data.toList = none) (hna : na = 0 ∨ na = 128) (w : World) (he : Errs w) :
    Calls Tryz.prog 55 #[(numTok na p raw s).v] w fun e w' => e = .returned (.tuple #[.int .i32 0, .bool false]) ∧ Below w.heap.size w w' := by
  have HP := Lib.hid (fun (W : World) (hW : Below w.heap.size w W) => parseInt s 0 32 (.inl rfl) (by decide) (by decide) hmax W (he.below hW))
  have HPI := Lib.hid hp
  clear hp he
  unfold numTok Tok.v
  have b0 : bits .and .u8 ((0 : Nat) : Int) 4 = 0 := by decide
  have b1 : bits .and .u8 ((128 : Nat) : Int) 4 = 0 := by decide
  have b2 : bits .and .u8 ((0 : Nat) : Int) 128 = 0 := by decide
  have b3 : bits .and .u8 ((128 : Nat) : Int) 128 = 128 := by decide
  rcases hna with rfl | rfl
  all_goals
    go_enter Tryz.func55, Tryz.ntmps55
    go_wp2_with fail
    refine (HP.out _ (by go_grown)).mono ?_
    rintro e w2 ⟨hends, hb2⟩
    obtain ⟨n', v', rfl, N', rfl⟩ := pi_none hends HPI.out
    clear hends
    unfold tupI
    go_wp2_with fail
    go_ret2
    exact ⟨rfl, Below.trans ((Below.refl _ _).alloc (Nat.le_refl _) _) (hb2.mono (by simp))⟩

set_option maxHeartbeats 4000000 in
set_option maxRecDepth 100000 in
theorem tok_uint64 (na : Nat) (p : Int) (raw : Value) (hraw : raw.oneCell' = true) (s : ByteArray) (hmax : s.size ≤ 140737488355328) (n : Nat) (hp : pu 0 (2 ^ 64 - 1) s.data.toList = .ok n false) (hna : na = 0) (w : World) (he : Errs w) :
    Calls Tryz.prog 56 #[(numTok na p raw s).v] w fun e w' => e = .returned (.tuple #[.int .u64 n, .bool true]) ∧ Below w.heap.size w w' := by
  have HP := Lib.hid (fun (W : World) (hW : Below w.heap.size w W) => parseUint s 0 64 (.inl rfl) (by decide) (by decide) hmax W (he.below hW))
  have HPI := Lib.hid hp
  clear hp he
  unfold numTok Tok.v
  have b0 : bits .and .u8 ((0 : Nat) : Int) 4 = 0 := by decide
  have b1 : bits .and .u8 ((128 : Nat) : Int) 4 = 0 := by decide
  have b2 : bits .and .u8 ((0 : Nat) : Int) 128 = 0 := by decide
  have b3 : bits .and .u8 ((128 : Nat) : Int) 128 = 128 := by decide
  obtain rfl := hna
  all_goals
    go_enter Tryz.func56, Tryz.ntmps56
    go_wp2_with fail
    refine (HP.out _ (by go_grown)).mono ?_
    rintro e w2 ⟨hends, hb2⟩
    obtain rfl := pu_some hends HPI.out
    clear hends
    unfold tupU
    go_wp2_with fail
    go_ret2
    exact ⟨rfl, Below.trans ((Below.refl _ _).alloc (Nat.le_refl _) _) (hb2.mono (by simp))⟩

set_option maxHeartbeats 4000000 in
set_option maxRecDepth 100000 in
theorem tok_uint32 (na : Nat) (p : Int) (raw : Value) (hraw : raw.oneCell' = true) (s : ByteArray) (hmax : s.size ≤ 140737488355328) (n : Nat) (h1 : n ≤ 4294967295) (hp : pu 0 (2 ^ 32 - 1) s.data.toList = .ok n false) (hna : na = 0) (w : World) (he : Errs w) :
    Calls Tryz.prog 57 #[(numTok na p raw s).v] w fun e w' => e = .returned (.tuple #[.int .u32 n, .bool true]) ∧ Below w.heap.size w w' := by
  have HP := Lib.hid (fun (W : World) (hW : Below w.heap.size w W) => parseUint s 0 32 (.inl rfl) (by decide) (by decide) hmax W (he.below hW))
  have HPI := Lib.hid hp
  clear hp he
  unfold numTok Tok.v
  have b0 : bits .and .u8 ((0 : Nat) : Int) 4 = 0 := by decide
  have b1 : bits .and .u8 ((128 : Nat) : Int) 4 = 0 := by decide
  have b2 : bits .and .u8 ((0 : Nat) : Int) 128 = 0 := by decide
  have b3 : bits .and .u8 ((128 : Nat) : Int) 128 = 128 := by decide
  obtain rfl := hna
  all_goals
    go_enter Tryz.func57, Tryz.ntmps57
    go_wp2_with fail
    refine (HP.out _ (by go_grown)).mono ?_
    rintro e w2 ⟨hends, hb2⟩
    obtain rfl := pu_some hends HPI.out
    clear hends
    unfold tupU
    go_wp2_with fail
    go_ret2
    exact ⟨rfl, Below.trans ((Below.refl _ _).alloc (Nat.le_refl _) _) (hb2.mono (by simp))⟩

set_option maxHeartbeats 4000000 in
set_option maxRecDepth 100000 in
theorem tok_uint32_none (na : Nat) (p : Int) (raw : Value) (hraw : raw.oneCell' = true) (s : ByteArray) (hmax : s.size ≤ 140737488355328)  (hp : (pu 0 (2 ^ 32 - 1) s.data.toList = .syn ∨ pu 0 (2 ^ 32 - 1) s.data.toList = .rng)) (hna : na = 0) (w : World) (he : Errs w) :
    Calls Tryz.prog 57 #[(numTok na p raw s).v] w fun e w' => e = .returned (.tuple #[.int .u32 0, .bool false]) ∧ Below w.heap.size w w' := by
  have HP := Lib.hid (fun (W : World) (hW : Below w.heap.size w W) => parseUint s 0 32 (.inl rfl) (by decide) (by decide) hmax W (he.below hW))
  have HPI := Lib.hid hp
  clear hp he
  unfold numTok Tok.v
  have b0 : bits .and .u8 ((0 : Nat) : Int) 4 = 0 := by decide
  have b1 : bits .and .u8 ((128 : Nat) : Int) 4 = 0 := by decide
  have b2 : bits .and .u8 ((0 : Nat) : Int) 128 = 0 := by decide
  have b3 : bits .and .u8 ((128 : Nat) : Int) 128 = 128 := by decide
  obtain rfl := hna
  all_goals
    go_enter Tryz.func57, Tryz.ntmps57
    go_wp2_with fail
    refine (HP.out _ (by go_grown)).mono ?_
    rintro e w2 ⟨hends, hb2⟩
    obtain ⟨n', v', rfl, N', rfl⟩ := pu_none hends HPI.out
    clear hends
    unfold tupU
    go_wp2_with fail
    go_ret2
    exact ⟨rfl, Below.trans ((Below.refl _ _).alloc (Nat.le_refl _) _) (hb2.mono (by simp))⟩

set_option maxHeartbeats 4000000 in
set_option maxRecDepth 100000 in
theorem tok_uint64_neg (na : Nat) (p : Int) (raw : Value) (hraw : raw.oneCell' = true) (s : ByteArray) (hna : na = 128) (w : World) :
    Calls Tryz.prog 56 #[(numTok na p raw s).v] w fun e w' => e = .returned (.tuple #[.int .u64 0, .bool false]) ∧ Below w.heap.size w w' := by
  unfold numTok Tok.v
  have b0 : bits .and .u8 ((0 : Nat) : Int) 4 = 0 := by decide
  have b1 : bits .and .u8 ((128 : Nat) : Int) 4 = 0 := by decide
  have b2 : bits .and .u8 ((0 : Nat) : Int) 128 = 0 := by decide
  have b3 : bits .and .u8 ((128 : Nat) : Int) 128 = 128 := by decide
  obtain rfl := hna
  all_goals
    go_enter Tryz.func56, Tryz.ntmps56
    go_wp2_with fail
    go_ret2
    exact ⟨rfl, (Below.refl _ _).alloc (Nat.le_refl _) _⟩

set_option maxHeartbeats 4000000 in
set_option maxRecDepth 100000 in
theorem tok_uint32_neg (na : Nat) (p : Int) (raw : Value) (hraw : raw.oneCell' = true) (s : ByteArray) (hna : na = 128) (w : World) :
    Calls Tryz.prog 57 #[(numTok na p raw s).v] w fun e w' => e = .returned (.tuple #[.int .u32 0, .bool false]) ∧ Below w.heap.size w w' := by
  unfold numTok Tok.v
  have b0 : bits .and .u8 ((0 : Nat) : Int) 4 = 0 := by decide
  have b1 : bits .and .u8 ((128 : Nat) : Int) 4 = 0 := by decide
  have b2 : bits .and .u8 ((0 : Nat) : Int) 128 = 0 := by decide
  have b3 : bits .and .u8 ((128 : Nat) : Int) 128 = 128 := by decide
  obtain rfl := hna
  all_goals
    go_enter Tryz.func57, Tryz.ntmps57
    go_wp2_with fail
    go_ret2
    exact ⟨rfl, (Below.refl _ _).alloc (Nat.le_refl _) _⟩

set_option maxHeartbeats 4000000 in
set_option maxRecDepth 100000 in
theorem tok_enum (na : Nat) (p : Int) (raw : Value) (hraw : raw.oneCell' = true) (s : ByteArray) (hna : na = 0 ∨ na = 128) (w : World) :
    Calls Tryz.prog 60 #[(numTok na p raw s).v] w fun e w' => e = .returned (.tuple #[.string ⟨#[]⟩, .bool false]) ∧ Below w.heap.size w w' := by
  unfold numTok Tok.v
  have b0 : bits .and .u8 ((0 : Nat) : Int) 4 = 0 := by decide
  have b1 : bits .and .u8 ((128 : Nat) : Int) 4 = 0 := by decide
  have b2 : bits .and .u8 ((0 : Nat) : Int) 128 = 0 := by decide
  have b3 : bits .and .u8 ((128 : Nat) : Int) 128 = 128 := by decide
  rcases hna with rfl | rfl
  all_goals
    go_enter Tryz.func60, Tryz.ntmps60
    go_wp2_with fail
    go_ret2
    exact ⟨rfl, (Below.refl _ _).alloc (Nat.le_refl _) _⟩

set_option maxHeartbeats 4000000 in
set_option maxRecDepth 100000 in
theorem tok_string (na : Nat) (p : Int) (raw : Value) (hraw : raw.oneCell' = true) (s : ByteArray) (hna : na = 0 ∨ na = 128) (w : World) :
    Calls Tryz.prog 61 #[(numTok na p raw s).v] w fun e w' => e = .returned (.tuple #[.string ⟨#[]⟩, .bool false]) ∧ Below w.heap.size w w' := by
  unfold numTok Tok.v
  have b0 : bits .and .u8 ((0 : Nat) : Int) 4 = 0 := by decide
  have b1 : bits .and .u8 ((128 : Nat) : Int) 4 = 0 := by decide
  have b2 : bits .and .u8 ((0 : Nat) : Int) 128 = 0 := by decide
  have b3 : bits .and .u8 ((128 : Nat) : Int) 128 = 128 := by decide
  rcases hna with rfl | rfl
  all_goals
    go_enter Tryz.func61, Tryz.ntmps61
    go_wp2_with fail
    go_ret2
    exact ⟨rfl, (Below.refl _ _).alloc (Nat.le_refl _) _⟩

set_option maxHeartbeats 4000000 in
set_option maxRecDepth 100000 in
theorem tok_bool (na : Nat) (p : Int) (raw : Value) (hraw : raw.oneCell' = true) (s : ByteArray) (hmax : s.size ≤ 140737488355328) (w : World) (he : Errs w) :
    Calls Tryz.prog 53 #[(numTok na p raw s).v] w fun e w' => (∃ x y : Bool, e = .returned (.tuple #[.bool x, .bool y])) ∧ Below w.heap.size w w' := by
  have HP := Lib.hid (fun (W : World) (hW : Below w.heap.size w W) => parseUint s 0 64 (.inl rfl) (by decide) (by decide) hmax W (he.below hW))
  clear he
  unfold numTok Tok.v
  go_enter Tryz.func53, Tryz.ntmps53
  go_wp2_with fail
  refine (HP.out _ (by go_grown)).mono ?_
  rintro e w2 ⟨hends, hb2⟩
  have HB := Lib.hid (Below.trans ((Below.refl _ _).alloc (Nat.le_refl _) _) (hb2.mono (by simp)) : Below w.heap.size w w2)
  clear hb2
  rcases endsU_any hends with ⟨n, rfl⟩ | ⟨n', v', rfl, N', rfl⟩
  · clear hends
    unfold tupU
    go_wp2_with fail
    all_goals
      go_ret2
      exact ⟨⟨_, _, rfl⟩, HB.out⟩
  · clear hends
    unfold tupU
    go_wp2_with fail
    go_ret2
    exact ⟨⟨_, _, rfl⟩, HB.out⟩

set_option maxHeartbeats 4000000 in
set_option maxRecDepth 100000 in
theorem tok_f64 (na : Nat) (p : Int) (raw : Value) (hraw : raw.oneCell' = true) (s : ByteArray) (m : Nat) (pw : Int) (ng : Bool) (hf : Few s m pw ng) (hpw : pw ≤ 100) (w : World) (hE : ∀ w', Below w.heap.size w w' → FEnv w') :
    Calls Tryz.prog 58 #[(numTok na p raw s).v] w fun e w' => (∃ b : Nat, e = .returned (.tuple #[.float .f64 b, .bool true])) ∧ Below w.heap.size w w' := by
  have HP := Lib.hid (fun (W : World) (hW : Below w.heap.size w W) => parse_float_nil s m pw ng hf hpw W (fun w' h => hE w' (hW.trans (h.mono hW.size))))
  clear hf hE
  unfold numTok Tok.v
  go_enter Tryz.func58, Tryz.ntmps58
  go_wp2_with fail
  refine (HP.out _ (by go_grown)).mono ?_
  rintro e w2 ⟨⟨fb, rfl⟩, hb2⟩
  have HB := Lib.hid (Below.trans ((Below.refl _ _).alloc (Nat.le_refl _) _) (hb2.mono (by simp)) : Below w.heap.size w w2)
  clear hb2
  go_wp2_with fail
  go_ret2
  exact ⟨⟨_, rfl⟩, HB.out⟩

set_option maxHeartbeats 4000000 in
set_option maxRecDepth 100000 in
theorem tok_f32 (na : Nat) (p : Int) (raw : Value) (hraw : raw.oneCell' = true) (s : ByteArray) (m : Nat) (pw : Int) (ng : Bool) (hf : Few s m pw ng) (hpw : pw ≤ 100) (w : World) (hE : ∀ w', Below w.heap.size w w' → FEnv w') :
    Calls Tryz.prog 59 #[(numTok na p raw s).v] w fun e w' => (∃ b : Nat, e = .returned (.tuple #[.float .f32 b, .bool true])) ∧ Below w.heap.size w w' := by
  have HP := Lib.hid (fun (W : World) (hW : Below w.heap.size w W) => parse_float_nil s m pw ng hf hpw W (fun w' h => hE w' (hW.trans (h.mono hW.size))))
  clear hf hE
  unfold numTok Tok.v
  go_enter Tryz.func59, Tryz.ntmps59
  go_wp2_with fail
  refine (HP.out _ (by go_grown)).mono ?_
  rintro e w2 ⟨⟨fb, rfl⟩, hb2⟩
  have HB := Lib.hid (Below.trans ((Below.refl _ _).alloc (Nat.le_refl _) _) (hb2.mono (by simp)) : Below w.heap.size w w2)
  clear hb2
  obtain ⟨r, nd, hc⟩ := conv_down w2 fb
  go_wp2_with fail
  go_ret2
  exact ⟨⟨_, rfl⟩, below_drewN HB.out _⟩

end Go.Proofs.YtpneioocmpagmaaGreatDoor.tx

