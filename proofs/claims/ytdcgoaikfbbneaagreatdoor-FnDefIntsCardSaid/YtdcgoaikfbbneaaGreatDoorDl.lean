/- The walk of laws.FnDefInts. -/
import Derived.Test.YtdcgoaikfbbneaaGreatDoorDi
import Derived.Test.YtdcgoaikfbbneaaGreatDoorDu
import Derived.Test.YtdcgoaikfbbneaaGreatDoorDr
namespace Go.Proofs.YtdcgoaikfbbneaaGreatDoor.ints
open Go.RowKit Go.Proofs.YtdcgoaikfbbneaaGreatDoor.num Go.Proofs.YtdcgoaikfbbneaaGreatDoor.pu
set_option linter.unusedVariables false
set_option linter.unusedSimpArgs false

/-- How impl.DefUnmarshal ends at a signed kind. -/
def DS (k : Int) (r : Option (Int × Bool)) (e : Ending) : Prop :=
  (∃ n us, r = some (n, us) ∧ e = .returned (.tuple #[outV k n 0, .bool true])) ∨ ((∀ n us, r = some (n, us) → us = true) ∧ e = .returned (.tuple #[outV 0 0 0, .bool false]))

/-- How impl.DefUnmarshal ends at a kind without a sign. -/
def DU (k : Int) (r : NumEnd) (e : Ending) : Prop :=
  (∃ n us, r = .ok n us ∧ e = .returned (.tuple #[outV k 0 (n : Nat), .bool true])) ∨ ((∀ n us, r = .ok n us → us = true) ∧ e = .returned (.tuple #[outV 0 0 0, .bool false]))

theorem i64_u64 {n : Int} (h0 : -9223372036854775808 ≤ n) (h1 : n < 9223372036854775808) : IntKind.i64.wrap (IntKind.u64.wrap n) = n := by
  rw [IntKind.wrap_u64, IntKind.wrap_i64]; omega

theorem ds_of {k : Int} {r : Option (Int × Bool)} {e : Ending} (hr : ∀ n us, r = some (n, us) → -9223372036854775808 ≤ n ∧ n < 9223372036854775808)
    (h : (∃ m, (∃ n us, r = some (n, us) ∧ m = IntKind.u64.wrap n) ∧ e = .returned (.tuple #[outV k (IntKind.i64.wrap m) 0, .bool true])) ∨ ((∀ n us, r = some (n, us) → us = true) ∧ e = .returned (.tuple #[outV 0 0 0, .bool false]))) : DS k r e := by
  rcases h with ⟨m, ⟨n, us, hn, rfl⟩, rfl⟩ | h
  · exact .inl ⟨n, us, hn, by rw [i64_u64 (hr n us hn).1 (hr n us hn).2]⟩
  · exact .inr h

theorem i8k (k : Int) (h0 : 0 ≤ k) (h1 : k < 128) : IntKind.i8.wrap k = k := by
  simp [IntKind.wrap, IntKind.bits, IntKind.signed]; omega

theorem unm32 (s : ByteArray) (k f : Int) (hk : k = 5 ∨ k = 15 ∨ k = 17) (hmax : s.size ≤ 140737488355328) (w : World) (he : Errs w) :
    Calls Tryz.prog 5 #[.string s, .int .i64 k, .int .i64 f, .slice none 0 0, .slice none 0 0] w
      fun e w' => DS k (pi 0 4294967295 2147483648 s.data.toList) e ∧ Below w.heap.size w w' := by
  refine (unm s k f 2 (i8k k (by omega) (by omega)) w (fun m => ∃ n us, pi 0 4294967295 2147483648 s.data.toList = some (n, us) ∧ m = IntKind.u64.wrap n) (∀ n us, pi 0 4294967295 2147483648 s.data.toList = some (n, us) → us = true) (fun m => IntKind.i64.wrap m) (fun _ => 0)
    (fun o => (dun32 s k f hk hmax (w.alloc o) (he.below ((Below.refl _ _).alloc (Nat.le_refl _) _))).mono ?_) (fun m w' _ => plainS k 2 m _ (by omega) (.inl rfl) rfl w')).mono ?_
  · rintro e w' ⟨⟨n, us, hn, rfl⟩ | h, hb⟩
    · exact ⟨.inl ⟨_, ⟨n, us, hn, rfl⟩, rfl⟩, hb⟩
    · exact ⟨.inr h, hb⟩
  · rintro e w' ⟨h, hb⟩
    exact ⟨ds_of (fun n us hn => by have := pi_range (by decide) hn; omega) h, hb⟩

theorem unm64 (s : ByteArray) (k f : Int) (hk : k = 3 ∨ k = 16 ∨ k = 18) (hmax : s.size ≤ 140737488355328) (w : World) (he : Errs w) :
    Calls Tryz.prog 5 #[.string s, .int .i64 k, .int .i64 f, .slice none 0 0, .slice none 0 0] w
      fun e w' => DS k (pi 0 18446744073709551615 9223372036854775808 s.data.toList) e ∧ Below w.heap.size w w' := by
  refine (unm s k f 3 (i8k k (by omega) (by omega)) w (fun m => ∃ n us, pi 0 18446744073709551615 9223372036854775808 s.data.toList = some (n, us) ∧ m = IntKind.u64.wrap n) (∀ n us, pi 0 18446744073709551615 9223372036854775808 s.data.toList = some (n, us) → us = true) (fun m => IntKind.i64.wrap m) (fun _ => 0)
    (fun o => (dun64 s k f hk hmax (w.alloc o) (he.below ((Below.refl _ _).alloc (Nat.le_refl _) _))).mono ?_) (fun m w' _ => plainS k 3 m _ (by omega) (.inr rfl) rfl w')).mono ?_
  · rintro e w' ⟨⟨n, us, hn, rfl⟩ | h, hb⟩
    · exact ⟨.inl ⟨_, ⟨n, us, hn, rfl⟩, rfl⟩, hb⟩
    · exact ⟨.inr h, hb⟩
  · rintro e w' ⟨h, hb⟩
    exact ⟨ds_of (fun n us hn => by have := pi_range (by decide) hn; omega) h, hb⟩

theorem unmu32 (s : ByteArray) (k f : Int) (hk : k = 7 ∨ k = 13) (hmax : s.size ≤ 140737488355328) (w : World) (he : Errs w) :
    Calls Tryz.prog 5 #[.string s, .int .i64 k, .int .i64 f, .slice none 0 0, .slice none 0 0] w
      fun e w' => DU k (pu 0 4294967295 s.data.toList) e ∧ Below w.heap.size w w' := by
  refine (unm s k f 4 (i8k k (by omega) (by omega)) w (fun m => ∃ (n : Nat) (us : Bool), pu 0 4294967295 s.data.toList = .ok n us ∧ m = n) (∀ n us, pu 0 4294967295 s.data.toList = .ok n us → us = true) (fun _ => 0) (fun m => m)
    (fun o => (dunu32 s k f hk hmax (w.alloc o) (he.below ((Below.refl _ _).alloc (Nat.le_refl _) _))).mono ?_) (fun m w' _ => plainU k 4 m (by omega) (.inl rfl) w')).mono ?_
  · rintro e w' ⟨⟨n, us, hn, rfl⟩ | h, hb⟩
    · exact ⟨.inl ⟨_, ⟨n, us, hn, rfl⟩, rfl⟩, hb⟩
    · exact ⟨.inr h, hb⟩
  · rintro e w' ⟨⟨m, ⟨n, us, hn, rfl⟩, rfl⟩ | h, hb⟩
    · exact ⟨.inl ⟨n, us, hn, rfl⟩, hb⟩
    · exact ⟨.inr h, hb⟩

theorem unmu64 (s : ByteArray) (k f : Int) (hk : k = 4 ∨ k = 6) (hmax : s.size ≤ 140737488355328) (w : World) (he : Errs w) :
    Calls Tryz.prog 5 #[.string s, .int .i64 k, .int .i64 f, .slice none 0 0, .slice none 0 0] w
      fun e w' => DU k (pu 0 18446744073709551615 s.data.toList) e ∧ Below w.heap.size w w' := by
  refine (unm s k f 5 (i8k k (by omega) (by omega)) w (fun m => ∃ (n : Nat) (us : Bool), pu 0 18446744073709551615 s.data.toList = .ok n us ∧ m = n) (∀ n us, pu 0 18446744073709551615 s.data.toList = .ok n us → us = true) (fun _ => 0) (fun m => m)
    (fun o => (dunu64 s k f hk hmax (w.alloc o) (he.below ((Below.refl _ _).alloc (Nat.le_refl _) _))).mono ?_) (fun m w' _ => plainU k 5 m (by omega) (.inr rfl) w')).mono ?_
  · rintro e w' ⟨⟨n, us, hn, rfl⟩ | h, hb⟩
    · exact ⟨.inl ⟨_, ⟨n, us, hn, rfl⟩, rfl⟩, hb⟩
    · exact ⟨.inr h, hb⟩
  · rintro e w' ⟨⟨m, ⟨n, us, hn, rfl⟩, rfl⟩ | h, hb⟩
    · exact ⟨.inl ⟨n, us, hn, rfl⟩, hb⟩
    · exact ⟨.inr h, hb⟩

def formOf (tag : Bool) : Int := if tag then 2 else 1

theorem form_any (tag : Bool) (w : World) : Calls Tryz.prog 6 #[.bool tag] w fun e w' => e = .returned (.int .i64 (formOf tag)) ∧ w = w' := by
  cases tag
  all_goals
    go_enter Tryz.func6, Tryz.ntmps6
    go_wp2
    go_ret
    exact ⟨rfl, rfl⟩

theorem cell_blk {w : World} {b : Nat} {cs : Array Value} {T : TypeId} {z : Nat × Nat} (h : w.heap[b]? = some (.cells cs T z)) {j : Nat} {v : Value} (hj : cs[j]? = some v) : w.cell? ⟨b, j, none⟩ = some v := by
  simp [World.cell?, h, hj]

/-- What the two answers have to do with one another: the default's own (ok, x) and the reference's (n, told). -/
def Meet (ok : Bool) (x n told : Int) : Prop := told = 2 ∨ (ok = true ∧ told = 1 ∧ x = n) ∨ (ok = false ∧ told = 0)

theorem meet_s {k : Int} {mx half : Nat} {l : List UInt8} {e : Ending} (h : DS k (pi 0 mx half l) e) :
    ∃ (k' x : Int) (ok : Bool), e = .returned (.tuple #[outV k' x 0, .bool ok]) ∧ ∀ n told, RW mx half l n told → Meet ok x n told := by
  rcases h with ⟨m, us, hp, rfl⟩ | ⟨hus, rfl⟩
  · refine ⟨k, m, true, rfl, ?_⟩
    rintro n told (h | ⟨ht, h⟩ | ⟨ht, h⟩)
    · exact .inl h
    · rw [h] at hp; cases hp; exact .inr (.inl ⟨rfl, ht, rfl⟩)
    · rw [h] at hp; cases hp
  · refine ⟨0, 0, false, rfl, ?_⟩
    rintro n told (h | ⟨ht, h⟩ | ⟨ht, h⟩)
    · exact .inl h
    · have := hus _ _ h; cases this
    · exact .inr (.inr ⟨rfl, ht⟩)

theorem meet_u {k : Int} {mx : Nat} {l : List UInt8} {e : Ending} (h : DU k (pu 0 mx l) e) :
    ∃ (k' x : Int) (ok : Bool), e = .returned (.tuple #[outV k' 0 x, .bool ok]) ∧ ∀ n told, RC mx l n told → Meet ok x n told := by
  rcases h with ⟨m, us, hp, rfl⟩ | ⟨hus, rfl⟩
  · refine ⟨k, m, true, rfl, ?_⟩
    rintro n told (h | ⟨ht, q, rfl, h⟩ | ⟨ht, h⟩)
    · exact .inl h
    · rw [h] at hp; cases hp; exact .inr (.inl ⟨rfl, ht, rfl⟩)
    · exact absurd hp (h _ _)
  · refine ⟨0, 0, false, rfl, ?_⟩
    rintro n told (h | ⟨ht, q, rfl, h⟩ | ⟨ht, h⟩)
    · exact .inl h
    · have := hus _ _ h; cases this
    · exact .inr (.inr ⟨rfl, ht⟩)

theorem chainL {w w1 w2 : World} {o : Obj} (h1 : Below w.heap.size w w1) (h2 : Below (w1.alloc o).heap.size (w1.alloc o) w2) : Below w.heap.size w w2 := by
  have z1 := h1.size
  exact (h1.alloc z1 o).trans (h2.mono (by simp; omega))

end Go.Proofs.YtdcgoaikfbbneaaGreatDoor.ints
