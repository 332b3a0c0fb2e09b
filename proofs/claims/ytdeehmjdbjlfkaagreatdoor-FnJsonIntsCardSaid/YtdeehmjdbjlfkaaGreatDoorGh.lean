/- json.Token: getIntStr, Int, Uint, Float at a whole number. -/
import Derived.Test.YtdeehmjdbjlfkaaGreatDoorGg
import Derived.Test.YtdeehmjdbjlfkaaGreatDoorGf
import Derived.Test.YtdeehmjdbjlfkaaGreatDoorFk
namespace Go.Proofs.YtdeehmjdbjlfkaaGreatDoor.jn
open Go.RowKit Go.Proofs.YtdeehmjdbjlfkaaGreatDoor.js Go.Proofs.YtdeehmjdbjlfkaaGreatDoor.pu Go.Proofs.YtdeehmjdbjlfkaaGreatDoor.num Go.Proofs.YtdeehmjdbjlfkaaGreatDoor.fl
set_option linter.unusedVariables false
set_option linter.unusedSimpArgs false

def nI (T : List UInt8) (P0 : Nat) : Nat := if at_ T (iP T P0) = 48 then 0 else jP T (iP T P0) - iP T P0

/-- A whole number: nothing but noughts behind a point, no power but nought. -/
structure WholeN (T : List UInt8) (L P0 : Nat) : Prop where
  pn : pn T P0 = some L
  ni : nI T P0 ≤ 20
  ij : iP T P0 + nI T P0 ≤ L
  fr : tlen T (jP T (iP T P0) + 1) (fP T (jP T (iP T P0)) - (jP T (iP T P0) + 1)) = 0
  ex : L - (fP T (jP T (iP T P0)) + 1) = 0 ∨ pi 10 (2 ^ 32 - 1) (2 ^ (32 - 1)) ((T.drop (fP T (jP T (iP T P0)) + 1)).take (L - (fP T (jP T (iP T P0)) + 1))) = some (0, false)

def IntS (T : List UInt8) (P0 : Nat) : ByteArray := ⟨(NormS T (decide (at_ T P0 = 45)) (iP T P0) (nI T P0)).toArray⟩

set_option maxHeartbeats 1000000 in
set_option maxRecDepth 100000 in
theorem get_int (b L cap P0 N C : Nat) (p : Int) (bo : Bool) (s : ByteArray) (T : List UInt8) (hT : T.length = L) (hL : L ≤ cap) (hcap : cap ≤ 9223372036854775807) (hL47 : L ≤ 140737488355000) (hN : 1 ≤ N) (hPN : P0 + N = L) (hC : C = cap - P0) (hw : WholeN T L P0) (w : World) (hr : RowM w b 0 T) (hb : b < w.heap.size) (he : Errs w) :
    Calls Tryz.prog 58 #[tokV 8 p (.slice (some ⟨b, P0, none⟩) N C) bo s] w fun e w' => e = .returned (.tuple #[.string (IntS T P0), .bool true]) ∧ Below w.heap.size w w' := by
  have HPP := Lib.hid (fun W (hW : Below w.heap.size w W) => parse_parts b L cap P0 N C T hT hL hcap hL47 hN hPN hC hw.pn W (hr.below hW hb) (Nat.lt_of_lt_of_le hb hW.size))
  have HNI : Hid (∀ v, PartsV b L T P0 v → ∀ W, Below w.heap.size w W → Calls Tryz.prog 81 #[v] W fun e w' => e = .returned (.tuple #[.string (IntS T P0), .bool true]) ∧ Below W.heap.size W w') := Lib.hid (fun v hv W hW => by
    obtain ⟨I, F, X, rfl, hI, hF, hX⟩ := hv
    rw [hw.fr] at hF
    exact norm_int b L (iP T P0) (nI T P0) (jP T (iP T P0) + 1) (fP T (jP T (iP T P0)) + 1) (L - (fP T (jP T (iP T P0)) + 1)) (decide (at_ T P0 = 45)) I F X T hT hL47 hw.ij hw.ni hI hF hX (by omega) hw.ex W (hr.below hW hb) (Nat.lt_of_lt_of_le hb hW.size) (he.below hW))
  clear hr he hw hC hPN hT
  unfold tokV
  go_enter Tryz.func58, Tryz.ntmps58
  go_wp2_with fail
  refine (HPP.out _ (by go_grown)).mono ?_
  rintro e w1 ⟨⟨v, rfl, hv⟩, hb1⟩
  have HB1 : Hid (Below w.heap.size w w1) := Lib.hid (((Below.refl _ _).alloc (Nat.le_refl _) _).trans (hb1.mono (by simp)))
  have HV := Lib.hid hv
  obtain ⟨I, F, X, rfl, ⟨ai, ci, rfl, _⟩, ⟨af, cf, rfl, _⟩, ⟨ax, cx, rfl, _⟩⟩ := hv
  clear hb1
  have HN2 := Lib.hid (HNI.out _ HV.out)
  obtain ⟨ng, hng⟩ : ∃ ng : Bool, ng = decide (at_ T P0 = 45) := ⟨_, rfl⟩
  obtain ⟨z1, hz1⟩ : ∃ z, z = if at_ T (iP T P0) = 48 then 0 else jP T (iP T P0) - iP T P0 := ⟨_, rfl⟩
  obtain ⟨z2, hz2⟩ : ∃ z, z = tlen T (jP T (iP T P0) + 1) (fP T (jP T (iP T P0)) - (jP T (iP T P0) + 1)) := ⟨_, rfl⟩
  obtain ⟨z3, hz3⟩ : ∃ z, z = L - (fP T (jP T (iP T P0)) + 1) := ⟨_, rfl⟩
  rw [← hng, ← hz1, ← hz2, ← hz3] at HN2 ⊢
  clear hng hz1 hz2 hz3 HV
  go_wp2_with fail
  refine (HN2.out _ (HB1.out.trans (Below.mono (by go_grown) HB1.out.size))).mono ?_
  rintro e w2 ⟨rfl, hb2⟩
  have HB2 : Hid (Below w.heap.size w w2) := Lib.hid (HB1.out.trans ((((Below.refl _ _).alloc (Nat.le_refl _) _).trans (hb2.mono (by simp))).mono HB1.out.size))
  clear hb2
  go_wp2_with fail
  go_ret2
  exact ⟨rfl, HB2.out⟩

theorem ints_size (T : List UInt8) (P0 : Nat) (h : nI T P0 ≤ 20) : (IntS T P0).size ≤ 140737488355328 := by
  show (NormS T (decide (at_ T P0 = 45)) (iP T P0) (nI T P0)).toArray.size ≤ _
  rw [List.size_toArray]
  unfold NormS
  split
  · simp
  · rw [List.length_append, List.length_take]
    split
    · simp; omega
    · simp; omega

/-- What Int answers. -/
def IntR (r : Option (Int × Bool)) (e : Ending) : Prop := match r with
  | some (n, _) => e = .returned (.tuple #[.int .i64 n, .bool true])
  | none => e = .returned (.tuple #[.int .i64 0, .bool false])
def UintR (r : NumEnd) (e : Ending) : Prop := match r with
  | .ok n _ => e = .returned (.tuple #[.int .u64 (n : Int), .bool true])
  | _ => e = .returned (.tuple #[.int .u64 0, .bool false])

set_option maxHeartbeats 1000000 in
set_option maxRecDepth 100000 in
theorem tok_int (bits b L cap P0 N C : Nat) (p : Int) (bo : Bool) (s : ByteArray) (T : List UInt8) (hbits : bits = 32 ∨ bits = 64) (r : Option (Int × Bool)) (hr0 : pi 10 (2 ^ bits - 1) (2 ^ (bits - 1)) (IntS T P0).data.toList = r) (hus : ∀ n u, r = some (n, u) → u = false) (hT : T.length = L) (hL : L ≤ cap) (hcap : cap ≤ 9223372036854775807) (hL47 : L ≤ 140737488355000) (hN : 1 ≤ N) (hPN : P0 + N = L) (hC : C = cap - P0) (hw : WholeN T L P0) (w : World) (hr : RowM w b 0 T) (hb : b < w.heap.size) (he : Errs w) :
    Calls Tryz.prog 31 #[tokV 8 p (.slice (some ⟨b, P0, none⟩) N C) bo s, .int .i64 bits] w fun e w' => IntR r e ∧ Below w.heap.size w w' := by
  have HG := Lib.hid (fun W (hW : Below w.heap.size w W) => get_int b L cap P0 N C p bo s T hT hL hcap hL47 hN hPN hC hw W (hr.below hW hb) (Nat.lt_of_lt_of_le hb hW.size) (he.below hW))
  have HPI : Hid (∀ W, Below w.heap.size w W → Calls Tryz.prog 59 #[.string (IntS T P0), .int .i64 10, .int .i64 bits] W fun e w' => EndsP r e ∧ Below W.heap.size W w') := Lib.hid (fun W hW => by
    rw [← hr0]
    exact parseInt (IntS T P0) 10 bits (.inr ⟨by omega, by omega⟩) (by omega) (by omega) (ints_size T P0 hw.ni) W (he.below hW))
  have HUS := Lib.hid hus
  clear hr he hw hC hPN hT hr0 hus
  obtain ⟨S, hS⟩ : ∃ S, S = IntS T P0 := ⟨_, rfl⟩
  rw [← hS] at HG HPI
  clear hS hbits
  unfold tokV at HG ⊢
  go_enter Tryz.func31, Tryz.ntmps31
  go_wp2_with fail
  refine (HG.out _ (by go_grown)).mono ?_
  rintro e w1 ⟨rfl, hb1⟩
  have HB1 : Hid (Below w.heap.size w w1) := Lib.hid (((Below.refl _ _).alloc (Nat.le_refl _) _).trans (hb1.mono (by simp)))
  clear hb1
  go_wp2_with fail
  refine (HPI.out _ HB1.out).mono ?_
  rintro e w2 ⟨hends, hb2⟩
  have HB2 : Hid (Below w.heap.size w w2) := Lib.hid (HB1.out.trans (hb2.mono HB1.out.size))
  clear hb2
  cases r with
  | none =>
    obtain ⟨n, v, rfl, N0, rfl⟩ := hends
    unfold tupI
    go_wp2_with fail
    go_ret2
    exact ⟨rfl, HB2.out⟩
  | some x =>
    obtain ⟨n, u⟩ := x
    obtain rfl := HUS.out n u rfl
    have h : e = .returned (tupI n .nilIface) := by
      rcases hends with h | ⟨h, _⟩
      · exact h
      · cases h
    clear hends
    subst h
    unfold tupI
    go_wp2_with fail
    go_ret2
    exact ⟨rfl, HB2.out⟩

set_option maxHeartbeats 1000000 in
set_option maxRecDepth 100000 in
theorem tok_uint (bits b L cap P0 N C : Nat) (p : Int) (bo : Bool) (s : ByteArray) (T : List UInt8) (hbits : bits = 32 ∨ bits = 64) (r : NumEnd) (hr0 : pu 10 (2 ^ bits - 1) (IntS T P0).data.toList = r) (hus : ∀ n u, r = .ok n u → u = false) (hT : T.length = L) (hL : L ≤ cap) (hcap : cap ≤ 9223372036854775807) (hL47 : L ≤ 140737488355000) (hN : 1 ≤ N) (hPN : P0 + N = L) (hC : C = cap - P0) (hw : WholeN T L P0) (w : World) (hr : RowM w b 0 T) (hb : b < w.heap.size) (he : Errs w) :
    Calls Tryz.prog 32 #[tokV 8 p (.slice (some ⟨b, P0, none⟩) N C) bo s, .int .i64 bits] w fun e w' => UintR r e ∧ Below w.heap.size w w' := by
  have HG := Lib.hid (fun W (hW : Below w.heap.size w W) => get_int b L cap P0 N C p bo s T hT hL hcap hL47 hN hPN hC hw W (hr.below hW hb) (Nat.lt_of_lt_of_le hb hW.size) (he.below hW))
  have HPI : Hid (∀ W, Below w.heap.size w W → Calls Tryz.prog 60 #[.string (IntS T P0), .int .i64 10, .int .i64 bits] W fun e w' => EndsU r e ∧ Below W.heap.size W w') := Lib.hid (fun W hW => by
    rw [← hr0]
    exact parseUint (IntS T P0) 10 bits (.inr ⟨by omega, by omega⟩) (by omega) (by omega) (ints_size T P0 hw.ni) W (he.below hW))
  have HUS := Lib.hid hus
  clear hr he hw hC hPN hT hr0 hus
  obtain ⟨S, hS⟩ : ∃ S, S = IntS T P0 := ⟨_, rfl⟩
  rw [← hS] at HG HPI
  clear hS hbits
  unfold tokV at HG ⊢
  go_enter Tryz.func32, Tryz.ntmps32
  go_wp2_with fail
  refine (HG.out _ (by go_grown)).mono ?_
  rintro e w1 ⟨rfl, hb1⟩
  have HB1 : Hid (Below w.heap.size w w1) := Lib.hid (((Below.refl _ _).alloc (Nat.le_refl _) _).trans (hb1.mono (by simp)))
  clear hb1
  go_wp2_with fail
  refine (HPI.out _ HB1.out).mono ?_
  rintro e w2 ⟨hends, hb2⟩
  have HB2 : Hid (Below w.heap.size w w2) := Lib.hid (HB1.out.trans (hb2.mono HB1.out.size))
  clear hb2
  cases r with
  | syn =>
    obtain ⟨n, v, rfl, N0, rfl⟩ := hends
    unfold tupU
    go_wp2_with fail
    go_ret2
    exact ⟨rfl, HB2.out⟩
  | rng =>
    obtain ⟨n, v, rfl, N0, rfl⟩ := hends
    unfold tupU
    go_wp2_with fail
    go_ret2
    exact ⟨rfl, HB2.out⟩
  | ok n u =>
    obtain rfl := HUS.out n u rfl
    have h : e = .returned (tupU n .nilIface) := by
      rcases hends with h | ⟨h, _⟩
      · exact h
      · cases h
    clear hends
    subst h
    unfold tupU
    go_wp2_with fail
    go_ret2
    exact ⟨rfl, HB2.out⟩

set_option maxHeartbeats 1000000 in
set_option maxRecDepth 100000 in
theorem tok_float (b P0 N C : Nat) (p : Int) (bo : Bool) (s : ByteArray) (tx : List UInt8) (htx : tx.length = N) (m : Nat) (q : Int) (ng : Bool) (hf : Few ⟨tx.toArray⟩ m q ng) (sz : Int) (hs : sz = 32 ∨ sz = 64) (w : World) (hr : RowM w b P0 tx) (hb : b < w.heap.size) (hE : ∀ w', Below w.heap.size w w' → FEnv w') (he : Errs w) :
    Calls Tryz.prog 33 #[tokV 8 p (.slice (some ⟨b, P0, none⟩) N C) bo s, .int .i64 sz] w fun e w' => (∃ (x : Nat) (ok : Bool), e = .returned (.tuple #[.float .f64 x, .bool ok])) ∧ Below w.heap.size w w' := by
  have HRS := Lib.hid (fun W (hW : Below w.heap.size w W) => tok_raw 8 p b P0 N C bo s tx htx W (Nat.lt_of_lt_of_le hb hW.size) (hr.below hW hb))
  have HPF := Lib.hid (fun W (hW : Below w.heap.size w W) => parse_float ⟨tx.toArray⟩ m q ng hf sz hs W (fun w' h => hE w' (hW.trans (h.mono hW.size))) (he.below hW))
  obtain ⟨S, hS⟩ : ∃ S : ByteArray, S = ⟨tx.toArray⟩ := ⟨_, rfl⟩
  rw [← hS] at HRS HPF
  clear hr he hE hf hS htx hs
  unfold tokV at HRS ⊢
  go_enter Tryz.func33, Tryz.ntmps33
  go_wp2_with fail
  refine (HRS.out _ (by go_grown)).mono ?_
  rintro e w1 ⟨rfl, hw1⟩
  have HB1 : Hid (Below w.heap.size w w1) := Lib.hid (by rw [hw1]; go_grown)
  clear hw1
  go_wp2_with fail
  refine (HPF.out _ HB1.out).mono ?_
  rintro e w2 ⟨⟨x, v, rfl, hv⟩, hb2⟩
  have HB2 : Hid (Below w.heap.size w w2) := Lib.hid (HB1.out.trans (hb2.mono HB1.out.size))
  clear hb2
  rcases hv with rfl | ⟨N0, rfl⟩
  · go_wp2_with fail
    go_ret2
    exact ⟨⟨_, _, rfl⟩, HB2.out⟩
  · go_wp2_with fail
    go_ret2
    exact ⟨⟨_, _, rfl⟩, HB2.out⟩

end Go.Proofs.YtdeehmjdbjlfkaaGreatDoor.jn
