/- A token of a number of base 16 or 8: what its methods say. -/
import Derived.Test.YtpneioocmpagmaaGreatDoorTw
import Derived.Test.YtpneioocmpagmaaGreatDoorVk
import Derived.Test.YtpneioocmpagmaaGreatDoorHh
import Derived.Test.YtpneioocmpagmaaGreatDoorHb
import Derived.RegionTactic
import Derived.ChangeAlike
import Derived.Test.YtpneioocmpagmaaGreatDoorTl
namespace Go.Proofs.YtpneioocmpagmaaGreatDoor.tx
open Go.RowKit Go.Proofs.YtpneioocmpagmaaGreatDoor.pu Go.Proofs.YtpneioocmpagmaaGreatDoor.num Go.Proofs.YtpneioocmpagmaaGreatDoor.fl
set_option linter.unusedVariables false
set_option linter.unusedSimpArgs false

set_option maxHeartbeats 4000000 in
set_option maxRecDepth 100000 in
theorem tok_int64_k (na : Nat) (p : Int) (raw : Value) (hraw : raw.oneCell' = true) (s : ByteArray) (hmax : s.size ≤ 140737488355328) (n : Int) (hp : pi 0 (2 ^ 64 - 1) (2 ^ (64 - 1)) s.data.toList = some (n, false)) (hna : na = 1 ∨ na = 2) (w : World) (he : Errs w) :
    Calls Tryz.prog 54 #[(numTok na p raw s).v] w fun e w' => e = .returned (.tuple #[.int .i64 n, .bool true]) ∧ Below w.heap.size w w' := by
  have HP := Lib.hid (fun (W : World) (hW : Below w.heap.size w W) => parseInt s 0 64 (.inl rfl) (by decide) (by decide) hmax W (he.below hW))
  have HPI := Lib.hid hp
  clear hp he
  unfold numTok Tok.v
  have b0 : bits .and .u8 ((0 : Nat) : Int) 4 = 0 := by decide
  have b1 : bits .and .u8 ((1 : Nat) : Int) 4 = 0 := by decide
  have b4 : bits .and .u8 ((2 : Nat) : Int) 4 = 0 := by decide
  have b5 : bits .and .u8 ((2 : Nat) : Int) 128 = 0 := by decide
  have b2 : bits .and .u8 ((0 : Nat) : Int) 128 = 0 := by decide
  have b3 : bits .and .u8 ((1 : Nat) : Int) 128 = 0 := by decide
  rcases hna with rfl | rfl
  all_goals
    go_enter Tryz.func54, Tryz.ntmps54
    go_wp2_with fail
    refine (HP.out _ (by go_grown)).mono ?_
    rintro e w2 ⟨hends, hb2⟩
    obtain rfl := pi_some hends HPI.out
    clear hends
    unfold tupI
    go_wp2_with fail
    go_ret2
    exact ⟨rfl, Below.trans ((Below.refl _ _).alloc (Nat.le_refl _) _) (hb2.mono (by simp))⟩

set_option maxHeartbeats 4000000 in
set_option maxRecDepth 100000 in
theorem tok_int64_none_k (na : Nat) (p : Int) (raw : Value) (hraw : raw.oneCell' = true) (s : ByteArray) (hmax : s.size ≤ 140737488355328)  (hp : pi 0 (2 ^ 64 - 1) (2 ^ (64 - 1)) s.data.toList = none) (hna : na = 1 ∨ na = 2) (w : World) (he : Errs w) :
    Calls Tryz.prog 54 #[(numTok na p raw s).v] w fun e w' => e = .returned (.tuple #[.int .i64 0, .bool false]) ∧ Below w.heap.size w w' := by
  have HP := Lib.hid (fun (W : World) (hW : Below w.heap.size w W) => parseInt s 0 64 (.inl rfl) (by decide) (by decide) hmax W (he.below hW))
  have HPI := Lib.hid hp
  clear hp he
  unfold numTok Tok.v
  have b0 : bits .and .u8 ((0 : Nat) : Int) 4 = 0 := by decide
  have b1 : bits .and .u8 ((1 : Nat) : Int) 4 = 0 := by decide
  have b4 : bits .and .u8 ((2 : Nat) : Int) 4 = 0 := by decide
  have b5 : bits .and .u8 ((2 : Nat) : Int) 128 = 0 := by decide
  have b2 : bits .and .u8 ((0 : Nat) : Int) 128 = 0 := by decide
  have b3 : bits .and .u8 ((1 : Nat) : Int) 128 = 0 := by decide
  rcases hna with rfl | rfl
  all_goals
    go_enter Tryz.func54, Tryz.ntmps54
    go_wp2_with fail
    refine (HP.out _ (by go_grown)).mono ?_
    rintro e w2 ⟨hends, hb2⟩
    obtain ⟨n', v', rfl, N', rfl⟩ := pi_none hends HPI.out
    clear hends
    unfold tupI
    go_wp2_with fail
    go_ret2
    exact ⟨rfl, Below.trans ((Below.refl _ _).alloc (Nat.le_refl _) _) (hb2.mono (by simp))⟩

set_option maxHeartbeats 4000000 in
set_option maxRecDepth 100000 in
theorem tok_uint64_k (na : Nat) (p : Int) (raw : Value) (hraw : raw.oneCell' = true) (s : ByteArray) (hmax : s.size ≤ 140737488355328) (n : Nat) (hp : pu 0 (2 ^ 64 - 1) s.data.toList = .ok n false) (hna : na = 1 ∨ na = 2) (w : World) (he : Errs w) :
    Calls Tryz.prog 56 #[(numTok na p raw s).v] w fun e w' => e = .returned (.tuple #[.int .u64 n, .bool true]) ∧ Below w.heap.size w w' := by
  have HP := Lib.hid (fun (W : World) (hW : Below w.heap.size w W) => parseUint s 0 64 (.inl rfl) (by decide) (by decide) hmax W (he.below hW))
  have HPI := Lib.hid hp
  clear hp he
  unfold numTok Tok.v
  have b0 : bits .and .u8 ((0 : Nat) : Int) 4 = 0 := by decide
  have b1 : bits .and .u8 ((1 : Nat) : Int) 4 = 0 := by decide
  have b4 : bits .and .u8 ((2 : Nat) : Int) 4 = 0 := by decide
  have b5 : bits .and .u8 ((2 : Nat) : Int) 128 = 0 := by decide
  have b2 : bits .and .u8 ((0 : Nat) : Int) 128 = 0 := by decide
  have b3 : bits .and .u8 ((1 : Nat) : Int) 128 = 0 := by decide
  rcases hna with rfl | rfl
  all_goals
    go_enter Tryz.func56, Tryz.ntmps56
    go_wp2_with fail
    refine (HP.out _ (by go_grown)).mono ?_
    rintro e w2 ⟨hends, hb2⟩
    obtain rfl := pu_some hends HPI.out
    clear hends
    unfold tupU
    go_wp2_with fail
    go_ret2
    exact ⟨rfl, Below.trans ((Below.refl _ _).alloc (Nat.le_refl _) _) (hb2.mono (by simp))⟩

set_option maxHeartbeats 4000000 in
set_option maxRecDepth 100000 in
theorem tok_enum_k (na : Nat) (p : Int) (raw : Value) (hraw : raw.oneCell' = true) (s : ByteArray) (hna : na = 1 ∨ na = 2) (w : World) :
    Calls Tryz.prog 60 #[(numTok na p raw s).v] w fun e w' => e = .returned (.tuple #[.string ⟨#[]⟩, .bool false]) ∧ Below w.heap.size w w' := by
  unfold numTok Tok.v
  have b0 : bits .and .u8 ((0 : Nat) : Int) 4 = 0 := by decide
  have b1 : bits .and .u8 ((1 : Nat) : Int) 4 = 0 := by decide
  have b4 : bits .and .u8 ((2 : Nat) : Int) 4 = 0 := by decide
  have b5 : bits .and .u8 ((2 : Nat) : Int) 128 = 0 := by decide
  have b2 : bits .and .u8 ((0 : Nat) : Int) 128 = 0 := by decide
  have b3 : bits .and .u8 ((1 : Nat) : Int) 128 = 0 := by decide
  rcases hna with rfl | rfl
  all_goals
    go_enter Tryz.func60, Tryz.ntmps60
    go_wp2_with fail
    go_ret2
    exact ⟨rfl, (Below.refl _ _).alloc (Nat.le_refl _) _⟩

set_option maxHeartbeats 4000000 in
set_option maxRecDepth 100000 in
theorem tok_string_k (na : Nat) (p : Int) (raw : Value) (hraw : raw.oneCell' = true) (s : ByteArray) (hna : na = 1 ∨ na = 2) (w : World) :
    Calls Tryz.prog 61 #[(numTok na p raw s).v] w fun e w' => e = .returned (.tuple #[.string ⟨#[]⟩, .bool false]) ∧ Below w.heap.size w w' := by
  unfold numTok Tok.v
  have b0 : bits .and .u8 ((0 : Nat) : Int) 4 = 0 := by decide
  have b1 : bits .and .u8 ((1 : Nat) : Int) 4 = 0 := by decide
  have b4 : bits .and .u8 ((2 : Nat) : Int) 4 = 0 := by decide
  have b5 : bits .and .u8 ((2 : Nat) : Int) 128 = 0 := by decide
  have b2 : bits .and .u8 ((0 : Nat) : Int) 128 = 0 := by decide
  have b3 : bits .and .u8 ((1 : Nat) : Int) 128 = 0 := by decide
  rcases hna with rfl | rfl
  all_goals
    go_enter Tryz.func61, Tryz.ntmps61
    go_wp2_with fail
    go_ret2
    exact ⟨rfl, (Below.refl _ _).alloc (Nat.le_refl _) _⟩

theorem endsP_any {r : Option (Int × Bool)} {e : Ending} (h : EndsP r e) : (∃ n : Int, e = .returned (tupI n .nilIface)) ∨ FailsP e := by
  cases r with
  | none => exact .inr h
  | some x =>
    rcases h with h | ⟨_, h⟩
    · exact .inl ⟨_, h⟩
    · exact .inr h

set_option maxHeartbeats 4000000 in
set_option maxRecDepth 100000 in
theorem tok_int32_any (na : Nat) (p : Int) (raw : Value) (hraw : raw.oneCell' = true) (s : ByteArray) (hmax : s.size ≤ 140737488355328) (hna : na = 1 ∨ na = 2) (w : World) (he : Errs w) :
    Calls Tryz.prog 55 #[(numTok na p raw s).v] w fun e w' => (∃ (x : Int) (y : Bool), e = .returned (.tuple #[.int .i32 x, .bool y])) ∧ Below w.heap.size w w' := by
  have HP := Lib.hid (fun (W : World) (hW : Below w.heap.size w W) => parseInt s 0 32 (.inl rfl) (by decide) (by decide) hmax W (he.below hW))
  clear he
  unfold numTok Tok.v
  have b0 : bits .and .u8 ((0 : Nat) : Int) 4 = 0 := by decide
  have b1 : bits .and .u8 ((1 : Nat) : Int) 4 = 0 := by decide
  have b4 : bits .and .u8 ((2 : Nat) : Int) 4 = 0 := by decide
  have b5 : bits .and .u8 ((2 : Nat) : Int) 128 = 0 := by decide
  have b2 : bits .and .u8 ((0 : Nat) : Int) 128 = 0 := by decide
  have b3 : bits .and .u8 ((1 : Nat) : Int) 128 = 0 := by decide
  rcases hna with rfl | rfl
  all_goals
    go_enter Tryz.func55, Tryz.ntmps55
    go_wp2_with fail
    refine (HP.out _ (by go_grown)).mono ?_
    rintro e w2 ⟨hends, hb2⟩
    have HB := Lib.hid (Below.trans ((Below.refl _ _).alloc (Nat.le_refl _) _) (hb2.mono (by simp)) : Below w.heap.size w w2)
    clear hb2
    rcases endsP_any hends with ⟨n, rfl⟩ | ⟨n', v', rfl, N', rfl⟩
    · clear hends
      unfold tupI
      go_wp2_with fail
      go_ret2
      exact ⟨⟨_, _, rfl⟩, HB.out⟩
    · clear hends
      unfold tupI
      go_wp2_with fail
      go_ret2
      exact ⟨⟨_, _, rfl⟩, HB.out⟩

set_option maxHeartbeats 4000000 in
set_option maxRecDepth 100000 in
theorem tok_uint32_any (na : Nat) (p : Int) (raw : Value) (hraw : raw.oneCell' = true) (s : ByteArray) (hmax : s.size ≤ 140737488355328) (hna : na = 1 ∨ na = 2) (w : World) (he : Errs w) :
    Calls Tryz.prog 57 #[(numTok na p raw s).v] w fun e w' => (∃ (x : Int) (y : Bool), e = .returned (.tuple #[.int .u32 x, .bool y])) ∧ Below w.heap.size w w' := by
  have HP := Lib.hid (fun (W : World) (hW : Below w.heap.size w W) => parseUint s 0 32 (.inl rfl) (by decide) (by decide) hmax W (he.below hW))
  clear he
  unfold numTok Tok.v
  have b0 : bits .and .u8 ((0 : Nat) : Int) 4 = 0 := by decide
  have b1 : bits .and .u8 ((1 : Nat) : Int) 4 = 0 := by decide
  have b4 : bits .and .u8 ((2 : Nat) : Int) 4 = 0 := by decide
  have b5 : bits .and .u8 ((2 : Nat) : Int) 128 = 0 := by decide
  have b2 : bits .and .u8 ((0 : Nat) : Int) 128 = 0 := by decide
  have b3 : bits .and .u8 ((1 : Nat) : Int) 128 = 0 := by decide
  rcases hna with rfl | rfl
  all_goals
    go_enter Tryz.func57, Tryz.ntmps57
    go_wp2_with fail
    refine (HP.out _ (by go_grown)).mono ?_
    rintro e w2 ⟨hends, hb2⟩
    have HB := Lib.hid (Below.trans ((Below.refl _ _).alloc (Nat.le_refl _) _) (hb2.mono (by simp)) : Below w.heap.size w w2)
    clear hb2
    rcases endsU_any hends with ⟨n, rfl⟩ | ⟨n', v', rfl, N', rfl⟩
    · clear hends
      unfold tupU
      go_wp2_with fail
      go_ret2
      exact ⟨⟨_, _, rfl⟩, HB.out⟩
    · clear hends
      unfold tupU
      go_wp2_with fail
      go_ret2
      exact ⟨⟨_, _, rfl⟩, HB.out⟩

end Go.Proofs.YtpneioocmpagmaaGreatDoor.tx

/- A token of a number of base 16 or 8: its floats, and what its nine methods say. -/
namespace Go.Proofs.YtpneioocmpagmaaGreatDoor.hx
open Go.RowKit Go.Proofs.YtpneioocmpagmaaGreatDoor.pu Go.Proofs.YtpneioocmpagmaaGreatDoor.num Go.Proofs.YtpneioocmpagmaaGreatDoor.fl Go.Proofs.YtpneioocmpagmaaGreatDoor.jn Go.Proofs.YtpneioocmpagmaaGreatDoor.tx
set_option linter.unusedVariables false
set_option linter.unusedSimpArgs false

theorem info_es0 : (Tryz.prog.info? 254).map (·.comparable) = some true := by kernel_rfl
theorem info_ep0 : (Tryz.prog.info? 256).map (fun i => i.size != 0) = some true := by kernel_rfl
theorem info_es : ∃ i, Tryz.prog.info? 254 = some i ∧ i.comparable = true := by
  have h := info_es0
  rw [Option.map_eq_some_iff] at h
  exact h
theorem info_ep : ∃ i, Tryz.prog.info? 256 = some i ∧ i.size ≠ 0 := by
  have h := info_ep0
  rw [Option.map_eq_some_iff] at h
  obtain ⟨i, h1, h2⟩ := h
  exact ⟨i, h1, by simpa using h2⟩

theorem assert_num (w : World) (N : Nat) : (Instr.typeAssert (.iface 152 (.pointer (some ⟨N, 0, none⟩))) 58 152 false).run Tryz.prog w = .ok (.pointer (some ⟨N, 0, none⟩)) w := by
  simp [Instr.typeAssert, run_underlying Tryz.underlying152]

/-- Two errors by pointer are compared: one answer or the other. -/
theorem cmp_errs (w : World) {a b : Addr} {ca cb : Array Value} {ta tb : TypeId} (ha : w.heap[a.block]? = some (.cells ca ta (0, 0))) (hb : w.heap[b.block]? = some (.cells cb tb (0, 0))) :
    ∃ y : Bool, (binOp .eql 58 (.iface 254 (.pointer (some a))) (.iface 254 (.pointer (some b)))).run Tryz.prog w = .ok (.bool y) w := by
  obtain ⟨i, hi, hc⟩ := info_es
  obtain ⟨j, hj, hz⟩ := info_ep
  by_cases h : a = b
  · subst h
    exact ⟨true, run_eql_iface_ptr_same w a Tryz.underlying58 Tryz.underlying254 hi hc hj⟩
  · exact ⟨false, run_eql_iface_ptr_other w Tryz.underlying58 Tryz.underlying254 hi hc hj hz h ha hb⟩

set_option maxHeartbeats 4000000 in
set_option maxRecDepth 100000 in
theorem tok_f64h (na : Nat) (p : Int) (raw : Value) (hraw : raw.oneCell' = true) (s : ByteArray) (hs : HexT s) (w : World) (he : ErrsB w) :
    Calls Tryz.prog 58 #[(numTok na p raw s).v] w fun e w' => (∃ (b : Nat) (y : Bool), e = .returned (.tuple #[.float .f64 b, .bool y])) ∧ Below w.heap.size w w' := by
  have HP := Lib.hid (fun (W : World) (hW : Below w.heap.size w W) => parse_float_hex s hs W (he.below hW))
  have HE := Lib.hid (fun (W : World) (hW : Below w.heap.size w W) => he.below hW)
  clear he hs
  unfold numTok Tok.v
  go_enter Tryz.func58, Tryz.ntmps58
  go_wp2_with fail
  refine (HP.out _ (by go_grown)).mono ?_
  rintro e w2 ⟨⟨N, ev, rfl, hN, hblk, hev⟩, hb2⟩
  have hbw : Below w.heap.size w w2 := Below.trans ((Below.refl _ _).alloc (Nat.le_refl _) _) (hb2.mono (by simp))
  have HB := Lib.hid hbw
  obtain ⟨⟨a, ca, ta, h1, k1⟩, ⟨b, cb, tb, h2, k2⟩⟩ := HE.out w2 hbw
  have h3 := (hb2.cell (lt_of_cell hev)).trans hev
  rw [h1] at h3
  obtain rfl := Option.some.inj h3
  have c2 : w2.cell? ⟨N, 2, none⟩ = some (.iface 254 (.pointer (some a))) := by
    rw [World.cell?]; simp [hblk]
  obtain ⟨y, hy⟩ := cmp_errs w2.drew (a := a) (b := b) (ca := ca) (cb := cb) (ta := ta) (tb := tb) k1 k2
  have hta := assert_num w2 N
  clear hb2 hblk hev h1 k1 k2 h3 hN hbw
  go_wp2_with fail
  go_region
  all_goals
    cases y
    all_goals
      go_wp2_with fail
      go_ret2
      exact ⟨⟨_, _, rfl⟩, HB.out.drew⟩

set_option maxHeartbeats 4000000 in
set_option maxRecDepth 100000 in
theorem tok_f32h (na : Nat) (p : Int) (raw : Value) (hraw : raw.oneCell' = true) (s : ByteArray) (hs : HexT s) (w : World) (he : ErrsB w) :
    Calls Tryz.prog 59 #[(numTok na p raw s).v] w fun e w' => (∃ (b : Nat) (y : Bool), e = .returned (.tuple #[.float .f32 b, .bool y])) ∧ Below w.heap.size w w' := by
  have HP := Lib.hid (fun (W : World) (hW : Below w.heap.size w W) => parse_float_hex s hs W (he.below hW))
  have HE := Lib.hid (fun (W : World) (hW : Below w.heap.size w W) => he.below hW)
  clear he hs
  unfold numTok Tok.v
  go_enter Tryz.func59, Tryz.ntmps59
  go_wp2_with fail
  refine (HP.out _ (by go_grown)).mono ?_
  rintro e w2 ⟨⟨N, ev, rfl, hN, hblk, hev⟩, hb2⟩
  have hbw : Below w.heap.size w w2 := Below.trans ((Below.refl _ _).alloc (Nat.le_refl _) _) (hb2.mono (by simp))
  have HB := Lib.hid hbw
  obtain ⟨⟨a, ca, ta, h1, k1⟩, ⟨b, cb, tb, h2, k2⟩⟩ := HE.out w2 hbw
  have h3 := (hb2.cell (lt_of_cell hev)).trans hev
  rw [h1] at h3
  obtain rfl := Option.some.inj h3
  have c2 : w2.cell? ⟨N, 2, none⟩ = some (.iface 254 (.pointer (some a))) := by
    rw [World.cell?]; simp [hblk]
  obtain ⟨y, hy⟩ := cmp_errs w2.drew (a := a) (b := b) (ca := ca) (cb := cb) (ta := ta) (tb := tb) k1 k2
  have hta := assert_num w2 N
  clear hb2 hblk hev h1 k1 k2 h3 hN hbw
  go_wp2_with fail
  go_region
  all_goals
    cases y
    · go_wp2_with fail
      go_ret2
      exact ⟨⟨_, _, rfl⟩, HB.out.drew⟩
    · obtain ⟨r, nd, hcv⟩ := conv_down w2.drew 0
      go_wp2_with fail
      go_ret2
      first | exact ⟨⟨_, _, rfl⟩, HB.out.drew⟩ | exact ⟨⟨_, _, rfl⟩, below_drewN HB.out _⟩

end Go.Proofs.YtpneioocmpagmaaGreatDoor.hx

/- The text of a number of base 16 or 8: the three readings, and what the token's methods say. -/
namespace Go.Proofs.YtpneioocmpagmaaGreatDoor.hx
open Go.RowKit Go.Proofs.YtpneioocmpagmaaGreatDoor.pu Go.Proofs.YtpneioocmpagmaaGreatDoor.num Go.Proofs.YtpneioocmpagmaaGreatDoor.fl Go.Proofs.YtpneioocmpagmaaGreatDoor.jn Go.Proofs.YtpneioocmpagmaaGreatDoor.tx
set_option linter.unusedVariables false
set_option linter.unusedSimpArgs false

theorem ValSays.mono {QB QB' : Bool → Bool → Prop} {QI QI' Qi Qi' QU QU' Qu Qu' : Int → Bool → Prop} {QF QF' Qf Qf' : Bool → Prop} {QE QE' QS QS' : ByteArray → Bool → Prop} {e : Ending} (h : ValSays QB QI Qi QU Qu QF Qf QE QS e)
    (k0 : ∀ x y, QB x y → QB' x y) (k1 : ∀ x y, QI x y → QI' x y) (k2 : ∀ x y, Qi x y → Qi' x y) (k3 : ∀ x y, QU x y → QU' x y) (k4 : ∀ x y, Qu x y → Qu' x y) (k5 : ∀ y, QF y → QF' y) (k6 : ∀ y, Qf y → Qf' y) (k7 : ∀ x y, QE x y → QE' x y) (k8 : ∀ x y, QS x y → QS' x y) :
    ValSays QB' QI' Qi' QU' Qu' QF' Qf' QE' QS' e := by
  obtain ⟨x0, y0, x1, y1, x2, y2, x3, y3, x4, y4, x5, y5, x6, y6, x7, y7, x8, y8, he, q0, q1, q2, q3, q4, q5, q6, q7, q8⟩ := h
  exact ⟨x0, y0, x1, y1, x2, y2, x3, y3, x4, y4, x5, y5, x6, y6, x7, y7, x8, y8, he, k0 _ _ q0, k1 _ _ q1, k2 _ _ q2, k3 _ _ q3, k4 _ _ q4, k5 _ q5, k6 _ q6, k7 _ _ q7, k8 _ _ q8⟩

/-- What is asked of a number's token here. -/
def Says (u : Nat) (e : Ending) : Prop := ValSays (fun _ _ => True) (QRn (-9223372036854775808) 9223372036854775807 u) (fun _ _ => True) (QIn u) (fun _ _ => True) (fun _ => True) (fun _ => True) (fun _ _ => True) (fun _ _ => True) e

theorem oct_dig (up : Bool) (u : Nat) : ∀ c ∈ htext true up u, dg c.toNat := by
  intro c hc
  unfold htext at hc
  rw [if_pos rfl] at hc
  unfold dg
  rcases List.mem_cons.1 hc with h | h
  · subst h; decide
  · obtain ⟨d, hd, rfl⟩ := bd_mem 8 up (by omega) 22 u c h
    have := hb_oct up d hd
    omega

theorem hex_tail (up : Bool) (u : Nat) : ∀ c ∈ (if u = 0 then [48] else bd 16 up 16 u), Hx c.toNat := by
  intro c hc
  split at hc
  · obtain rfl : c = 48 := by simpa using hc
    decide
  · obtain ⟨d, hd, rfl⟩ := bd_mem 16 up (by omega) 16 u c hc
    exact hb_hex up d hd

theorem hex_tail_len (up : Bool) (u : Nat) : 1 ≤ (if u = 0 then [48] else bd 16 up 16 u).length ∧ (if u = 0 then [48] else bd 16 up 16 u).length ≤ 16 := by
  split
  · simp
  · rename_i h
    have h1 : 0 < (bd 16 up 16 u).length := List.length_pos_iff.2 (bd_ne 16 up 15 u h)
    have h2 := bd_len 16 up 16 u
    omega

theorem getD_mem {l : List UInt8} {j : Nat} (h : j < l.length) : l.getD j 0 ∈ l := by
  rw [List.getD_eq_getElem?_getD, List.getElem?_eq_getElem h]
  exact List.getElem_mem h

theorem hexT (up : Bool) (u : Nat) : HexT ⟨(htext false up u).toArray⟩ := by
  have hl := hex_tail_len up u
  have ht := hex_tail up u
  have e : htext false up u = 48 :: 120 :: (if u = 0 then [48] else bd 16 up 16 u) := by unfold htext; rw [if_neg (by decide)]
  generalize (if u = 0 then [48] else bd 16 up 16 u) = l at hl ht e
  have hsz : (⟨(htext false up u).toArray⟩ : ByteArray).size = l.length + 2 := by
    show (htext false up u).toArray.size = _
    rw [List.size_toArray, e]; simp
  refine ⟨by omega, by omega, ?_, ?_, ?_⟩
  · show ((htext false up u).toArray.toList.getD 0 0).toNat = 48
    rw [List.toList_toArray, e]; rfl
  · show ((htext false up u).toArray.toList.getD 1 0).toNat = 120
    rw [List.toList_toArray, e]; rfl
  · intro j h2 hj
    show Hx ((htext false up u).toArray.toList.getD j 0).toNat
    rw [List.toList_toArray, e]
    obtain ⟨k, rfl⟩ : ∃ k, j = k + 2 := ⟨j - 2, by omega⟩
    have : (48 :: 120 :: l).getD (k + 2) 0 = l.getD k 0 := by simp [List.getD_eq_getElem?_getD]
    rw [this]
    exact ht _ (getD_mem (by omega))

theorem based_at (oct up : Bool) (u : Nat) (hu : oct = true → u ≠ 0) : BasedAt (97 :: 58 :: 32 :: htext oct up u) ((htext oct up u).length + 3) 3 (if oct = true then 2 else 1) := by
  have g3 := getD_head3 (htext oct up u)
  cases oct with
  | true =>
    have hne : 0 < (bd 8 up 22 u).length := List.length_pos_iff.2 (bd_ne 8 up 21 u (hu rfl))
    have e : htext true up u = 48 :: bd 8 up 22 u := by unfold htext; rw [if_pos rfl]
    have hd := oct_dig up u
    refine ⟨?_, ?_, .inr ⟨rfl, ?_⟩⟩
    · rw [show (3 : Nat) = 0 + 3 from rfl, g3]; exact htext_zero true up u
    · rw [e]; simp only [List.length_cons]; omega
    · intro j h0 h1
      obtain ⟨k, rfl⟩ : ∃ k, j = (k + 1) + 3 := ⟨j - 4, by omega⟩
      rw [g3, e]
      have : (48 :: bd 8 up 22 u).getD (k + 1) 0 = (bd 8 up 22 u).getD k 0 := by simp [List.getD_eq_getElem?_getD]
      rw [this]
      rw [e] at h1
      simp only [List.length_cons] at h1
      obtain ⟨d, hd, hc⟩ := bd_mem 8 up (by omega) 22 u _ (getD_mem (l := bd 8 up 22 u) (j := k) (by omega))
      rw [hc]
      exact hb_oct up d hd
  | false =>
    have hl := hex_tail_len up u
    have ht := hex_tail up u
    have e : htext false up u = 48 :: 120 :: (if u = 0 then [48] else bd 16 up 16 u) := by unfold htext; rw [if_neg (by decide)]
    generalize (if u = 0 then [48] else bd 16 up 16 u) = l at hl ht e
    refine ⟨?_, ?_, .inl ⟨rfl, ?_, ?_, ?_⟩⟩
    · rw [show (3 : Nat) = 0 + 3 from rfl, g3]; exact htext_zero false up u
    · rw [e]; simp only [List.length_cons]; omega
    · rw [show (3 + 1 : Nat) = 1 + 3 from rfl, g3, e]; rfl
    · rw [e]; simp only [List.length_cons]; omega
    · intro j h0 h1
      obtain ⟨k, rfl⟩ : ∃ k, j = (k + 2) + 3 := ⟨j - 5, by omega⟩
      rw [g3, e]
      have : (48 :: 120 :: l).getD (k + 2) 0 = l.getD k 0 := by simp [List.getD_eq_getElem?_getD]
      rw [this]
      rw [e] at h1
      simp only [List.length_cons] at h1
      exact ht _ (getD_mem (by omega))

theorem reads_based (oct up : Bool) (u : Nat) (hu : oct = true → u ≠ 0) : Reads (97 :: 58 :: 32 :: htext oct up u) ((htext oct up u).length + 3) 3 1 (if oct = true then 2 else 1) ⟨(htext oct up u).toArray⟩ := by
  have hlen := htext_len oct up u
  have := reads_k (htext oct up u) (by omega) (if oct = true then 2 else 1) (by split <;> omega) (based_at oct up u hu)
  rw [part_head3] at this
  exact this

set_option maxHeartbeats 4000000 in
theorem based_vals (oct up : Bool) (u : Nat) (h1 : u ≤ 18446744073709551615) (w : World) (he : ErrsB w) (hE : ∀ w', Below w.heap.size w w' → dc.SEnv w')
    (t : Tok) (k1 : t.kd = 3) (k2 : t.ats = 1) (k3 : t.na = (if oct = true then 2 else 1)) (k4 : t.s = ⟨(htext oct up u).toArray⟩) (k5 : t.raw.oneCell' = true) :
    Calls Tryz.prog 32 #[t.v] w fun e w' => Says u e ∧ Below w.heap.size w w' := by
  have hlen := htext_len oct up u
  have e63 : (2 ^ (64 - 1) : Nat) = 9223372036854775808 := rfl
  have e64 : (2 ^ 64 - 1 : Nat) = 18446744073709551615 := rfl
  obtain ⟨a1, na, a3, p, raw, s⟩ := t
  simp only at k1 k2 k3 k4 k5
  subst k1 k2 k4
  have hna : a3 = 1 ∨ a3 = 2 := by rw [k3]; split <;> simp
  have hmax : (⟨(htext oct up u).toArray⟩ : ByteArray).size ≤ 140737488355328 := by
    show (htext oct up u).toArray.size ≤ _
    rw [List.size_toArray]; omega
  have hfl : oct = true → ∀ W, Below w.heap.size w W → ∀ W', Below W.heap.size W W' → Calls Tryz.prog 89 #[.string ⟨(htext oct up u).toArray⟩, .int .i64 64] W' fun e w' => PFn e ∧ Below W'.heap.size W' w' := fun ho W hW W' hW' => by
    subst ho
    exact dc.digits_float _ (oct_dig up u) (by omega) (by omega) W' (fun w' h => hE w' ((hW.trans (hW'.mono hW.size)).trans (h.mono (Nat.le_trans hW.size hW'.size))))
  unfold Says
  refine values_any _ k5 _ _ _ _ _ _ _ _ _ w ?_ ?_ ?_ ?_ ?_ ?_ ?_ ?_ ?_
  · intro W hW
    exact (tok_bool a3 p raw k5 _ hmax W (he.below hW).errs).mono fun e w' ⟨⟨x, y, h⟩, hb⟩ => ⟨⟨x, y, trivial, h⟩, hb⟩
  · intro W hW
    by_cases hr : u ≤ 9223372036854775807
    · refine (tok_int64_k a3 p raw k5 _ hmax (u : Int) ?_ hna W (he.below hW).errs).mono fun e w' ⟨h, hb⟩ => ⟨⟨u, true, .inl ⟨by omega, by omega, rfl, rfl⟩, h⟩, hb⟩
      rw [List.toList_toArray, pi_text oct up u _ _ h1 (by decide), if_pos (by simp only [e63]; omega)]
    · refine (tok_int64_none_k a3 p raw k5 _ hmax ?_ hna W (he.below hW).errs).mono fun e w' ⟨h, hb⟩ => ⟨⟨0, false, .inr ⟨by omega, rfl⟩, h⟩, hb⟩
      rw [List.toList_toArray, pi_text oct up u _ _ h1 (by decide), if_neg (by simp only [e63]; omega)]
  · intro W hW
    exact (tok_int32_any a3 p raw k5 _ hmax hna W (he.below hW).errs).mono fun e w' ⟨⟨x, y, h⟩, hb⟩ => ⟨⟨x, y, trivial, h⟩, hb⟩
  · intro W hW
    refine (tok_uint64_k a3 p raw k5 _ hmax u ?_ hna W (he.below hW).errs).mono fun e w' ⟨h, hb⟩ => ⟨⟨u, true, ⟨rfl, rfl⟩, h⟩, hb⟩
    rw [List.toList_toArray, pu_text oct up u _ h1, if_pos (by simp only [e64]; omega)]
  · intro W hW
    exact (tok_uint32_any a3 p raw k5 _ hmax hna W (he.below hW).errs).mono fun e w' ⟨⟨x, y, h⟩, hb⟩ => ⟨⟨x, y, trivial, h⟩, hb⟩
  · intro W hW
    cases oct with
    | true => exact (tok_f64d a3 p raw k5 _ W (hfl rfl W hW)).mono fun e w' ⟨⟨b, h⟩, hb⟩ => ⟨⟨b, true, trivial, h⟩, hb⟩
    | false => exact (tok_f64h a3 p raw k5 _ (hexT up u) W (he.below hW)).mono fun e w' ⟨⟨b, y, h⟩, hb⟩ => ⟨⟨b, y, trivial, h⟩, hb⟩
  · intro W hW
    cases oct with
    | true => exact (tok_f32d a3 p raw k5 _ W (hfl rfl W hW)).mono fun e w' ⟨⟨b, h⟩, hb⟩ => ⟨⟨b, true, trivial, h⟩, hb⟩
    | false => exact (tok_f32h a3 p raw k5 _ (hexT up u) W (he.below hW)).mono fun e w' ⟨⟨b, y, h⟩, hb⟩ => ⟨⟨b, y, trivial, h⟩, hb⟩
  · intro W hW
    exact (tok_enum_k a3 p raw k5 _ hna W).mono fun e w' ⟨h, hb⟩ => ⟨⟨_, _, trivial, h⟩, hb⟩
  · intro W hW
    exact (tok_string_k a3 p raw k5 _ hna W).mono fun e w' ⟨h, hb⟩ => ⟨⟨_, _, trivial, h⟩, hb⟩

theorem reads_dec (u : Nat) (h1 : u ≤ 18446744073709551615) : Reads (97 :: 58 :: 32 :: Lib.decDigits u) ((Lib.decDigits u).length + 3) 3 1 0 ⟨(Lib.decDigits u).toArray⟩ := by
  have hlen := dec_len20 u h1
  have hi := intAt_itoa (u : Int)
  rw [itoa_nat, if_neg (by omega), show decide ((u : Int) < 0) = false from decide_eq_false (by omega)] at hi
  have := reads_int (Lib.decDigits u) (by omega) _ _ hi
  rw [part_head3] at this
  exact this

/-- Both together, and the lone nought, which is a decimal. -/
theorem based_all (oct up : Bool) (u : Nat) (h1 : u ≤ 18446744073709551615) : ∃ na : Nat, Reads (97 :: 58 :: 32 :: htext oct up u) ((htext oct up u).length + 3) 3 1 na ⟨(htext oct up u).toArray⟩ ∧
    ∀ (w : World), ErrsB w → (∀ w', Below w.heap.size w w' → dc.SEnv w') → ∀ t : Tok, t.kd = 3 → t.ats = 1 → t.na = na → t.s = ⟨(htext oct up u).toArray⟩ → t.raw.oneCell' = true →
      Calls Tryz.prog 32 #[t.v] w fun e w' => Says u e ∧ Below w.heap.size w w' := by
  by_cases h : oct = true ∧ u = 0
  · obtain ⟨rfl, rfl⟩ := h
    have e : htext true up 0 = Lib.decDigits 0 := by
      rw [Lib.decDigits_one (by omega)]
      unfold htext
      rw [if_pos rfl, bd_zero]
      rfl
    rw [e]
    refine ⟨0, reads_dec 0 (by omega), fun w he hE t k1 k2 k3 k4 k5 => ?_⟩
    refine (uint_vals 0 (by omega) w he.errs hE t k1 k2 k3 k4 k5).mono fun e w' ⟨h, hb⟩ => ⟨?_, hb⟩
    exact ValSays.mono h (fun _ _ _ => trivial) (fun _ _ h => h) (fun _ _ _ => trivial) (fun _ _ h => h) (fun _ _ _ => trivial) (fun _ _ => trivial) (fun _ _ => trivial) (fun _ _ _ => trivial) (fun _ _ _ => trivial)
  · have hu : oct = true → u ≠ 0 := fun ho h0 => h ⟨ho, h0⟩
    exact ⟨_, reads_based oct up u hu, fun w he hE t k1 k2 k3 k4 k5 => based_vals oct up u h1 w he hE t k1 k2 k3 k4 k5⟩

end Go.Proofs.YtpneioocmpagmaaGreatDoor.hx

