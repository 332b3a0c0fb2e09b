/- laws.FnJsonInts: its walk, over what impl.JsonNumber answers. -/
import Derived.Test.YtdeehmjdbjlfkaaGreatDoorGx
import Derived.Lib.ItoaLen
import Derived.Deep.RegionWith
namespace Go.Proofs.YtdeehmjdbjlfkaaGreatDoor.jn
open Go.RowKit Go.Proofs.YtdeehmjdbjlfkaaGreatDoor.js Go.Proofs.YtdeehmjdbjlfkaaGreatDoor.pu Go.Proofs.YtdeehmjdbjlfkaaGreatDoor.num
set_option linter.unusedVariables false
set_option linter.unusedSimpArgs false

/-- What impl.JsonNumber answers of a whole number's text. -/
def NumSays (E : World → Prop) (bits : Nat) : Prop := ∀ (n : Int) (h0 : -9223372036854775808 ≤ n) (h1 : n ≤ 9223372036854775807) (s : List UInt8) (hs : Sfx s) (t : ByteArray) (ht : t = ⟨(Lib.itoa n ++ s).toArray⟩)
    (i u : Int) (bi bu : Bool) (hi : (bi = true ∧ i = n ∧ -((2 ^ (bits - 1) : Nat) : Int) ≤ n ∧ n < ((2 ^ (bits - 1) : Nat) : Int)) ∨ (bi = false ∧ i = 0 ∧ ¬ (-((2 ^ (bits - 1) : Nat) : Int) ≤ n ∧ n < ((2 ^ (bits - 1) : Nat) : Int))))
    (hu : (bu = true ∧ u = n ∧ 0 ≤ n ∧ n.toNat ≤ 2 ^ bits - 1) ∨ (bu = false ∧ u = 0 ∧ (n < 0 ∨ ¬ n.toNat ≤ 2 ^ bits - 1)))
    (W : World) (hE : E W),
    Calls Tryz.prog 17 #[.slice (some ⟨W.heap.size, 0, none⟩) t.size (grownCap W t.size 0 5), .int .i64 bits] (Lib.bytesWorld W 5 t)
      fun e w' => (∃ (f : Int) (fok : Bool), e = .returned (.tuple #[.int .i64 i, .bool bi, .int .u64 u, .bool bu, .int .u64 f, .bool fok, .bool true])) ∧ Below W.heap.size W w'

/-- behind the region -/
theorem app_text (n : Int) (sg : ByteArray) (h : sg = ⟨(Lib.itoa n).toArray⟩) (A : Array UInt8) (s : List UInt8) (hA : A = s.toArray) : sg ++ ⟨A⟩ = ⟨(Lib.itoa n ++ s).toArray⟩ := by
  rw [h, hA]
  exact ByteArray.ext (by simp [ByteArray.data_append])

set_option maxHeartbeats 8000000 in
set_option maxRecDepth 100000 in
theorem law_walk (n f : Int) (h0 : -9223372036854775808 ≤ n) (h1 : n ≤ 9223372036854775807) (hf0 : 0 ≤ f) (hf1 : f < 256)
    (E : World → Prop) (HBE : ∀ W W', Below W.heap.size W W' → E W → E W') (N64 : NumSays E 64) (N32 : NumSays E 32) (w : World) (hw0 : E w) :
    Calls Tryz.prog 7 #[.int .i64 n, .int .u8 f] w fun e w' => e = .returned (.bool true) ∧ Below w.heap.size w w' := by
  have hl := dec_len19 n.natAbs (by omega)
  have SG := fun W => signed_walk n h0 h1 W
  obtain ⟨sg, hsg⟩ : ∃ sg : ByteArray, sg = ⟨(Lib.itoa n).toArray⟩ := ⟨_, rfl⟩
  rw [← hsg] at SG
  have hsz : sg.size ≤ 20 := by
    rw [hsg]
    show (Lib.itoa n).toArray.size ≤ 20
    rw [List.size_toArray, sgn_text n, List.length_append]
    split <;> simp only [List.length_cons, List.length_nil] <;> omega
  have HSG := Lib.hid SG
  have HEB := Lib.hid (And.intro HBE (And.intro hw0 (And.intro N64 N32)))
  have HSZ := Lib.hid hsg
  clear SG HBE hw0 N64 N32 hsg hl
  go_enter Tryz.func7, Tryz.ntmps7
  go_upto_region 1 with fail
  go_cut [5] (fun v5 wx => ∃ s, Sfx s ∧ v5 = .string ⟨(Lib.itoa n ++ s).toArray⟩ ∧ Below w.heap.size w wx)
  case first =>
    have hr : Int.tmod f 6 = 0 ∨ Int.tmod f 6 = 1 ∨ Int.tmod f 6 = 2 ∨ Int.tmod f 6 = 3 ∨ Int.tmod f 6 = 4 ∨ Int.tmod f 6 = 5 := by
      rw [Int.tmod_eq_emod_of_nonneg hf0]; omega
    rcases hr with hr | hr | hr | hr | hr | hr
    · go_region_with (go_at_call 16; (with_reducible refine (HSG.out _).mono ?_); rintro e w4 ⟨rfl, hb4⟩; have hbw : Below w.heap.size w w4 := Below.trans (by first | exact (Below.refl _ _).drew | exact (Below.refl _ _).drew.alloc (Nat.le_refl _) _ | go_grown) (hb4.mono (by simp)); have k0 := hb4.cell (p := ⟨w.heap.size, 0, none⟩); (try simp at k0); clear hb4)
      all_goals
        go_wp2_with fail
        go_meet
        refine ⟨[], .inl rfl, ?_, by first | exact hbw | exact hbw.alloc (by simpa using hbw.size) _ | (have := hbw.size; go_grown)⟩
        first | exact congrArg Value.string (app_text n sg HSZ.out _ _ rfl) | (rw [HSZ.out, List.append_nil])
    · go_region_with (go_at_call 16; (with_reducible refine (HSG.out _).mono ?_); rintro e w4 ⟨rfl, hb4⟩; have hbw : Below w.heap.size w w4 := Below.trans (by first | exact (Below.refl _ _).drew | exact (Below.refl _ _).drew.alloc (Nat.le_refl _) _ | go_grown) (hb4.mono (by simp)); have k0 := hb4.cell (p := ⟨w.heap.size, 1, none⟩); (try simp at k0); clear hb4)
      all_goals
        go_wp2_with fail
        go_meet
        refine ⟨[46, 48], .inr (.inl rfl), ?_, by first | exact hbw | exact hbw.alloc (by simpa using hbw.size) _ | (have := hbw.size; go_grown)⟩
        first | exact congrArg Value.string (app_text n sg HSZ.out _ _ rfl) | (rw [HSZ.out, List.append_nil])
    · go_region_with (go_at_call 16; (with_reducible refine (HSG.out _).mono ?_); rintro e w4 ⟨rfl, hb4⟩; have hbw : Below w.heap.size w w4 := Below.trans (by first | exact (Below.refl _ _).drew | exact (Below.refl _ _).drew.alloc (Nat.le_refl _) _ | go_grown) (hb4.mono (by simp)); have k0 := hb4.cell (p := ⟨w.heap.size, 2, none⟩); (try simp at k0); clear hb4)
      all_goals
        go_wp2_with fail
        go_meet
        refine ⟨[46, 48, 48, 48], .inr (.inr (.inl rfl)), ?_, by first | exact hbw | exact hbw.alloc (by simpa using hbw.size) _ | (have := hbw.size; go_grown)⟩
        first | exact congrArg Value.string (app_text n sg HSZ.out _ _ rfl) | (rw [HSZ.out, List.append_nil])
    · go_region_with (go_at_call 16; (with_reducible refine (HSG.out _).mono ?_); rintro e w4 ⟨rfl, hb4⟩; have hbw : Below w.heap.size w w4 := Below.trans (by first | exact (Below.refl _ _).drew | exact (Below.refl _ _).drew.alloc (Nat.le_refl _) _ | go_grown) (hb4.mono (by simp)); have k0 := hb4.cell (p := ⟨w.heap.size, 3, none⟩); (try simp at k0); clear hb4)
      all_goals
        go_wp2_with fail
        go_meet
        refine ⟨[101, 48], .inr (.inr (.inr (.inl rfl))), ?_, by first | exact hbw | exact hbw.alloc (by simpa using hbw.size) _ | (have := hbw.size; go_grown)⟩
        first | exact congrArg Value.string (app_text n sg HSZ.out _ _ rfl) | (rw [HSZ.out, List.append_nil])
    · go_region_with (go_at_call 16; (with_reducible refine (HSG.out _).mono ?_); rintro e w4 ⟨rfl, hb4⟩; have hbw : Below w.heap.size w w4 := Below.trans (by first | exact (Below.refl _ _).drew | exact (Below.refl _ _).drew.alloc (Nat.le_refl _) _ | go_grown) (hb4.mono (by simp)); have k0 := hb4.cell (p := ⟨w.heap.size, 4, none⟩); (try simp at k0); clear hb4)
      all_goals
        go_wp2_with fail
        go_meet
        refine ⟨[69, 43, 48, 48], .inr (.inr (.inr (.inr (.inl rfl)))), ?_, by first | exact hbw | exact hbw.alloc (by simpa using hbw.size) _ | (have := hbw.size; go_grown)⟩
        first | exact congrArg Value.string (app_text n sg HSZ.out _ _ rfl) | (rw [HSZ.out, List.append_nil])
    · go_region_with (go_at_call 16; (with_reducible refine (HSG.out _).mono ?_); rintro e w4 ⟨rfl, hb4⟩; have hbw : Below w.heap.size w w4 := Below.trans (by first | exact (Below.refl _ _).drew | exact (Below.refl _ _).drew.alloc (Nat.le_refl _) _ | go_grown) (hb4.mono (by simp)); have k0 := hb4.cell (p := ⟨w.heap.size, 5, none⟩); (try simp at k0); clear hb4)
      all_goals
        go_wp2_with fail
        go_meet
        refine ⟨[46, 48, 101, 45, 48], .inr (.inr (.inr (.inr (.inr rfl)))), ?_, by first | exact hbw | exact hbw.alloc (by simpa using hbw.size) _ | (have := hbw.size; go_grown)⟩
        first | exact congrArg Value.string (app_text n sg HSZ.out _ _ rfl) | (rw [HSZ.out, List.append_nil])
  case rest =>
    obtain ⟨s, hs, rfl, hb1⟩ := hcut
    obtain ⟨t, ht⟩ : ∃ t : ByteArray, t = ⟨(Lib.itoa n ++ s).toArray⟩ := ⟨_, rfl⟩
    rw [← ht]
    have hE1 : E wc := HEB.out.1 _ _ hb1 HEB.out.2.1
    have HBE := HEB.out.1
    have N64 := HEB.out.2.2.1
    have N32 := HEB.out.2.2.2
    have hcv1 := Lib.run_convert_string_bytes (P := Tryz.prog) wc 9 29 5 t (u := .string) Tryz.underlying9 Tryz.underlying29 Tryz.underlying5
    have hw64 : IntKind.u64.wrap n = if n < 0 then n + 18446744073709551616 else n := by rw [IntKind.wrap_u64]; split <;> omega
    clear HSG HEB HSZ hsz
    rcases (by omega : n < -2147483648 ∨ (-2147483648 ≤ n ∧ n < 0) ∨ (0 ≤ n ∧ n ≤ 2147483647) ∨ (2147483648 ≤ n ∧ n ≤ 4294967295) ∨ 4294967295 < n) with c | c | c | c | c
    · have J1 := Lib.hid (N64 n h0 h1 s hs t ht n 0 true false (.inl ⟨rfl, rfl, by omega, by omega⟩) (.inr ⟨rfl, rfl, .inl (by omega)⟩) wc hE1)
      have J2 := Lib.hid (fun W (hW : Below wc.heap.size wc W) => N32 n h0 h1 s hs t ht 0 0 false false (.inr ⟨rfl, rfl, by omega⟩) (.inr ⟨rfl, rfl, .inl (by omega)⟩) W (HBE _ _ hW hE1))
      have p0 : ¬ (0 : Int) ≤ n := by omega
      have p1 : ¬ (-2147483648 : Int) ≤ n := by omega
      have p2 : n ≤ 2147483647 := by omega
      have p3 : n ≤ 4294967295 := by omega
      have pw : IntKind.u64.wrap n = n + 18446744073709551616 := by rw [hw64]; rw [if_pos (by omega)]
      have HB1 := Lib.hid hb1
      clear c hw64 hE1 HBE N64 N32 hs ht hb1
      go_wp2_with fail
      refine J1.out.mono ?_
      rintro e w2 ⟨⟨f1, g1, rfl⟩, hb2⟩
      have hcv2 := Lib.run_convert_string_bytes (P := Tryz.prog) w2 9 29 5 t (u := .string) Tryz.underlying9 Tryz.underlying29 Tryz.underlying5
      have J3 := Lib.hid (J2.out w2 hb2)
      have HB2 := Lib.hid (HB1.out.trans (hb2.mono HB1.out.size))
      clear J1 J2 hcv1 hb2
      go_wp2_with fail
      refine J3.out.mono ?_
      rintro e w3 ⟨⟨f2, g2, rfl⟩, hb3⟩
      have HB3 := Lib.hid (HB2.out.trans (hb3.mono HB2.out.size))
      clear J3 hcv2 hb3
      go_wp2_with fail
      go_ret
      first
        | exact ⟨rfl, HB3.out⟩
        | (refine ⟨congrArg (fun b => Ending.returned (Value.bool b)) (?_ : _ = true), HB3.out⟩
           first | rfl | simp [p0, p1, p2, p3] | (simp; omega))
    · have J1 := Lib.hid (N64 n h0 h1 s hs t ht n 0 true false (.inl ⟨rfl, rfl, by omega, by omega⟩) (.inr ⟨rfl, rfl, .inl (by omega)⟩) wc hE1)
      have J2 := Lib.hid (fun W (hW : Below wc.heap.size wc W) => N32 n h0 h1 s hs t ht n 0 true false (.inl ⟨rfl, rfl, by omega, by omega⟩) (.inr ⟨rfl, rfl, .inl (by omega)⟩) W (HBE _ _ hW hE1))
      have p0 : ¬ (0 : Int) ≤ n := by omega
      have p1 : (-2147483648 : Int) ≤ n := by omega
      have p2 : n ≤ 2147483647 := by omega
      have p3 : n ≤ 4294967295 := by omega
      have pw : IntKind.u64.wrap n = n + 18446744073709551616 := by rw [hw64]; rw [if_pos (by omega)]
      have HB1 := Lib.hid hb1
      clear c hw64 hE1 HBE N64 N32 hs ht hb1
      go_wp2_with fail
      refine J1.out.mono ?_
      rintro e w2 ⟨⟨f1, g1, rfl⟩, hb2⟩
      have hcv2 := Lib.run_convert_string_bytes (P := Tryz.prog) w2 9 29 5 t (u := .string) Tryz.underlying9 Tryz.underlying29 Tryz.underlying5
      have J3 := Lib.hid (J2.out w2 hb2)
      have HB2 := Lib.hid (HB1.out.trans (hb2.mono HB1.out.size))
      clear J1 J2 hcv1 hb2
      go_wp2_with fail
      refine J3.out.mono ?_
      rintro e w3 ⟨⟨f2, g2, rfl⟩, hb3⟩
      have HB3 := Lib.hid (HB2.out.trans (hb3.mono HB2.out.size))
      clear J3 hcv2 hb3
      go_wp2_with fail
      go_ret
      first
        | exact ⟨rfl, HB3.out⟩
        | (refine ⟨congrArg (fun b => Ending.returned (Value.bool b)) (?_ : _ = true), HB3.out⟩
           first | rfl | simp [p0, p1, p2, p3] | (simp; omega))
    · have J1 := Lib.hid (N64 n h0 h1 s hs t ht n n true true (.inl ⟨rfl, rfl, by omega, by omega⟩) (.inl ⟨rfl, rfl, by omega, by omega⟩) wc hE1)
      have J2 := Lib.hid (fun W (hW : Below wc.heap.size wc W) => N32 n h0 h1 s hs t ht n n true true (.inl ⟨rfl, rfl, by omega, by omega⟩) (.inl ⟨rfl, rfl, by omega, by omega⟩) W (HBE _ _ hW hE1))
      have p0 : (0 : Int) ≤ n := by omega
      have p1 : (-2147483648 : Int) ≤ n := by omega
      have p2 : n ≤ 2147483647 := by omega
      have p3 : n ≤ 4294967295 := by omega
      have pw : IntKind.u64.wrap n = n := by rw [hw64]; rw [if_neg (by omega)]
      have HB1 := Lib.hid hb1
      clear c hw64 hE1 HBE N64 N32 hs ht hb1
      go_wp2_with fail
      refine J1.out.mono ?_
      rintro e w2 ⟨⟨f1, g1, rfl⟩, hb2⟩
      have hcv2 := Lib.run_convert_string_bytes (P := Tryz.prog) w2 9 29 5 t (u := .string) Tryz.underlying9 Tryz.underlying29 Tryz.underlying5
      have J3 := Lib.hid (J2.out w2 hb2)
      have HB2 := Lib.hid (HB1.out.trans (hb2.mono HB1.out.size))
      clear J1 J2 hcv1 hb2
      go_wp2_with fail
      refine J3.out.mono ?_
      rintro e w3 ⟨⟨f2, g2, rfl⟩, hb3⟩
      have HB3 := Lib.hid (HB2.out.trans (hb3.mono HB2.out.size))
      clear J3 hcv2 hb3
      go_wp2_with fail
      go_ret
      first
        | exact ⟨rfl, HB3.out⟩
        | (refine ⟨congrArg (fun b => Ending.returned (Value.bool b)) (?_ : _ = true), HB3.out⟩
           first | rfl | simp [p0, p1, p2, p3] | (simp; omega))
    · have J1 := Lib.hid (N64 n h0 h1 s hs t ht n n true true (.inl ⟨rfl, rfl, by omega, by omega⟩) (.inl ⟨rfl, rfl, by omega, by omega⟩) wc hE1)
      have J2 := Lib.hid (fun W (hW : Below wc.heap.size wc W) => N32 n h0 h1 s hs t ht 0 n false true (.inr ⟨rfl, rfl, by omega⟩) (.inl ⟨rfl, rfl, by omega, by omega⟩) W (HBE _ _ hW hE1))
      have p0 : (0 : Int) ≤ n := by omega
      have p1 : (-2147483648 : Int) ≤ n := by omega
      have p2 : ¬ n ≤ 2147483647 := by omega
      have p3 : n ≤ 4294967295 := by omega
      have pw : IntKind.u64.wrap n = n := by rw [hw64]; rw [if_neg (by omega)]
      have HB1 := Lib.hid hb1
      clear c hw64 hE1 HBE N64 N32 hs ht hb1
      go_wp2_with fail
      refine J1.out.mono ?_
      rintro e w2 ⟨⟨f1, g1, rfl⟩, hb2⟩
      have hcv2 := Lib.run_convert_string_bytes (P := Tryz.prog) w2 9 29 5 t (u := .string) Tryz.underlying9 Tryz.underlying29 Tryz.underlying5
      have J3 := Lib.hid (J2.out w2 hb2)
      have HB2 := Lib.hid (HB1.out.trans (hb2.mono HB1.out.size))
      clear J1 J2 hcv1 hb2
      go_wp2_with fail
      refine J3.out.mono ?_
      rintro e w3 ⟨⟨f2, g2, rfl⟩, hb3⟩
      have HB3 := Lib.hid (HB2.out.trans (hb3.mono HB2.out.size))
      clear J3 hcv2 hb3
      go_wp2_with fail
      go_ret
      first
        | exact ⟨rfl, HB3.out⟩
        | (refine ⟨congrArg (fun b => Ending.returned (Value.bool b)) (?_ : _ = true), HB3.out⟩
           first | rfl | simp [p0, p1, p2, p3] | (simp; omega))
    · have J1 := Lib.hid (N64 n h0 h1 s hs t ht n n true true (.inl ⟨rfl, rfl, by omega, by omega⟩) (.inl ⟨rfl, rfl, by omega, by omega⟩) wc hE1)
      have J2 := Lib.hid (fun W (hW : Below wc.heap.size wc W) => N32 n h0 h1 s hs t ht 0 0 false false (.inr ⟨rfl, rfl, by omega⟩) (.inr ⟨rfl, rfl, .inr (by omega)⟩) W (HBE _ _ hW hE1))
      have p0 : (0 : Int) ≤ n := by omega
      have p1 : (-2147483648 : Int) ≤ n := by omega
      have p2 : ¬ n ≤ 2147483647 := by omega
      have p3 : ¬ n ≤ 4294967295 := by omega
      have pw : IntKind.u64.wrap n = n := by rw [hw64]; rw [if_neg (by omega)]
      have HB1 := Lib.hid hb1
      clear c hw64 hE1 HBE N64 N32 hs ht hb1
      go_wp2_with fail
      refine J1.out.mono ?_
      rintro e w2 ⟨⟨f1, g1, rfl⟩, hb2⟩
      have hcv2 := Lib.run_convert_string_bytes (P := Tryz.prog) w2 9 29 5 t (u := .string) Tryz.underlying9 Tryz.underlying29 Tryz.underlying5
      have J3 := Lib.hid (J2.out w2 hb2)
      have HB2 := Lib.hid (HB1.out.trans (hb2.mono HB1.out.size))
      clear J1 J2 hcv1 hb2
      go_wp2_with fail
      refine J3.out.mono ?_
      rintro e w3 ⟨⟨f2, g2, rfl⟩, hb3⟩
      have HB3 := Lib.hid (HB2.out.trans (hb3.mono HB2.out.size))
      clear J3 hcv2 hb3
      go_wp2_with fail
      go_ret
      first
        | exact ⟨rfl, HB3.out⟩
        | (refine ⟨congrArg (fun b => Ending.returned (Value.bool b)) (?_ : _ = true), HB3.out⟩
           first | rfl | simp [p0, p1, p2, p3] | (simp; omega))

end Go.Proofs.YtdeehmjdbjlfkaaGreatDoor.jn
