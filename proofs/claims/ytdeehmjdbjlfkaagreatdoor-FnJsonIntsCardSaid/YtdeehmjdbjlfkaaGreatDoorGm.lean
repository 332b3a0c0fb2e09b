/- laws.FnJsonInts. -/
import Derived.Test.YtdeehmjdbjlfkaaGreatDoorGv
import Derived.Test.YtdeehmjdbjlfkaaGreatDoorGl
import Derived.Lib.ItoaLen
namespace Go.Proofs.YtdeehmjdbjlfkaaGreatDoor.jn
open Go.RowKit Go.Proofs.YtdeehmjdbjlfkaaGreatDoor.js Go.Proofs.YtdeehmjdbjlfkaaGreatDoor.pu Go.Proofs.YtdeehmjdbjlfkaaGreatDoor.num Go.Proofs.YtdeehmjdbjlfkaaGreatDoor.fl
set_option linter.unusedVariables false
set_option linter.unusedSimpArgs false

theorem num_says (bits : Nat) (hbits : bits = 32 ∨ bits = 64) (n : Int) (h0 : -9223372036854775808 ≤ n) (h1 : n ≤ 9223372036854775807) (s : List UInt8) (hs : Sfx s) (t : ByteArray) (ht : t = ⟨(Lib.itoa n ++ s).toArray⟩)
    (i u : Int) (bi bu : Bool) (hi : (bi = true ∧ i = n ∧ -((2 ^ (bits - 1) : Nat) : Int) ≤ n ∧ n < ((2 ^ (bits - 1) : Nat) : Int)) ∨ (bi = false ∧ i = 0 ∧ ¬ (-((2 ^ (bits - 1) : Nat) : Int) ≤ n ∧ n < ((2 ^ (bits - 1) : Nat) : Int))))
    (hu : (bu = true ∧ u = n ∧ 0 ≤ n ∧ n.toNat ≤ 2 ^ bits - 1) ∨ (bu = false ∧ u = 0 ∧ (n < 0 ∨ ¬ n.toNat ≤ 2 ^ bits - 1)))
    (W : World) (hE : ∀ w', Below W.heap.size W w' → FEnv w' ∧ Errs w') :
    Calls Tryz.prog 17 #[.slice (some ⟨W.heap.size, 0, none⟩) t.size (grownCap W t.size 0 5), .int .i64 bits] (Lib.bytesWorld W 5 t)
      fun e w' => (∃ (f : Int) (fok : Bool), e = .returned (.tuple #[.int .i64 i, .bool bi, .int .u64 u, .bool bu, .int .u64 f, .bool fok, .bool true])) ∧ Below W.heap.size W w' := by
  obtain ⟨m, p, ng, hf⟩ := whole_few n h0 h1 s hs
  obtain ⟨hw, hIS, hhead⟩ := whole_n n h0 h1 s hs
  have hbw : Below W.heap.size W (Lib.bytesWorld W 5 t) := Lib.bytesWorld_below W 5 t
  have hlen : t.size = (Lib.itoa n ++ s).length := by rw [ht]; exact List.size_toArray
  have hL1 : 1 ≤ (Lib.itoa n ++ s).length := by
    have := List.length_pos_iff.2 (itoa_ne n)
    rw [List.length_append]; omega
  have hL47 : (Lib.itoa n ++ s).length ≤ 140737488355000 := by
    have hl := dec_len19 n.natAbs (by omega)
    have h4 : s.length ≤ 8 := by rcases hs with rfl | rfl | rfl | rfl | rfl | rfl <;> decide
    rw [sgn_text n, List.length_append, List.length_append]
    split <;> simp only [List.length_cons, List.length_nil] <;> omega
  have hby : Bytes (Lib.bytesWorld W 5 t) W.heap.size 0 (Lib.itoa n ++ s) := fun j v hj => by
    have hjl : j < (Lib.itoa n ++ s).length := by
      have := (List.getElem?_eq_some_iff.1 hj).1
      simpa using this
    rw [List.getElem?_map, List.getElem?_eq_getElem hjl] at hj
    have hc := Lib.bytesWorld_cell W 5 t j (by rw [hlen]; exact hjl)
    rw [add_pos]
    rw [show 0 + j = j from Nat.zero_add j] 
    rw [hc, ← hj, ht]
    show some _ = some (bb _)
    rw [List.getD_eq_getElem?_getD, List.getElem?_eq_getElem hjl]; rfl
  have hlist : (IntS (Lib.itoa n ++ s) 0).data.toList = Lib.itoa n := by rw [hIS]
  have hlt : W.heap.size < (Lib.bytesWorld W 5 t).heap.size := by
    have hc := Lib.bytesWorld_cell W 5 t 0 (by omega)
    unfold World.cell? at hc
    rcases Nat.lt_or_ge W.heap.size (Lib.bytesWorld W 5 t).heap.size with hl | hl
    · exact hl
    · rw [Array.getElem?_eq_none_iff.2 hl] at hc; simp at hc
  obtain ⟨rI, hrI⟩ : ∃ rI, rI = (if bi = true then some (n, false) else (none : Option (Int × Bool))) := ⟨_, rfl⟩
  obtain ⟨rU, hrU⟩ : ∃ rU, rU = (if n < 0 then NumEnd.syn else if n.toNat ≤ 2 ^ bits - 1 then NumEnd.ok n.toNat false else .rng) := ⟨_, rfl⟩
  have h10 : 10 ≤ 2 ^ (bits - 1) ∧ 2 ^ (bits - 1) ≤ 2 ^ bits - 1 := by rcases hbits with rfl | rfl <;> decide
  have H := json_number bits W.heap.size (Lib.itoa n ++ s).length (grownCap W t.size 0 5) (Lib.itoa n ++ s) hbits rfl hL1 hL47 hhead hw
    rI (by
      rw [hlist, pi_all _ _ h10.1 h10.2, hrI]
      rcases hi with ⟨rfl, _, hc⟩ | ⟨rfl, _, hc⟩
      · rw [if_pos hc, if_pos rfl]
      · rw [if_neg hc, if_neg (by simp)])
    (by intro a b h; rw [hrI] at h; split at h <;> cases h; rfl)
    rU (by rw [hlist, pu_all _ (by omega), hrU]) (by intro a b h; rw [hrU] at h; split at h; · cases h
                                                     · split at h <;> cases h; rfl)
    m p ng hf (Lib.bytesWorld W 5 t) hlt hby (fun w' hw' => hE w' (hbw.trans (hw'.mono hbw.size)))
  rw [← hlen] at H
  refine H.mono ?_
  rintro e w' ⟨⟨i', iok, u', uok, f, fok, rfl, g1, g2⟩, hb⟩
  refine ⟨⟨f, fok, ?_⟩, hbw.trans (hb.mono hbw.size)⟩
  have e1 : i' = i ∧ iok = bi := by
    rcases hi with ⟨rfl, rfl, hc⟩ | ⟨rfl, rfl, hc⟩
    · rw [hrI, if_pos rfl] at g1
      unfold IntR at g1
      simp at g1
      exact g1
    · rw [hrI, if_neg (by simp)] at g1
      unfold IntR at g1
      simp at g1
      exact g1
  have e2 : u' = u ∧ uok = bu := by
    rcases hu with ⟨rfl, rfl, hc, hc'⟩ | ⟨rfl, rfl, hc⟩
    · rw [hrU, if_neg (by omega), if_pos hc'] at g2
      unfold UintR at g2
      simp at g2
      exact ⟨by omega, g2.2⟩
    · rw [hrU] at g2
      rcases hc with hc | hc
      · rw [if_pos hc] at g2
        unfold UintR at g2
        simp at g2
        exact g2
      · split at g2
        · unfold UintR at g2
          simp at g2
          exact g2
        · try rw [if_neg hc] at g2
          unfold UintR at g2
          simp at g2
          exact g2
  rw [e1.1, e1.2, e2.1, e2.2]

theorem law_all (n f : Int) (h0 : -9223372036854775808 ≤ n) (h1 : n ≤ 9223372036854775807) (hf0 : 0 ≤ f) (hf1 : f < 256) (w : World) (EB : ∀ w', Below w.heap.size w w' → FEnv w' ∧ Errs w') :
    Calls Tryz.prog 7 #[.int .i64 n, .int .u8 f] w fun e w' => e = .returned (.bool true) ∧ Below w.heap.size w w' :=
  law_walk n f h0 h1 hf0 hf1 (fun W => ∀ w', Below W.heap.size W w' → FEnv w' ∧ Errs w') (fun W W' hb hE w' hw' => hE w' (hb.trans (hw'.mono hb.size)))
    (fun n h0 h1 s hs t ht i u bi bu hi hu W hE => num_says 64 (.inr rfl) n h0 h1 s hs t ht i u bi bu hi hu W hE)
    (fun n h0 h1 s hs t ht i u bi bu hi hu W hE => num_says 32 (.inl rfl) n h0 h1 s hs t ht i u bi bu hi hu W hE) w EB

end Go.Proofs.YtdeehmjdbjlfkaaGreatDoor.jn
