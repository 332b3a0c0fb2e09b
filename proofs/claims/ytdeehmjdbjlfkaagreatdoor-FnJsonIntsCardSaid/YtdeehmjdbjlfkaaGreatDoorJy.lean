/- impl.jsonToken at a string; impl.jsonRead, impl.JsonTokens at a text that is one string. -/
import Derived.Test.YtdeehmjdbjlfkaaGreatDoorJx
import Derived.BigQuiet
import Derived.Deep.QuietTactic
import Derived.Deep.RegionWith
import Derived.Deep.DeepCutAuto
namespace Go.Proofs.YtdeehmjdbjlfkaaGreatDoor.js
open Go.RowKit
set_option linter.unusedVariables false
set_option linter.unusedSimpArgs false

def tokA (k : Nat) (p : Int) (raw : Value) (bo : Bool) (s : ByteArray) : Array Value := #[.int .u16 k, .int .i64 p, raw, .bool bo, .string s]

set_option maxHeartbeats 4000000 in
set_option maxRecDepth 100000 in
theorem tok_kind (k : Nat) (p : Int) (a : Option Addr) (n c : Nat) (bo : Bool) (s : ByteArray) (w : World) :
    Calls Tryz.prog 30 #[tokV k p (.slice a n c) bo s] w fun e w' => e = .returned (.int .u16 k) ∧ w' = w.alloc (.cells (tokA k p (.slice a n c) bo s) 70) := by
  unfold tokV
  go_enter Tryz.func30, Tryz.ntmps30
  go_wp2
  go_ret
  exact ⟨rfl, rfl⟩

set_option maxHeartbeats 4000000 in
set_option maxRecDepth 100000 in
theorem tok_pos (k : Nat) (p : Int) (a : Option Addr) (n c : Nat) (bo : Bool) (s : ByteArray) (w : World) :
    Calls Tryz.prog 70 #[tokV k p (.slice a n c) bo s] w fun e w' => e = .returned (.int .i64 p) ∧ w' = w.alloc (.cells (tokA k p (.slice a n c) bo s) 70) := by
  unfold tokV
  go_enter Tryz.func70, Tryz.ntmps70
  go_wp2
  go_ret
  exact ⟨rfl, rfl⟩

theorem conv_row {w : World} {b o c : Nat} {tx : List UInt8} (hr : RowM w b o tx) : (convert 29 9 (.slice (some ⟨b, o, none⟩) tx.length c)).run Tryz.prog w = .ok (.string ⟨tx.toArray⟩) w :=
  run_convert_bytes_back (P := Tryz.prog) w 29 9 5 ⟨b, o, none⟩ c tx Tryz.underlying29 Tryz.underlying5 Tryz.underlying9 (fun j hj => by
    rw [add_pos, hr j hj, List.getD_eq_getElem?_getD, List.getElem?_eq_getElem hj]; rfl)

set_option maxHeartbeats 4000000 in
set_option maxRecDepth 100000 in
theorem tok_raw (k : Nat) (p : Int) (b o n c : Nat) (bo : Bool) (s : ByteArray) (tx : List UInt8) (hn : tx.length = n) (w : World) (hb : b < w.heap.size) (hr : RowM w b o tx) :
    Calls Tryz.prog 55 #[tokV k p (.slice (some ⟨b, o, none⟩) n c) bo s] w fun e w' => e = .returned (.string ⟨tx.toArray⟩) ∧ w' = w.alloc (.cells (tokA k p (.slice (some ⟨b, o, none⟩) n c) bo s) 70) := by
  have CV := fun W (hW : Below w.heap.size w W) => conv_row (c := c) (hW.row hr hb)
  rw [hn] at CV
  have c0 := CV w (Below.refl _ _)
  have c1 := fun o => CV (w.alloc o) ((Below.refl _ _).alloc (Nat.le_refl _) o)
  clear CV
  unfold tokV
  go_enter Tryz.func55, Tryz.ntmps55
  go_wp2
  go_ret
  exact ⟨rfl, rfl⟩

set_option maxHeartbeats 4000000 in
set_option maxRecDepth 100000 in
theorem tok_str (p : Int) (a : Option Addr) (n c : Nat) (bo : Bool) (s : ByteArray) (w : World) :
    Calls Tryz.prog 72 #[tokV 16 p (.slice a n c) bo s] w fun e w' => e = .returned (.string s) ∧ w' = w.alloc (.cells (tokA 16 p (.slice a n c) bo s) 70) := by
  unfold tokV
  go_enter Tryz.func72, Tryz.ntmps72
  go_wp2
  go_ret
  exact ⟨rfl, rfl⟩

theorem heap_at (X : World) (o : Obj) (F : Nat) (h : F = X.heap.size) : (X.alloc o).heap[F]? = some o := by subst h; exact heap_alloc_new X o

theorem infoJ : (Tryz.prog.info? 39).map (·.size) = some 5 := by kernel_rfl

theorem below_step {B : Nat} {a x y : World} (h' : Below x.heap.size x y) (h : Below B a x) (hB : B ≤ a.heap.size) : Below B a y := h.trans (h'.mono (Nat.le_trans hB h.size))

def jtV (k : Int) (p : Int) (bo : Bool) (raw s : ByteArray) : Value := .agg #[.int .i64 k, .int .i64 p, .bool bo, .string raw, .string s]

set_option maxHeartbeats 2000000 in
set_option maxRecDepth 100000 in
theorem json_token (p : Int) (b o n c : Nat) (s : ByteArray) (tx : List UInt8) (hn : tx.length = n) (w : World) (hb : b < w.heap.size) (hr : RowM w b o tx) :
    Calls Tryz.prog 50 #[tokV 16 p (.slice (some ⟨b, o, none⟩) n c) false s] w fun e w' => e = .returned (jtV 16 p false ⟨tx.toArray⟩ s) ∧ Below w.heap.size w w' := by
  have HK : Hid (∀ W, Calls Tryz.prog 30 #[(.agg #[.int .u16 16, .int .i64 p, .slice (some ⟨b, o, none⟩) n c, .bool false, .string s])] W fun e w' => e = .returned (.int .u16 16) ∧ w' = W.alloc (.cells #[.int .u16 16, .int .i64 p, .slice (some ⟨b, o, none⟩) n c, .bool false, .string s] 70)) := Lib.hid (fun W => tok_kind 16 p (some ⟨b, o, none⟩) n c false s W)
  have HP : Hid (∀ W, Calls Tryz.prog 70 #[(.agg #[.int .u16 16, .int .i64 p, .slice (some ⟨b, o, none⟩) n c, .bool false, .string s])] W fun e w' => e = .returned (.int .i64 p) ∧ w' = W.alloc (.cells #[.int .u16 16, .int .i64 p, .slice (some ⟨b, o, none⟩) n c, .bool false, .string s] 70)) := Lib.hid (fun W => tok_pos 16 p (some ⟨b, o, none⟩) n c false s W)
  have HR : Hid (∀ W, Below w.heap.size w W → Calls Tryz.prog 55 #[(.agg #[.int .u16 16, .int .i64 p, .slice (some ⟨b, o, none⟩) n c, .bool false, .string s])] W fun e w' => e = .returned (.string ⟨tx.toArray⟩) ∧ w' = W.alloc (.cells #[.int .u16 16, .int .i64 p, .slice (some ⟨b, o, none⟩) n c, .bool false, .string s] 70)) := Lib.hid (fun W (hW : Below w.heap.size w W) => tok_raw 16 p b o n c false s tx hn W (Nat.lt_of_lt_of_le hb hW.size) (hW.row hr hb))
  have HS : Hid (∀ W, Calls Tryz.prog 72 #[(.agg #[.int .u16 16, .int .i64 p, .slice (some ⟨b, o, none⟩) n c, .bool false, .string s])] W fun e w' => e = .returned (.string s) ∧ w' = W.alloc (.cells #[.int .u16 16, .int .i64 p, .slice (some ⟨b, o, none⟩) n c, .bool false, .string s] 70)) := Lib.hid (fun W => tok_str p (some ⟨b, o, none⟩) n c false s W)
  obtain ⟨raw, hraw⟩ : ∃ raw : ByteArray, raw = ⟨tx.toArray⟩ := ⟨_, rfl⟩
  rw [← hraw] at HR ⊢
  clear hr hraw
  unfold tokV
  go_enter Tryz.func50, Tryz.ntmps50
  go_wp2_with fail
  obtain ⟨W1, hW1⟩ : ∃ W1, W1 = (w.alloc (.cells #[.int .u16 16, .int .i64 p, .slice (some ⟨b, o, none⟩) n c, .bool false, .string s] 70)).alloc (.cells #[.int .i64 0, .int .i64 0, .bool false, .string ⟨#[]⟩, .string ⟨#[]⟩] 39) := ⟨_, rfl⟩
  have hs1 : W1.heap.size = w.heap.size + 2 := by rw [hW1]; simp
  have hb1 : Below w.heap.size w W1 := by rw [hW1]; go_grown
  have hB1 : W1.heap[w.heap.size]? = some (.cells #[.int .u16 16, .int .i64 p, .slice (some ⟨b, o, none⟩) n c, .bool false, .string s] 70 (0, 0)) := by rw [hW1]; exact alloc_blk (heap_alloc_new w _)
  have hB2 : W1.heap[w.heap.size + 1]? = some (.cells #[.int .i64 0, .int .i64 0, .bool false, .string ⟨#[]⟩, .string ⟨#[]⟩] 39 (0, 0)) := by
    rw [hW1]
    have e := heap_alloc_new (w.alloc (.cells #[.int .u16 16, .int .i64 p, .slice (some ⟨b, o, none⟩) n c, .bool false, .string s] 70)) (.cells #[.int .i64 0, .int .i64 0, .bool false, .string ⟨#[]⟩, .string ⟨#[]⟩] 39)
    rw [World.size_alloc] at e
    exact e
  have HKC : Hid (∀ w' : World, Below W1.heap.size W1 w' → w'.cell? ⟨w.heap.size, 0, none⟩ = some (.int .u16 16) ∧ w'.cell? ⟨w.heap.size, 1, none⟩ = some (.int .i64 p) ∧ w'.cell? ⟨w.heap.size, 2, none⟩ = some (.slice (some ⟨b, o, none⟩) n c) ∧ w'.cell? ⟨w.heap.size, 3, none⟩ = some (.bool false) ∧ w'.cell? ⟨w.heap.size, 4, none⟩ = some (.string s)) := Lib.hid (fun w' hb => by
    have h := (hb.block w.heap.size (by omega)).trans hB1
    exact ⟨blk_cell h rfl, blk_cell h rfl, blk_cell h rfl, blk_cell h rfl, blk_cell h rfl⟩)
  have H1 := Lib.hid (And.intro hb1 hB2)
  have e16 : IntKind.i64.wrap 16 = 16 := by decide
  rw [← hW1]
  clear hW1 hb1 hB1 hB2
  go_cut [3] (fun v3 wx => ∃ F, v3 = .pointer (some ⟨F, 0, none⟩) ∧ W1.heap.size ≤ F ∧ Below W1.heap.size W1 wx ∧ wx.heap[F]? = some (.cells #[.int .i64 16, .int .i64 p, .bool false, .string raw, .string ⟨#[]⟩] 39 (0, 0)))
  case first =>
    go_region_held3 (fun w' => w'.cell? ⟨w.heap.size, 0, none⟩ = some (.int .u16 16) ∧ w'.cell? ⟨w.heap.size, 1, none⟩ = some (.int .i64 p) ∧ w'.cell? ⟨w.heap.size, 2, none⟩ = some (.slice (some ⟨b, o, none⟩) n c) ∧ w'.cell? ⟨w.heap.size, 3, none⟩ = some (.bool false) ∧ w'.cell? ⟨w.heap.size, 4, none⟩ = some (.string s))
      (first | exact HKC.out _ (by go_grown) | go_keep)
      (first
        | (go_at_call 30; (refine (HK.out _).mono ?_); rintro e w2 ⟨rfl, rfl⟩)
        | (go_at_call 70; (refine (HP.out _).mono ?_); rintro e w3 ⟨rfl, rfl⟩)
        | (go_at_call 55; (refine (HR.out _ (H1.out.1.trans (Below.mono (by go_grown) H1.out.1.size))).mono ?_); rintro e w4 ⟨rfl, rfl⟩))
    all_goals
      go_wp2_with fail
      go_meet
      refine ⟨_, rfl, ?_, ?_, ?_⟩
      · omega
      · go_grown
      · first
          | exact heap_at _ _ _ (by first | omega | (simp only [World.size_alloc]; omega))
          | exact alloc_blk (heap_at _ _ _ (by first | omega | (simp only [World.size_alloc]; omega)))
          | exact alloc_blk (alloc_blk (heap_at _ _ _ (by first | omega | (simp only [World.size_alloc]; omega))))
          | exact alloc_blk (alloc_blk (alloc_blk (heap_at _ _ _ (by first | omega | (simp only [World.size_alloc]; omega)))))
  case rest =>
    obtain ⟨F, rfl, hF, hbx, hFc⟩ := hcut
    have hFlt : F < wc.heap.size := (Array.getElem?_eq_some_iff.1 hFc).1
    have hR2 := (hbx.block (w.heap.size + 1) (by omega)).trans H1.out.2
    obtain ⟨k0, k1, k2, k3, k4⟩ := HKC.out wc hbx
    have HX := Lib.hid (And.intro hbx (And.intro hFc hR2))
    have hzw := hbx.size
    clear hbx hFc hR2
    go_wp2_with fail
    refine (HK.out _).mono ?_
    rintro e w2 ⟨rfl, hw2⟩
    have hb2 : Below wc.heap.size wc w2 := by rw [hw2]; exact (Below.refl _ _).alloc (Nat.le_refl _) _
    clear hw2 k0 k1 k2 k3 k4
    have hb2w : Below W1.heap.size W1 w2 := below_step hb2 HX.out.1 (Nat.le_refl _)
    obtain ⟨k0, k1, k2, k3, k4⟩ := HKC.out w2 hb2w
    have HY := Lib.hid (And.intro hb2w (And.intro ((hb2.block F hFlt).trans HX.out.2.1) ((hb2.block (w.heap.size + 1) (by omega)).trans HX.out.2.2)))
    have hFlt2 : F < w2.heap.size := Nat.lt_of_lt_of_le hFlt hb2.size
    have hzw2 := hb2w.size
    clear hb2 hb2w
    go_wp2_with fail
    refine (HS.out _).mono ?_
    rintro e w3 ⟨rfl, hw3⟩
    have hb3 : Below w2.heap.size w2 w3 := by rw [hw3]; exact (Below.refl _ _).alloc (Nat.le_refl _) _
    clear hw3 k0 k1 k2 k3 k4
    have hF3 : w3.heap[F]? = some (.cells #[.int .i64 16, .int .i64 p, .bool false, .string raw, .string ⟨#[]⟩] 39 (0, 0)) := (hb3.block F hFlt2).trans HY.out.2.1
    have hR3 : w3.heap[w.heap.size + 1]? = some (.cells #[.int .i64 0, .int .i64 0, .bool false, .string ⟨#[]⟩, .string ⟨#[]⟩] 39 (0, 0)) := (hb3.block (w.heap.size + 1) (by omega)).trans HY.out.2.2
    have hbw3 : Below w.heap.size w w3 := H1.out.1.trans ((below_step hb3 HY.out.1 (Nat.le_refl _)).mono H1.out.1.size)
    have f0 : w3.cell? ⟨F, 0, none⟩ = some (.int .i64 16) := blk_cell hF3 rfl
    have f1 : w3.cell? ⟨F, 1, none⟩ = some (.int .i64 p) := blk_cell hF3 rfl
    have f2 : w3.cell? ⟨F, 2, none⟩ = some (.bool false) := blk_cell hF3 rfl
    have f3 : w3.cell? ⟨F, 3, none⟩ = some (.string raw) := blk_cell hF3 rfl
    have f4 : w3.cell? ⟨F, 4, none⟩ = some (.string ⟨#[]⟩) := blk_cell hF3 rfl
    have ff4 := blk_frozen hF3 4
    have nRF : ¬ w.heap.size + 1 = F := by omega
    have hkp : ∀ v, Keeps F w (w3.setCell ⟨F, 4, none⟩ v) := fun v => (Keeps.of hbw3).setCell 4 v
    have hR4 : ∀ v, (w3.setCell ⟨F, 4, none⟩ v).heap[w.heap.size + 1]? = some (.cells #[.int .i64 0, .int .i64 0, .bool false, .string ⟨#[]⟩, .string ⟨#[]⟩] 39 (0, 0)) := fun v => by
      show (w3.heap.modify F _)[w.heap.size + 1]? = _
      rw [Array.getElem?_modify, if_neg (fun e => nRF e.symm)]; exact hR3
    have HKP := Lib.hid hkp
    have HR4 := Lib.hid hR4
    have hFge : w.heap.size ≤ F := by omega
    clear hb3 hF3 hR3 hbw3 hkp hR4
    go_wp2_with ((with_reducible refine store_own ?_ 39 (.tmp 2) (.tmp 29) ?_ (w.heap.size + 1) #[.int .i64 16, .int .i64 p, .bool false, .string raw, .string s] ?_ ?_ 39 #[.int .i64 0, .int .i64 0, .bool false, .string ⟨#[]⟩, .string ⟨#[]⟩] (HR4.out _) 5 infoJ ?_ ?_ ?_ F w (HKP.out _) (Nat.le_succ _) ?_); rfl; rfl; rfl; rfl; rfl; rfl; rfl; (intro w5 hg5 hcs ho5 hs5 hk5); have c0 := hcs 0 _ rfl; have c1 := hcs 1 _ rfl; have c2 := hcs 2 _ rfl; have c3 := hcs 3 _ rfl; have c4' := hcs 4 _ rfl; clear hcs ho5 hs5 hg5; refine Hid.out ?_)
    refine Lib.hid ?_
    go_wp2
    refine bodyPost_ret (v := jtV 16 p false raw s) (by simp [results, Tryz.results50, go_sem, c0, c1, c2, c3, c4', jtV]) rfl ⟨rfl, hk5.below hFge (Nat.le_refl _)⟩

end Go.Proofs.YtdeehmjdbjlfkaaGreatDoor.js
