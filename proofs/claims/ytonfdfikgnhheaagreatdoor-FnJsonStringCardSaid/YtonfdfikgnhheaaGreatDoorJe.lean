/- impl.jsonDo and impl.JsonEncode at one string; impl.copied. -/
import Derived.Test.YtonfdfikgnhheaaGreatDoorJd
import Derived.Deep.DeepCutAuto
namespace Go.Proofs.YtonfdfikgnhheaaGreatDoor.js
open Go.RowKit
set_option linter.unusedVariables false
set_option linter.unusedSimpArgs false

def opV (s : ByteArray) : Value := .agg #[.int .i64 3, .string s, .bool false, .int .i64 0, .int .u64 0, .int .u64 0, .int .i64 0]

set_option maxHeartbeats 4000000 in
set_option maxRecDepth 100000 in
theorem json_do (s : ByteArray) (w : World) (E B : Nat) (v : Value) (g : List UInt8) (h : IsEnc w E B 0 v g) (EB : ∀ w', Below E w w' → EncEnv w') (hlen : g.length + 6 * s.size + 2 ≤ 140737488355328) :
    Calls Tryz.prog 28 #[.pointer (some ⟨E, 0, none⟩), opV s] w fun e w' => WSays w E B s.data.toList g e w' := by
  have hE : E < w.heap.size := Nat.lt_of_lt_of_le h.lt h.le
  have HW := Lib.hid (fun o => write_string s (w.alloc o) E B v g (h.below ((Below.refl _ _).alloc (Nat.le_refl _) _)) (fun w' hw' => EB w' (((Below.refl E w).alloc (Nat.le_of_lt hE) o).trans hw')) hlen)
  have HB := Lib.hid (fun o => (Below.refl E w).alloc (Nat.le_of_lt hE) o)
  obtain ⟨l, hl⟩ : ∃ l, l = s.data.toList := ⟨_, rfl⟩
  rw [← hl] at HW ⊢
  clear h EB hlen hl
  unfold opV
  go_enter Tryz.func28, Tryz.ntmps28
  go_wp2_with fail
  refine (HW.out _).mono ?_
  rintro e w2 (⟨hv, rfl, hi, hb⟩ | ⟨hv, ⟨T, p, rfl⟩, hb⟩)
  · have P : Hid (WSays w E B l g (.returned .nilIface) w2) := Lib.hid (.inl ⟨hv, rfl, hi, (HB.out _).trans hb⟩)
    clear hv hi hb
    go_wp2_with fail
    go_ret
    exact P.out
  · have P : Hid (WSays w E B l g (.returned (.iface T p)) w2) := Lib.hid (.inr ⟨hv, ⟨T, p, rfl⟩, (HB.out _).trans hb⟩)
    clear hv hb
    go_wp2_with fail
    go_ret
    exact P.out

/-- A row of bytes that is read. -/
def Bytes (w : World) (b off : Nat) (m : List UInt8) : Prop := ∀ j u, (m.map bb)[j]? = some u → w.cell? ((⟨b, off, none⟩ : Addr).add j) = some u

theorem own_row {w : World} {B : Nat} {v : Value} {g : List UInt8} (h : OwnB w B v g) (hn : 0 < g.length) : ∃ gb n cap, v = .slice (some ⟨gb, 0, none⟩) n cap ∧ g.length = n ∧ n ≤ cap ∧ cap ≤ 9223372036854775807 ∧ B ≤ gb ∧ gb < w.heap.size ∧ Bytes w gb 0 g := by
  have hh := h
  rcases h.2 with ⟨_, h0⟩ | ⟨gb, cap, cur, rfl, hg, hb, hnc, hm, _⟩
  · omega
  · exact ⟨gb, _, cap, rfl, rfl, hnc, by unfold maxLen at hm; omega, hg, (Array.getElem?_eq_some_iff.1 hb).1, fun j u hu => World.ownsRow.cells (g := gb) hh rfl j u hu⟩

set_option maxHeartbeats 4000000 in
set_option maxRecDepth 100000 in
theorem copied_row (b off cap n : Nat) (m : List UInt8) (hn : m.length = n) (h1 : 1 ≤ n) (hmax : n ≤ 140737488355328) (w : World) (hb : b < w.heap.size) (hc : Bytes w b off m) :
    Calls Tryz.prog 29 #[.slice (some ⟨b, off, none⟩) n cap] w fun e w' => (∃ v', e = .returned v' ∧ OwnB w' w.heap.size v' m) ∧ Below w.heap.size w w' := by
  have HC := Lib.hid hc
  have HA := Lib.hid (fun o j u (hj : (m.map bb)[j]? = some u) => by
    have := hc j u hj
    rw [← this]
    exact World.cell?_alloc_lt w o _ (by unfold Addr.add; split <;> exact hb) : ∀ o j u, (m.map bb)[j]? = some u → (w.alloc o).cell? ((⟨b, off, none⟩ : Addr).add j) = some u)
  clear hc
  go_enter Tryz.func29, Tryz.ntmps29
  go_wp2_with (at_builtin; go_loud (refine wpList_push rfl _ _ rfl w.heap.size _ [] rfl (.inl ⟨_, _, rfl, fun j u hj => by simp at hj⟩) ⟨b, off, none⟩ n cap m rfl hn (HA.out _) h1 (by simpa using hmax) (by simp) w (by go_grown) ?_); (intro v' w' h1 h2); have P := Lib.hid (And.intro h1 h2); clear h1 h2)
  go_ret
  exact ⟨⟨_, rfl, by simpa using P.out.1⟩, P.out.2⟩

def ESays (w : World) (l : List UInt8) (e : Ending) (w' : World) : Prop :=
  (Lib.validD l = true ∧ (∃ v', e = .returned (.tuple #[v', .bool true]) ∧ OwnB w' w.heap.size v' (34 :: enc l ++ [34])) ∧ Below w.heap.size w w') ∨
  (Lib.validD l = false ∧ e = .returned (.tuple #[.slice none 0 0, .bool false]) ∧ Below w.heap.size w w')

set_option maxHeartbeats 8000000 in
set_option maxRecDepth 100000 in
theorem json_encode (s : ByteArray) (w : World) (b0 c0 : Nat) (hb0 : b0 < w.heap.size) (hrow : w.heap[b0]? = some (.cells #[.int .i64 3, .string s, .bool false, .int .i64 0, .int .u64 0, .int .u64 0, .int .i64 0] 44 (0, 0)))
    (EB : ∀ w', Below w.heap.size w w' → EncEnv w') (hlen : 6 * s.size + 2 ≤ 140737488355328) :
    Calls Tryz.prog 13 #[.slice (some ⟨b0, 0, none⟩) 1 c0, .string ⟨#[]⟩] w fun e w' => ESays w s.data.toList e w' := by
  have HN := Lib.hid (new_encoder w)
  have HD := Lib.hid (fun w1 (hb : Below w.heap.size w w1) (hi : IsEnc w1 w.heap.size (w.heap.size + 1) 0 (.slice none 0 0) []) => json_do s w1 w.heap.size (w.heap.size + 1) (.slice none 0 0) [] hi (fun w' hw' => EB w' (hb.trans hw')) (by simpa using hlen))
  have HR := Lib.hid (fun w1 (hb : Below w.heap.size w w1) => (hb.block b0 hb0).trans hrow)
  obtain ⟨l, hl⟩ : ∃ l, l = s.data.toList := ⟨_, rfl⟩
  have hll : l.length = s.size := by rw [hl]; exact (size_list s).symm
  have HLEN := Lib.hid (And.intro hll hlen)
  rw [← hl] at HD ⊢
  clear hrow EB hlen hl hll
  go_enter Tryz.func13, Tryz.ntmps13
  go_wp2_with fail
  refine HN.out.mono ?_
  rintro e w1 ⟨rfl, hi, hb⟩
  have hr := HR.out w1 hb
  have c0' : w1.cell? ⟨b0, 0, none⟩ = some (.int .i64 3) := by rw [cell_of_row w1 b0 0 _ _ _ hr]; rfl
  have c1 : w1.cell? ⟨b0, 1, none⟩ = some (.string s) := by rw [cell_of_row w1 b0 1 _ _ _ hr]; rfl
  have c2 : w1.cell? ⟨b0, 2, none⟩ = some (.bool false) := by rw [cell_of_row w1 b0 2 _ _ _ hr]; rfl
  have c3 : w1.cell? ⟨b0, 3, none⟩ = some (.int .i64 0) := by rw [cell_of_row w1 b0 3 _ _ _ hr]; rfl
  have c4 : w1.cell? ⟨b0, 4, none⟩ = some (.int .u64 0) := by rw [cell_of_row w1 b0 4 _ _ _ hr]; rfl
  have c5 : w1.cell? ⟨b0, 5, none⟩ = some (.int .u64 0) := by rw [cell_of_row w1 b0 5 _ _ _ hr]; rfl
  have c6 : w1.cell? ⟨b0, 6, none⟩ = some (.int .i64 0) := by rw [cell_of_row w1 b0 6 _ _ _ hr]; rfl
  have HI := Lib.hid (And.intro hi hb)
  clear hr hi hb
  go_wp2_with fail
  refine wp_loop_rounds 2 ?_
  rw [rounds_succ]
  go_wp2_with fail
  refine (HD.out _ (HI.out.2.alloc HI.out.2.size _) (HI.out.1.below (by go_grown))).mono ?_
  rintro e w2 (⟨hv, rfl, ⟨v', hi⟩, hb⟩ | ⟨hv, ⟨T, p, rfl⟩, hb⟩)
  · obtain ⟨gb, n, cap, rfl, hgn, hgc, hgm, hgb, hglt, hby⟩ := own_row hi.own (by simp)
    have ho := hi.out
    have CP := copied_row gb 0 cap n _ hgn (by rw [← hgn]; simp) (by have := HLEN.out; have := enc_len l; rw [← hgn]; simp; omega) w2 hglt hby
    have HCP := Lib.hid CP
    have HW := Lib.hid (And.intro hv ((HI.out.2.alloc HI.out.2.size _).trans hb))
    clear hi hb hv CP hby hgn
    go_wp2_with fail
    rw [rounds_succ]
    go_wp2_with (first | (go_at_call 30; go_in) | (go_at_call 29; refine HCP.out.mono ?_; (rintro e w3 ⟨⟨v3, rfl, h1⟩, h2⟩); have P := Lib.hid (And.intro h1 h2); clear h1 h2))
    go_ret2
    exact .inl ⟨HW.out.1, ⟨_, rfl, own_mono P.out.1 HW.out.2.size⟩, HW.out.2.trans (P.out.2.mono HW.out.2.size)⟩
  · have HW := Lib.hid (And.intro hv ((HI.out.2.alloc HI.out.2.size _).trans hb))
    clear hb hv
    go_wp2_with fail
    go_ret2
    exact .inr ⟨HW.out.1, rfl, HW.out.2⟩

end Go.Proofs.YtonfdfikgnhheaaGreatDoor.js
