/- defval.Unmarshal and impl.DefUnmarshal at bytes; the reference's DefBytes. -/
import Derived.Test.YtdcgoaikfbbneaaGreatDoorUv
import Derived.Test.YtdcgoaikfbbneaaGreatDoorUd
namespace Go.Proofs.YtdcgoaikfbbneaaGreatDoor.une
open Go.RowKit Go.Proofs.YtdcgoaikfbbneaaGreatDoor.ints
set_option linter.unusedVariables false
set_option linter.unusedSimpArgs false

set_option maxHeartbeats 4000000 in
set_option maxRecDepth 100000 in
theorem dunB (l o : List UInt8) (hcu : Cu l o) (hl : l.length ≤ 140737488350000) (hol : o.length ≤ 140737488350000) (s : ByteArray) (hs : s.data.toList = l) (f : Int) (w : World) (he : pu.Errs w) :
    Calls Tryz.prog 10 #[.string s, .int .i8 12, .iface 50 (.slice none 0 0), .int .i64 f] w
      fun e w' => (∃ g, e = .returned (.tuple #[valB (some ⟨g, 0, none⟩) o.length, .nilIface, .nilIface]) ∧ BytesAt w' g o) ∧ Below w.heap.size w w' := by
  have UB := fun (x : Obj) => unmarshal_bytes l o hcu hl hol s hs (w.alloc x) (he.below ((Below.refl _ _).alloc (Nat.le_refl _) _))
  have HUB := Lib.hid UB
  clear UB hcu hs he
  go_enter Tryz.func10, Tryz.ntmps10
  go_wp2_with fail
  refine (HUB.out _).mono ?_
  rintro e w1 ⟨⟨g, c, rfl, hc1, hc2, hgz, hby⟩, hb1⟩
  have HG : w1.heap[w.heap.size]? = some (.cells #[.int .i64 0, .int .u64 0, .string ⟨#[]⟩, .slice none 0 0] 40 (0, 0)) := (after_box hb1).1
  have HZ := (after_box hb1).2.1
  have HB := (after_box hb1).2.2
  have HBY := Lib.hid hby
  have HGZ : w.heap.size < g := by simp at hgz; omega
  have HC := Lib.hid (And.intro hc1 hc2)
  clear hb1 hby hc1 hc2 hgz
  go_wp2_with fail
  refine (value_bytes g o.length c HC.out.1 HC.out.2 _).mono ?_
  rintro e w2 ⟨rfl, hb2⟩
  have HG2 : w2.heap[w.heap.size]? = some (.cells #[.int .i64 0, .int .u64 0, .string ⟨#[]⟩, .slice none 0 0] 40 (0, 0)) := (hb2.block _ HZ).trans HG
  have HB2 : Below w.heap.size w w2 := HB.trans (hb2.mono (Nat.le_of_lt HZ))
  have HBY2 := Lib.hid (HBY.out.below hb2)
  have HZ2 := hb2.size
  clear hb2
  unfold valB
  go_wp2_with (first | ((with_reducible refine store_blk ?_ 40 (.tmp 8) (.tmp 168) ?_ w.heap.size #[.int .i64 9, .int .u64 0, .string ⟨#[]⟩, .slice (some ⟨g, 0, none⟩) o.length o.length] ?_ ?_ 40 #[.int .i64 0, .int .u64 0, .string ⟨#[]⟩, .slice none 0 0] HG2 4 infoP ?_ ?_ ?_ w w.heap.size (Nat.le_refl _) HB2 ?_); rfl; rfl; rfl; rfl; rfl; rfl; rfl; (intro w5 hg5 hcs ho5 hs5 hb5); have c0 := hcs 0 _ rfl; have c1 := hcs 1 _ rfl; have c2 := hcs 2 _ rfl; have c3 := hcs 3 _ rfl; clear hcs; refine Hid.out ?_))
  refine Lib.hid ?_
  have HO5 := Lib.hid (And.intro ho5 hs5)
  clear ho5 hs5
  go_wp2
  refine bodyPost_ret (v := .tuple #[valB (some ⟨g, 0, none⟩) o.length, .nilIface, .nilIface]) (by simp [results, Tryz.results10, go_sem, c0, c1, c2, c3, valB]) rfl ⟨⟨g, rfl, ?_⟩, hb5⟩
  exact HBY2.out.same (HO5.out.1 g (by omega)) (by rw [HO5.out.2]; exact Nat.le_refl _)

def outB (o : List UInt8) : Value := .agg #[.int .i64 12, .bool false, .int .i64 0, .int .u64 0, .int .u64 0, .string ⟨o.toArray⟩, .string ⟨#[]⟩]

set_option maxHeartbeats 4000000 in
set_option maxRecDepth 100000 in
theorem unmB (l o : List UInt8) (hcu : Cu l o) (hl : l.length ≤ 140737488350000) (hol : o.length ≤ 140737488350000) (s : ByteArray) (hs : s.data.toList = l) (f : Int) (w : World) (he : pu.Errs w) :
    Calls Tryz.prog 5 #[.string s, .int .i64 12, .int .i64 f, .slice none 0 0, .slice none 0 0] w
      fun e w' => e = .returned (.tuple #[outB o, .bool true]) ∧ Below w.heap.size w w' := by
  have D := fun (x : Obj) => dunB l o hcu hl hol s hs f (w.alloc x) (he.below ((Below.refl _ _).alloc (Nat.le_refl _) _))
  have HD := Lib.hid D
  clear D hcu hs he
  go_enter Tryz.func5, Tryz.ntmps5
  go_wp2_with (first | (go_at_call 11; refine (enum_nil _).mono ?_; rintro e w' ⟨rfl, rfl⟩))
  refine (HD.out _).mono ?_
  rintro e w2 ⟨⟨g, rfl, hby⟩, hb2⟩
  obtain ⟨HG, HZ, HB⟩ := after_box hb2
  have HP := Lib.hid (fun (x : Obj) => plainB g o (w2.alloc x) (hby.alloc x))
  clear hb2 hby
  unfold valB at HP ⊢
  go_wp2_with fail
  refine (HP.out _).mono ?_
  rintro e w3 ⟨rfl, hb3⟩
  obtain ⟨HG3, HZ3, HB3⟩ := after_box hb3
  clear hb3
  have HGx : w3.heap[w.heap.size]? = some (.cells #[.int .i64 0, .bool false, .int .i64 0, .int .u64 0, .int .u64 0, .string ⟨#[]⟩, .string ⟨#[]⟩] 24 (0, 0)) := (HB3.block _ HZ).trans HG
  have HZx : w.heap.size < w3.heap.size := by omega
  have HBx : Below w.heap.size w w3 := HB.trans (HB3.mono (Nat.le_of_lt HZ))
  clear HG HB HG3 HB3 HZ3
  go_wp2_with (first | ((with_reducible refine store_blk ?_ 24 (.tmp 10) (.tmp 40) ?_ w.heap.size #[.int .i64 12, .bool false, .int .i64 0, .int .u64 0, .int .u64 0, .string ⟨o.toArray⟩, .string ⟨#[]⟩] ?_ ?_ 24 #[.int .i64 0, .bool false, .int .i64 0, .int .u64 0, .int .u64 0, .string ⟨#[]⟩, .string ⟨#[]⟩] (alloc_old HGx) 7 infoV ?_ ?_ ?_ w w.heap.size (Nat.le_refl _) (HBx.alloc (Nat.le_of_lt HZx) _) ?_); rfl; rfl; rfl; rfl; rfl; rfl; rfl; (intro w5 hg5 hcs ho5 hs5 hb5); have c0 := hcs 0 _ rfl; have c1 := hcs 1 _ rfl; have c2 := hcs 2 _ rfl; have c3 := hcs 3 _ rfl; have c4 := hcs 4 _ rfl; have c5 := hcs 5 _ rfl; have c6 := hcs 6 _ rfl; clear hcs ho5; refine Hid.out ?_))
  refine Lib.hid ?_
  go_wp2
  refine bodyPost_ret (v := .tuple #[outB o, .bool true]) (by simp [results, Tryz.results5, go_sem, c0, c1, c2, c3, c4, c5, c6, outB]) rfl ⟨rfl, hb5⟩

def DefSays (l : List UInt8) (e : Ending) : Prop := ∃ (t : ByteArray) (told : Int), e = .returned (.tuple #[.string t, .int .i64 told]) ∧ (told = 1 → ∃ g, Cu l g ∧ g.length ≤ l.length ∧ t = ⟨g.toArray⟩)

set_option maxHeartbeats 4000000 in
set_option maxRecDepth 100000 in
theorem def_bytes (t : ByteArray) (hmax : t.size ≤ 140737488355328 / 2) (w : World) :
    Calls Tryz.prog 9 #[.string t] w fun e w' => DefSays t.data.toList e ∧ Below w.heap.size w w' := by
  have HC := Lib.hid (cunescape t hmax w)
  have NV := fun (W : World) => run_convert_bytes_string (P := Tryz.prog) W 38 9 5 none 0 0 Tryz.underlying38 Tryz.underlying5 Tryz.underlying9
  go_enter Tryz.func9, Tryz.ntmps9
  go_wp2_with fail
  refine HC.out.mono ?_
  rintro e w1 ⟨⟨v, told, rfl, h1, h2⟩, hb⟩
  by_cases ht : told = 1
  · obtain ⟨g, hg, hgl, hown⟩ := h1 ht
    have cv := out_string (B := w.heap.size) (v := v) (g := g) (w := w1) (.inr hown)
    have HX := Lib.hid (And.intro hg hgl)
    have HB := Lib.hid hb
    clear hg hgl hown hb h1 h2
    go_wp2_with fail
    go_ret2
    exact ⟨⟨_, _, rfl, fun _ => ⟨g, HX.out.1, HX.out.2, rfl⟩⟩, HB.out⟩
  · obtain rfl := h2 ht
    have HT := Lib.hid ht
    have HB := Lib.hid hb
    clear hb h1 h2 ht
    have cv : (convert 38 9 (.slice none 0 0)).run Tryz.prog w1 = .ok (.string ⟨#[]⟩) w1 := by
      rw [NV]; rfl
    clear NV
    go_wp2_with fail
    go_ret2
    exact ⟨⟨_, _, rfl, fun h => absurd h HT.out⟩, HB.out⟩

end Go.Proofs.YtdcgoaikfbbneaaGreatDoor.une
