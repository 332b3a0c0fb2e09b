-- PRINTED BY print.sh 35421559b90ae4d0a3588c463048766b98c2df88dd9212a6774a882060cdf62d: not written by this session
import Derived.Test.YtonfdfikgnhheaaGreatDoorProg
import Derived.Below
import Derived.Deep.Draws
import Derived.Deep.AppendLies
import Derived.Maps.AppendAt
import Derived.OwnWalk
import Derived.Laws.BytesArg
import Derived.Laws.MakeOwn
import Derived.Laws.OwnMore
import Derived.Deep.OwnRows
import Derived.Tactics
import Derived.Lib.ConvBytes
import Derived.Laws.Slices
import Derived.WalkKit
import Derived.KernelRfl
import Derived.RowKit3
import Derived.Deep.LoopGhost
import Derived.Deep.QuietTactic
import Derived.BigQuiet
import Derived.WideLaws
import Derived.Deep.DeepCutAuto
import Derived.Deep.CutBlock
import Derived.Deep.RegionHeld3
import Derived.Laws.Rows
import Derived.Lib.AppendStr
import Derived.ArgAppend
import Derived.Laws.IdiomCopy
import Derived.OrdersHeld
import Derived.Laws.BitsLemmas
import Derived.RowKit
import Derived.Test.YtonfdfikgnhheaaGreatDoorWWords
import Derived.Test.YtonfdfikgnhheaaGreatDoorWLast
import Derived.Test.YtonfdfikgnhheaaGreatDoorWTab
import Derived.Test.YtonfdfikgnhheaaGreatDoorWFour
import Derived.Test.YtonfdfikgnhheaaGreatDoorWQPut
import Derived.Test.YtonfdfikgnhheaaGreatDoorWApart
import Derived.Test.YtonfdfikgnhheaaGreatDoorWArr
import Derived.Test.YtonfdfikgnhheaaGreatDoorWZeros
import Derived.Test.YtonfdfikgnhheaaGreatDoorWFoot
import Derived.Test.YtonfdfikgnhheaaGreatDoorWKept
import Derived.Test.YtonfdfikgnhheaaGreatDoorWShare
import Derived.Test.YtonfdfikgnhheaaGreatDoorWN
import Derived.Test.YtonfdfikgnhheaaGreatDoorWFootNe
import Derived.Test.YtonfdfikgnhheaaGreatDoorWAt
import Derived.Test.YtonfdfikgnhheaaGreatDoorWEqStruct
import Derived.Test.YtonfdfikgnhheaaGreatDoorWRepsOne
import Derived.Test.YtonfdfikgnhheaaGreatDoorWInv
import Derived.Test.YtonfdfikgnhheaaGreatDoorWInvWords
import Derived.Test.YtonfdfikgnhheaaGreatDoorWGuard
import Derived.Test.YtonfdfikgnhheaaGreatDoorWNEv
import Derived.Test.YtonfdfikgnhheaaGreatDoorWMore
namespace Go.Proofs.YtonfdfikgnhheaaGreatDoor.PFnDefEnums
open Go.RowKit Go.Proofs.YtonfdfikgnhheaaGreatDoorW.PrintWords Go.Proofs.YtonfdfikgnhheaaGreatDoorW.PrintLast Go.Proofs.YtonfdfikgnhheaaGreatDoorW.PrintMore
attribute [local go_sem] max2_int min2_int max_two min_two max_three min_three max_four min_four   -- for this text's walks alone
set_option linter.unusedVariables false
set_option linter.unusedSimpArgs false



def errW : Option Int → Value
  | none => .nilIface
  | some c => .iface 211 (.int .i64 c)
theorem errW_none : errW none = .nilIface := rfl
theorem errW_some (c : Int) : errW (some c) = .iface 211 (.int .i64 c) := rfl

theorem info5 : (Tryz.prog.info? 5).map (fun i => (i.zero, i.size, i.bytes)) = some (some (.int .u8 0), 1, 1) := by kernel_rfl
theorem info104 : (Tryz.prog.info? 104).map (fun i => (i.zero, i.size, i.bytes)) = some (some (.agg #[(.string ⟨#[]⟩), (.int .i32 0)]), 2, 24) := by kernel_rfl
-- the values' own types
/-! #### struct type 104 -/
structure S104 where
  f0 : ByteArray
  f1 : Int
def z104 : S104 := ⟨(⟨#[]⟩ : ByteArray), (0 : Int)⟩
def k104 : Kd S104 := Kd.iso (Kd.pair Kd.string (Kd.int .i32)) (fun x : S104 => (x.f0, x.f1))
theorem k104_open {w : World} {x : S104} {cs : List Value} (h : k104.K w x cs) : cs = [.string x.f0, .int .i32 x.f1] := by
  obtain ⟨_, _, rfl, rfl, rfl⟩ := h
  exact rfl
theorem k104_openM {w : World} {base : Nat} {ok : Nat → Prop} {x : S104} {cs : List Value} (h : k104.M w base ok x cs) : cs = [.string x.f0, .int .i32 x.f1] := by
  obtain ⟨_, _, rfl, rfl, rfl⟩ := h
  exact rfl
theorem k104_mk (w : World) (x : S104)  : k104.K w x [.string x.f0, .int .i32 x.f1] := ⟨[.string x.f0], [.int .i32 x.f1], rfl, rfl, rfl⟩
theorem k104_mkM (w : World) (base : Nat) (ok : Nat → Prop) (x : S104)  : k104.M w base ok x [.string x.f0, .int .i32 x.f1] := ⟨[.string x.f0], [.int .i32 x.f1], rfl, rfl, rfl⟩
theorem k104_mkF (W : World) (ok : Nat → Prop) (x : S104) : Kd.FK k104 W ok x [.string x.f0, .int .i32 x.f1] := fun W2 _ => k104_mk W2 x
def rd_T104 (xs : List S104) (i : Int) : S104 := xs.getD i.toNat z104
theorem at_T104 {w : World} {A : Option Addr} {n : Nat} {xs : List S104} (h : Kd.C k104 w A n xs) (i : Int) (h0 : 0 ≤ i) (h1 : i < n) : ∃ ad , A = some ad ∧ w.cell? (ad.add (i.toNat * 2)) = some (.string (rd_T104 xs i).f0) ∧ w.cell? ⟨(ad.add (i.toNat * 2)).block, (ad.add (i.toNat * 2)).off + 1, none⟩ = some (.int .i32 (rd_T104 xs i).f1) := by
  obtain ⟨ad, c, e, _, hK, hc0⟩ := Kd.C_get h z104 i h0 h1
  have hc : ∀ j u, c[j]? = some u → w.cell? (ad.add (i.toNat * 2 + j)) = some u := hc0
  obtain rfl := k104_open hK
  exact ⟨ad, e, hc 0 _ rfl, by rw [← add_field _ _ 1 (by omega)]; exact hc 1 _ rfl⟩

end Go.Proofs.YtonfdfikgnhheaaGreatDoor.PFnDefEnums
