-- PRINTED BY print.sh 35421559b90ae4d0a3588c463048766b98c2df88dd9212a6774a882060cdf62d: not written by this session
import Derived.Test.YtdelomacpmpgoaaDoorProg
import Derived.Below
import Derived.Deep.Draws
import Derived.Deep.AppendLies
import Derived.Maps.AppendAt
import Derived.OwnWalk
import Derived.Laws.BytesArg
import Derived.Laws.MakeOwn
import Derived.Laws.OwnMore
import Derived.Deep.OwnRows
import Derived.Tactics
import Derived.Lib.ConvBytes
import Derived.Laws.Slices
import Derived.WalkKit
import Derived.KernelRfl
import Derived.RowKit3
import Derived.Deep.LoopGhost
import Derived.Deep.QuietTactic
import Derived.BigQuiet
import Derived.WideLaws
import Derived.Deep.DeepCutAuto
import Derived.Deep.CutBlock
import Derived.Deep.RegionHeld3
import Derived.Laws.Rows
import Derived.Lib.AppendStr
import Derived.ArgAppend
import Derived.Laws.IdiomCopy
import Derived.OrdersHeld
import Derived.Laws.BitsLemmas
import Derived.RowKit
import Derived.Test.YtdelomacpmpgoaaDoorWWords
import Derived.Test.YtdelomacpmpgoaaDoorWLast
import Derived.Test.YtdelomacpmpgoaaDoorWTab
import Derived.Test.YtdelomacpmpgoaaDoorWFour
import Derived.Test.YtdelomacpmpgoaaDoorWQPut
import Derived.Test.YtdelomacpmpgoaaDoorWApart
import Derived.Test.YtdelomacpmpgoaaDoorWArr
import Derived.Test.YtdelomacpmpgoaaDoorWZeros
import Derived.Test.YtdelomacpmpgoaaDoorWFoot
import Derived.Test.YtdelomacpmpgoaaDoorWKept
import Derived.Test.YtdelomacpmpgoaaDoorWShare
import Derived.Test.YtdelomacpmpgoaaDoorWN
import Derived.Test.YtdelomacpmpgoaaDoorWFootNe
import Derived.Test.YtdelomacpmpgoaaDoorWAt
import Derived.Test.YtdelomacpmpgoaaDoorWEqStruct
import Derived.Test.YtdelomacpmpgoaaDoorWRepsOne
import Derived.Test.YtdelomacpmpgoaaDoorWInv
import Derived.Test.YtdelomacpmpgoaaDoorWInvWords
import Derived.Test.YtdelomacpmpgoaaDoorWGuard
import Derived.Test.YtdelomacpmpgoaaDoorWNEv
import Derived.Test.YtdelomacpmpgoaaDoorWMore
namespace Go.Proofs.YtdelomacpmpgoaaDoor.PFnTreeUnsorted
open Go.RowKit Go.Proofs.YtdelomacpmpgoaaDoorW.PrintWords Go.Proofs.YtdelomacpmpgoaaDoorW.PrintLast Go.Proofs.YtdelomacpmpgoaaDoorW.PrintMore
attribute [local go_sem] max2_int min2_int max_two min_two max_three min_three max_four min_four   -- for this text's walks alone
set_option linter.unusedVariables false
set_option linter.unusedSimpArgs false



def errW : Option Int → Value
  | none => .nilIface
  | some c => .iface 0 (.int .i64 c)
theorem errW_none : errW none = .nilIface := rfl
theorem errW_some (c : Int) : errW (some c) = .iface 0 (.int .i64 c) := rfl

theorem info30 : (Tryd.prog.info? 30).map (fun i => (i.zero, i.size, i.bytes)) = some (some (.agg #[(.string ⟨#[]⟩), (.int .u32 0), (.string ⟨#[]⟩)]), 3, 40) := by kernel_rfl
-- the values' own types
/-! #### struct type 30 -/
structure S30 where
  f0 : ByteArray
  f1 : Int
  f2 : ByteArray
def z30 : S30 := ⟨(⟨#[]⟩ : ByteArray), (0 : Int), (⟨#[]⟩ : ByteArray)⟩
def k30 : Kd S30 := Kd.iso (Kd.pair Kd.string (Kd.pair (Kd.int .u32) Kd.string)) (fun x : S30 => (x.f0, x.f1, x.f2))
theorem k30_open {w : World} {x : S30} {cs : List Value} (h : k30.K w x cs) : cs = [.string x.f0, .int .u32 x.f1, .string x.f2] := by
  obtain ⟨_, _, rfl, rfl, ⟨_, _, rfl, rfl, rfl⟩⟩ := h
  exact rfl
theorem k30_openM {w : World} {base : Nat} {ok : Nat → Prop} {x : S30} {cs : List Value} (h : k30.M w base ok x cs) : cs = [.string x.f0, .int .u32 x.f1, .string x.f2] := by
  obtain ⟨_, _, rfl, rfl, ⟨_, _, rfl, rfl, rfl⟩⟩ := h
  exact rfl
theorem k30_mk (w : World) (x : S30)  : k30.K w x [.string x.f0, .int .u32 x.f1, .string x.f2] := ⟨[.string x.f0], [.int .u32 x.f1, .string x.f2], rfl, rfl, ⟨[.int .u32 x.f1], [.string x.f2], rfl, rfl, rfl⟩⟩
theorem k30_mkM (w : World) (base : Nat) (ok : Nat → Prop) (x : S30)  : k30.M w base ok x [.string x.f0, .int .u32 x.f1, .string x.f2] := ⟨[.string x.f0], [.int .u32 x.f1, .string x.f2], rfl, rfl, ⟨[.int .u32 x.f1], [.string x.f2], rfl, rfl, rfl⟩⟩
def rd_T30 (xs : List S30) (i : Int) : S30 := xs.getD i.toNat z30
theorem at_T30 {w : World} {A : Option Addr} {n : Nat} {xs : List S30} (h : Kd.C k30 w A n xs) (i : Int) (h0 : 0 ≤ i) (h1 : i < n) : ∃ ad , A = some ad ∧ w.cell? (ad.add (i.toNat * 3)) = some (.string (rd_T30 xs i).f0) ∧ w.cell? ⟨(ad.add (i.toNat * 3)).block, (ad.add (i.toNat * 3)).off + 1, none⟩ = some (.int .u32 (rd_T30 xs i).f1) ∧ w.cell? ⟨(ad.add (i.toNat * 3)).block, (ad.add (i.toNat * 3)).off + 2, none⟩ = some (.string (rd_T30 xs i).f2) := by
  obtain ⟨ad, c, e, _, hK, hc0⟩ := Kd.C_get h z30 i h0 h1
  have hc : ∀ j u, c[j]? = some u → w.cell? (ad.add (i.toNat * 3 + j)) = some u := hc0
  obtain rfl := k30_open hK
  exact ⟨ad, e, hc 0 _ rfl, by rw [← add_field _ _ 1 (by omega)]; exact hc 1 _ rfl, by rw [← add_field _ _ 2 (by omega)]; exact hc 2 _ rfl⟩

end Go.Proofs.YtdelomacpmpgoaaDoor.PFnTreeUnsorted
