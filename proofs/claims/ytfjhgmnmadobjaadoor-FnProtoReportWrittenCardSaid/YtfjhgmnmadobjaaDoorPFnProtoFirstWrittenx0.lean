-- PRINTED BY print.sh 35421559b90ae4d0a3588c463048766b98c2df88dd9212a6774a882060cdf62d: not written by this session
import Derived.Test.YtfjhgmnmadobjaaDoorProg
import Derived.Below
import Derived.Deep.Draws
import Derived.Deep.AppendLies
import Derived.Maps.AppendAt
import Derived.OwnWalk
import Derived.Laws.BytesArg
import Derived.Laws.MakeOwn
import Derived.Laws.OwnMore
import Derived.Deep.OwnRows
import Derived.Tactics
import Derived.Lib.ConvBytes
import Derived.Laws.Slices
import Derived.WalkKit
import Derived.KernelRfl
import Derived.RowKit3
import Derived.Deep.LoopGhost
import Derived.Deep.QuietTactic
import Derived.BigQuiet
import Derived.WideLaws
import Derived.Deep.DeepCutAuto
import Derived.Deep.CutBlock
import Derived.Deep.RegionHeld3
import Derived.Laws.Rows
import Derived.Lib.AppendStr
import Derived.ArgAppend
import Derived.Laws.IdiomCopy
import Derived.OrdersHeld
import Derived.Laws.BitsLemmas
import Derived.RowKit
import Derived.Test.YtfjhgmnmadobjaaDoorWWords
import Derived.Test.YtfjhgmnmadobjaaDoorWLast
import Derived.Test.YtfjhgmnmadobjaaDoorWTab
import Derived.Test.YtfjhgmnmadobjaaDoorWFour
import Derived.Test.YtfjhgmnmadobjaaDoorWQPut
import Derived.Test.YtfjhgmnmadobjaaDoorWApart
import Derived.Test.YtfjhgmnmadobjaaDoorWArr
import Derived.Test.YtfjhgmnmadobjaaDoorWZeros
import Derived.Test.YtfjhgmnmadobjaaDoorWFoot
import Derived.Test.YtfjhgmnmadobjaaDoorWKept
import Derived.Test.YtfjhgmnmadobjaaDoorWShare
import Derived.Test.YtfjhgmnmadobjaaDoorWN
import Derived.Test.YtfjhgmnmadobjaaDoorWFootNe
import Derived.Test.YtfjhgmnmadobjaaDoorWAt
import Derived.Test.YtfjhgmnmadobjaaDoorWEqStruct
import Derived.Test.YtfjhgmnmadobjaaDoorWRepsOne
import Derived.Test.YtfjhgmnmadobjaaDoorWInv
import Derived.Test.YtfjhgmnmadobjaaDoorWInvWords
import Derived.Test.YtfjhgmnmadobjaaDoorWGuard
import Derived.Test.YtfjhgmnmadobjaaDoorWNEv
import Derived.Test.YtfjhgmnmadobjaaDoorWMore
namespace Go.Proofs.YtfjhgmnmadobjaaDoor.PFnProtoFirstWritten
open Go.RowKit Go.Proofs.YtfjhgmnmadobjaaDoorW.PrintWords Go.Proofs.YtfjhgmnmadobjaaDoorW.PrintLast Go.Proofs.YtfjhgmnmadobjaaDoorW.PrintMore
attribute [local go_sem] max2_int min2_int max_two min_two max_three min_three max_four min_four   -- for this text's walks alone
set_option linter.unusedVariables false
set_option linter.unusedSimpArgs false



def errW : Option Int → Value
  | none => .nilIface
  | some c => .iface 0 (.int .i64 c)
theorem errW_none : errW none = .nilIface := rfl
theorem errW_some (c : Int) : errW (some c) = .iface 0 (.int .i64 c) := rfl

theorem info5 : (Tryd.prog.info? 5).map (fun i => (i.zero, i.size, i.bytes)) = some (some (.int .u8 0), 1, 1) := by kernel_rfl
-- the values' own types
/-! #### struct type 121 -/
structure S121 where
  f0 : Int
  f1 : Int
  f2 : Int
def z121 : S121 := ⟨(0 : Int), (0 : Int), (0 : Int)⟩
def k121 : Kd S121 := Kd.iso (Kd.pair (Kd.int .u16) (Kd.pair (Kd.int .u16) (Kd.int .u16))) (fun x : S121 => (x.f0, x.f1, x.f2))
theorem k121_open {w : World} {x : S121} {cs : List Value} (h : k121.K w x cs) : cs = [.int .u16 x.f0, .int .u16 x.f1, .int .u16 x.f2] := by
  obtain ⟨_, _, rfl, rfl, ⟨_, _, rfl, rfl, rfl⟩⟩ := h
  exact rfl
theorem k121_openM {w : World} {base : Nat} {ok : Nat → Prop} {x : S121} {cs : List Value} (h : k121.M w base ok x cs) : cs = [.int .u16 x.f0, .int .u16 x.f1, .int .u16 x.f2] := by
  obtain ⟨_, _, rfl, rfl, ⟨_, _, rfl, rfl, rfl⟩⟩ := h
  exact rfl
theorem k121_mk (w : World) (x : S121)  : k121.K w x [.int .u16 x.f0, .int .u16 x.f1, .int .u16 x.f2] := ⟨[.int .u16 x.f0], [.int .u16 x.f1, .int .u16 x.f2], rfl, rfl, ⟨[.int .u16 x.f1], [.int .u16 x.f2], rfl, rfl, rfl⟩⟩
theorem k121_mkM (w : World) (base : Nat) (ok : Nat → Prop) (x : S121)  : k121.M w base ok x [.int .u16 x.f0, .int .u16 x.f1, .int .u16 x.f2] := ⟨[.int .u16 x.f0], [.int .u16 x.f1, .int .u16 x.f2], rfl, rfl, ⟨[.int .u16 x.f1], [.int .u16 x.f2], rfl, rfl, rfl⟩⟩
def rd_T121 (xs : List S121) (i : Int) : S121 := xs.getD i.toNat z121
theorem at_T121 {w : World} {A : Option Addr} {n : Nat} {xs : List S121} (h : Kd.C k121 w A n xs) (i : Int) (h0 : 0 ≤ i) (h1 : i < n) : ∃ ad , A = some ad ∧ w.cell? (ad.add (i.toNat * 3)) = some (.int .u16 (rd_T121 xs i).f0) ∧ w.cell? ⟨(ad.add (i.toNat * 3)).block, (ad.add (i.toNat * 3)).off + 1, none⟩ = some (.int .u16 (rd_T121 xs i).f1) ∧ w.cell? ⟨(ad.add (i.toNat * 3)).block, (ad.add (i.toNat * 3)).off + 2, none⟩ = some (.int .u16 (rd_T121 xs i).f2) := by
  obtain ⟨ad, c, e, _, hK, hc0⟩ := Kd.C_get h z121 i h0 h1
  have hc : ∀ j u, c[j]? = some u → w.cell? (ad.add (i.toNat * 3 + j)) = some u := hc0
  obtain rfl := k121_open hK
  exact ⟨ad, e, hc 0 _ rfl, by rw [← add_field _ _ 1 (by omega)]; exact hc 1 _ rfl, by rw [← add_field _ _ 2 (by omega)]; exact hc 2 _ rfl⟩

/-! #### struct type 124 -/
structure S124 where
  f0 : Int
  f1 : Int
  f2 : Int
def z124 : S124 := ⟨(0 : Int), (0 : Int), (0 : Int)⟩
def k124 : Kd S124 := Kd.iso (Kd.pair (Kd.int .u32) (Kd.pair (Kd.int .u32) (Kd.int .u32))) (fun x : S124 => (x.f0, x.f1, x.f2))
theorem k124_open {w : World} {x : S124} {cs : List Value} (h : k124.K w x cs) : cs = [.int .u32 x.f0, .int .u32 x.f1, .int .u32 x.f2] := by
  obtain ⟨_, _, rfl, rfl, ⟨_, _, rfl, rfl, rfl⟩⟩ := h
  exact rfl
theorem k124_openM {w : World} {base : Nat} {ok : Nat → Prop} {x : S124} {cs : List Value} (h : k124.M w base ok x cs) : cs = [.int .u32 x.f0, .int .u32 x.f1, .int .u32 x.f2] := by
  obtain ⟨_, _, rfl, rfl, ⟨_, _, rfl, rfl, rfl⟩⟩ := h
  exact rfl
theorem k124_mk (w : World) (x : S124)  : k124.K w x [.int .u32 x.f0, .int .u32 x.f1, .int .u32 x.f2] := ⟨[.int .u32 x.f0], [.int .u32 x.f1, .int .u32 x.f2], rfl, rfl, ⟨[.int .u32 x.f1], [.int .u32 x.f2], rfl, rfl, rfl⟩⟩
theorem k124_mkM (w : World) (base : Nat) (ok : Nat → Prop) (x : S124)  : k124.M w base ok x [.int .u32 x.f0, .int .u32 x.f1, .int .u32 x.f2] := ⟨[.int .u32 x.f0], [.int .u32 x.f1, .int .u32 x.f2], rfl, rfl, ⟨[.int .u32 x.f1], [.int .u32 x.f2], rfl, rfl, rfl⟩⟩
def rd_T124 (xs : List S124) (i : Int) : S124 := xs.getD i.toNat z124
theorem at_T124 {w : World} {A : Option Addr} {n : Nat} {xs : List S124} (h : Kd.C k124 w A n xs) (i : Int) (h0 : 0 ≤ i) (h1 : i < n) : ∃ ad , A = some ad ∧ w.cell? (ad.add (i.toNat * 3)) = some (.int .u32 (rd_T124 xs i).f0) ∧ w.cell? ⟨(ad.add (i.toNat * 3)).block, (ad.add (i.toNat * 3)).off + 1, none⟩ = some (.int .u32 (rd_T124 xs i).f1) ∧ w.cell? ⟨(ad.add (i.toNat * 3)).block, (ad.add (i.toNat * 3)).off + 2, none⟩ = some (.int .u32 (rd_T124 xs i).f2) := by
  obtain ⟨ad, c, e, _, hK, hc0⟩ := Kd.C_get h z124 i h0 h1
  have hc : ∀ j u, c[j]? = some u → w.cell? (ad.add (i.toNat * 3 + j)) = some u := hc0
  obtain rfl := k124_open hK
  exact ⟨ad, e, hc 0 _ rfl, by rw [← add_field _ _ 1 (by omega)]; exact hc 1 _ rfl, by rw [← add_field _ _ 2 (by omega)]; exact hc 2 _ rfl⟩

end Go.Proofs.YtfjhgmnmadobjaaDoor.PFnProtoFirstWritten
