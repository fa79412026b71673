-- PRINTED BY print.sh 35421559b90ae4d0a3588c463048766b98c2df88dd9212a6774a882060cdf62d: not written by this session
import Derived.Test.YtdobblddnfalcaaGreatDoorProg
import Derived.Below
import Derived.Deep.Draws
import Derived.Deep.AppendLies
import Derived.Maps.AppendAt
import Derived.OwnWalk
import Derived.Laws.BytesArg
import Derived.Laws.MakeOwn
import Derived.Laws.OwnMore
import Derived.Deep.OwnRows
import Derived.Tactics
import Derived.Lib.ConvBytes
import Derived.Laws.Slices
import Derived.WalkKit
import Derived.KernelRfl
import Derived.RowKit3
import Derived.Deep.LoopGhost
import Derived.Deep.QuietTactic
import Derived.BigQuiet
import Derived.WideLaws
import Derived.Deep.DeepCutAuto
import Derived.Deep.CutBlock
import Derived.Deep.RegionHeld3
import Derived.Laws.Rows
import Derived.Lib.AppendStr
import Derived.ArgAppend
import Derived.Laws.IdiomCopy
import Derived.OrdersHeld
import Derived.Laws.BitsLemmas
import Derived.RowKit
import Derived.Test.YtdobblddnfalcaaGreatDoorWWords
import Derived.Test.YtdobblddnfalcaaGreatDoorWLast
import Derived.Test.YtdobblddnfalcaaGreatDoorWTab
import Derived.Test.YtdobblddnfalcaaGreatDoorWFour
import Derived.Test.YtdobblddnfalcaaGreatDoorWQPut
import Derived.Test.YtdobblddnfalcaaGreatDoorWApart
import Derived.Test.YtdobblddnfalcaaGreatDoorWArr
import Derived.Test.YtdobblddnfalcaaGreatDoorWZeros
import Derived.Test.YtdobblddnfalcaaGreatDoorWFoot
import Derived.Test.YtdobblddnfalcaaGreatDoorWKept
import Derived.Test.YtdobblddnfalcaaGreatDoorWShare
import Derived.Test.YtdobblddnfalcaaGreatDoorWN
import Derived.Test.YtdobblddnfalcaaGreatDoorWFootNe
import Derived.Test.YtdobblddnfalcaaGreatDoorWAt
import Derived.Test.YtdobblddnfalcaaGreatDoorWEqStruct
import Derived.Test.YtdobblddnfalcaaGreatDoorWRepsOne
import Derived.Test.YtdobblddnfalcaaGreatDoorWInv
import Derived.Test.YtdobblddnfalcaaGreatDoorWInvWords
import Derived.Test.YtdobblddnfalcaaGreatDoorWGuard
import Derived.Test.YtdobblddnfalcaaGreatDoorWNEv
import Derived.Test.YtdobblddnfalcaaGreatDoorWMore
namespace Go.Proofs.YtdobblddnfalcaaGreatDoor.PFnProtoHaves
open Go.RowKit Go.Proofs.YtdobblddnfalcaaGreatDoorW.PrintWords Go.Proofs.YtdobblddnfalcaaGreatDoorW.PrintLast Go.Proofs.YtdobblddnfalcaaGreatDoorW.PrintMore
attribute [local go_sem] max2_int min2_int max_two min_two max_three min_three max_four min_four   -- for this text's walks alone
set_option linter.unusedVariables false
set_option linter.unusedSimpArgs false



def errW : Option Int → Value
  | none => .nilIface
  | some c => .iface 0 (.int .i64 c)
theorem errW_none : errW none = .nilIface := rfl
theorem errW_some (c : Int) : errW (some c) = .iface 0 (.int .i64 c) := rfl

theorem info5 : (Tryz.prog.info? 5).map (fun i => (i.zero, i.size, i.bytes)) = some (some (.int .u8 0), 1, 1) := by kernel_rfl
-- the values' own types
/-! #### struct type 248 -/
structure S248 where
  f0 : Int
  f1 : Int
  f2 : Int
def z248 : S248 := ⟨(0 : Int), (0 : Int), (0 : Int)⟩
def k248 : Kd S248 := Kd.iso (Kd.pair (Kd.int .u16) (Kd.pair (Kd.int .u16) (Kd.int .u16))) (fun x : S248 => (x.f0, x.f1, x.f2))
theorem k248_heap : Kd.Heap k248 := Kd.heap_iso _ (Kd.heap_pair (Kd.heap_int .u16) (Kd.heap_pair (Kd.heap_int .u16) (Kd.heap_int .u16)))
theorem k248_open {w : World} {x : S248} {cs : List Value} (h : k248.K w x cs) : cs = [.int .u16 x.f0, .int .u16 x.f1, .int .u16 x.f2] := by
  obtain ⟨_, _, rfl, rfl, ⟨_, _, rfl, rfl, rfl⟩⟩ := h
  exact rfl
theorem k248_openM {w : World} {base : Nat} {ok : Nat → Prop} {x : S248} {cs : List Value} (h : k248.M w base ok x cs) : cs = [.int .u16 x.f0, .int .u16 x.f1, .int .u16 x.f2] := by
  obtain ⟨_, _, rfl, rfl, ⟨_, _, rfl, rfl, rfl⟩⟩ := h
  exact rfl
theorem k248_mk (w : World) (x : S248)  : k248.K w x [.int .u16 x.f0, .int .u16 x.f1, .int .u16 x.f2] := ⟨[.int .u16 x.f0], [.int .u16 x.f1, .int .u16 x.f2], rfl, rfl, ⟨[.int .u16 x.f1], [.int .u16 x.f2], rfl, rfl, rfl⟩⟩
theorem k248_mkM (w : World) (base : Nat) (ok : Nat → Prop) (x : S248)  : k248.M w base ok x [.int .u16 x.f0, .int .u16 x.f1, .int .u16 x.f2] := ⟨[.int .u16 x.f0], [.int .u16 x.f1, .int .u16 x.f2], rfl, rfl, ⟨[.int .u16 x.f1], [.int .u16 x.f2], rfl, rfl, rfl⟩⟩
def rd_T248 (xs : List S248) (i : Int) : S248 := xs.getD i.toNat z248
theorem at_T248 {w : World} {A : Option Addr} {n : Nat} {xs : List S248} (h : Kd.C k248 w A n xs) (i : Int) (h0 : 0 ≤ i) (h1 : i < n) : ∃ ad , A = some ad ∧ w.cell? (ad.add (i.toNat * 3)) = some (.int .u16 (rd_T248 xs i).f0) ∧ w.cell? ⟨(ad.add (i.toNat * 3)).block, (ad.add (i.toNat * 3)).off + 1, none⟩ = some (.int .u16 (rd_T248 xs i).f1) ∧ w.cell? ⟨(ad.add (i.toNat * 3)).block, (ad.add (i.toNat * 3)).off + 2, none⟩ = some (.int .u16 (rd_T248 xs i).f2) := by
  obtain ⟨ad, c, e, _, hK, hc0⟩ := Kd.C_get h z248 i h0 h1
  have hc : ∀ j u, c[j]? = some u → w.cell? (ad.add (i.toNat * 3 + j)) = some u := hc0
  obtain rfl := k248_open hK
  exact ⟨ad, e, hc 0 _ rfl, by rw [← add_field _ _ 1 (by omega)]; exact hc 1 _ rfl, by rw [← add_field _ _ 2 (by omega)]; exact hc 2 _ rfl⟩

/-! #### struct type 251 -/
structure S251 where
  f0 : Int
  f1 : Int
  f2 : Int
def z251 : S251 := ⟨(0 : Int), (0 : Int), (0 : Int)⟩
def k251 : Kd S251 := Kd.iso (Kd.pair (Kd.int .u32) (Kd.pair (Kd.int .u32) (Kd.int .u32))) (fun x : S251 => (x.f0, x.f1, x.f2))
theorem k251_heap : Kd.Heap k251 := Kd.heap_iso _ (Kd.heap_pair (Kd.heap_int .u32) (Kd.heap_pair (Kd.heap_int .u32) (Kd.heap_int .u32)))
theorem k251_open {w : World} {x : S251} {cs : List Value} (h : k251.K w x cs) : cs = [.int .u32 x.f0, .int .u32 x.f1, .int .u32 x.f2] := by
  obtain ⟨_, _, rfl, rfl, ⟨_, _, rfl, rfl, rfl⟩⟩ := h
  exact rfl
theorem k251_openM {w : World} {base : Nat} {ok : Nat → Prop} {x : S251} {cs : List Value} (h : k251.M w base ok x cs) : cs = [.int .u32 x.f0, .int .u32 x.f1, .int .u32 x.f2] := by
  obtain ⟨_, _, rfl, rfl, ⟨_, _, rfl, rfl, rfl⟩⟩ := h
  exact rfl
theorem k251_mk (w : World) (x : S251)  : k251.K w x [.int .u32 x.f0, .int .u32 x.f1, .int .u32 x.f2] := ⟨[.int .u32 x.f0], [.int .u32 x.f1, .int .u32 x.f2], rfl, rfl, ⟨[.int .u32 x.f1], [.int .u32 x.f2], rfl, rfl, rfl⟩⟩
theorem k251_mkM (w : World) (base : Nat) (ok : Nat → Prop) (x : S251)  : k251.M w base ok x [.int .u32 x.f0, .int .u32 x.f1, .int .u32 x.f2] := ⟨[.int .u32 x.f0], [.int .u32 x.f1, .int .u32 x.f2], rfl, rfl, ⟨[.int .u32 x.f1], [.int .u32 x.f2], rfl, rfl, rfl⟩⟩
def rd_T251 (xs : List S251) (i : Int) : S251 := xs.getD i.toNat z251
theorem at_T251 {w : World} {A : Option Addr} {n : Nat} {xs : List S251} (h : Kd.C k251 w A n xs) (i : Int) (h0 : 0 ≤ i) (h1 : i < n) : ∃ ad , A = some ad ∧ w.cell? (ad.add (i.toNat * 3)) = some (.int .u32 (rd_T251 xs i).f0) ∧ w.cell? ⟨(ad.add (i.toNat * 3)).block, (ad.add (i.toNat * 3)).off + 1, none⟩ = some (.int .u32 (rd_T251 xs i).f1) ∧ w.cell? ⟨(ad.add (i.toNat * 3)).block, (ad.add (i.toNat * 3)).off + 2, none⟩ = some (.int .u32 (rd_T251 xs i).f2) := by
  obtain ⟨ad, c, e, _, hK, hc0⟩ := Kd.C_get h z251 i h0 h1
  have hc : ∀ j u, c[j]? = some u → w.cell? (ad.add (i.toNat * 3 + j)) = some u := hc0
  obtain rfl := k251_open hK
  exact ⟨ad, e, hc 0 _ rfl, by rw [← add_field _ _ 1 (by omega)]; exact hc 1 _ rfl, by rw [← add_field _ _ 2 (by omega)]; exact hc 2 _ rfl⟩

end Go.Proofs.YtdobblddnfalcaaGreatDoor.PFnProtoHaves
