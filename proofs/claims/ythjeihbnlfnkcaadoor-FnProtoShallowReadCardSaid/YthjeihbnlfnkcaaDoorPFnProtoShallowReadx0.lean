-- PRINTED BY print.sh 35421559b90ae4d0a3588c463048766b98c2df88dd9212a6774a882060cdf62d: not written by this session
import Derived.Test.YthjeihbnlfnkcaaDoorProg
import Derived.Below
import Derived.Deep.Draws
import Derived.Deep.AppendLies
import Derived.Maps.AppendAt
import Derived.OwnWalk
import Derived.Laws.BytesArg
import Derived.Laws.MakeOwn
import Derived.Laws.OwnMore
import Derived.Deep.OwnRows
import Derived.Tactics
import Derived.Lib.ConvBytes
import Derived.Laws.Slices
import Derived.WalkKit
import Derived.KernelRfl
import Derived.RowKit3
import Derived.Deep.LoopGhost
import Derived.Deep.QuietTactic
import Derived.BigQuiet
import Derived.WideLaws
import Derived.Deep.DeepCutAuto
import Derived.Deep.CutBlock
import Derived.Deep.RegionHeld3
import Derived.Laws.Rows
import Derived.Lib.AppendStr
import Derived.ArgAppend
import Derived.Laws.IdiomCopy
import Derived.OrdersHeld
import Derived.Laws.BitsLemmas
import Derived.RowKit
import Derived.Test.YthjeihbnlfnkcaaDoorWWords
import Derived.Test.YthjeihbnlfnkcaaDoorWLast
import Derived.Test.YthjeihbnlfnkcaaDoorWTab
import Derived.Test.YthjeihbnlfnkcaaDoorWFour
import Derived.Test.YthjeihbnlfnkcaaDoorWQPut
import Derived.Test.YthjeihbnlfnkcaaDoorWApart
import Derived.Test.YthjeihbnlfnkcaaDoorWArr
import Derived.Test.YthjeihbnlfnkcaaDoorWZeros
import Derived.Test.YthjeihbnlfnkcaaDoorWFoot
import Derived.Test.YthjeihbnlfnkcaaDoorWKept
import Derived.Test.YthjeihbnlfnkcaaDoorWShare
import Derived.Test.YthjeihbnlfnkcaaDoorWN
import Derived.Test.YthjeihbnlfnkcaaDoorWFootNe
import Derived.Test.YthjeihbnlfnkcaaDoorWAt
import Derived.Test.YthjeihbnlfnkcaaDoorWEqStruct
import Derived.Test.YthjeihbnlfnkcaaDoorWRepsOne
import Derived.Test.YthjeihbnlfnkcaaDoorWInv
import Derived.Test.YthjeihbnlfnkcaaDoorWInvWords
import Derived.Test.YthjeihbnlfnkcaaDoorWGuard
import Derived.Test.YthjeihbnlfnkcaaDoorWNEv
import Derived.Test.YthjeihbnlfnkcaaDoorWMore
namespace Go.Proofs.YthjeihbnlfnkcaaDoor.PFnProtoShallowRead
open Go.RowKit Go.Proofs.YthjeihbnlfnkcaaDoorW.PrintWords Go.Proofs.YthjeihbnlfnkcaaDoorW.PrintLast Go.Proofs.YthjeihbnlfnkcaaDoorW.PrintMore
attribute [local go_sem] max2_int min2_int max_two min_two max_three min_three max_four min_four   -- for this text's walks alone
set_option linter.unusedVariables false
set_option linter.unusedSimpArgs false



def errW : Option Int → Value
  | none => .nilIface
  | some c => .iface 0 (.int .i64 c)
theorem errW_none : errW none = .nilIface := rfl
theorem errW_some (c : Int) : errW (some c) = .iface 0 (.int .i64 c) := rfl

theorem info5 : (Tryd.prog.info? 5).map (fun i => (i.zero, i.size, i.bytes)) = some (some (.int .u8 0), 1, 1) := by kernel_rfl
-- the values' own types
/-! #### struct type 144 -/
structure S144 where
  f0 : Int
  f1 : Int
  f2 : Int
def z144 : S144 := ⟨(0 : Int), (0 : Int), (0 : Int)⟩
def k144 : Kd S144 := Kd.iso (Kd.pair (Kd.int .u16) (Kd.pair (Kd.int .u16) (Kd.int .u16))) (fun x : S144 => (x.f0, x.f1, x.f2))
theorem k144_heap : Kd.Heap k144 := Kd.heap_iso _ (Kd.heap_pair (Kd.heap_int .u16) (Kd.heap_pair (Kd.heap_int .u16) (Kd.heap_int .u16)))
theorem k144_open {w : World} {x : S144} {cs : List Value} (h : k144.K w x cs) : cs = [.int .u16 x.f0, .int .u16 x.f1, .int .u16 x.f2] := by
  obtain ⟨_, _, rfl, rfl, ⟨_, _, rfl, rfl, rfl⟩⟩ := h
  exact rfl
theorem k144_openM {w : World} {base : Nat} {ok : Nat → Prop} {x : S144} {cs : List Value} (h : k144.M w base ok x cs) : cs = [.int .u16 x.f0, .int .u16 x.f1, .int .u16 x.f2] := by
  obtain ⟨_, _, rfl, rfl, ⟨_, _, rfl, rfl, rfl⟩⟩ := h
  exact rfl
theorem k144_mk (w : World) (x : S144)  : k144.K w x [.int .u16 x.f0, .int .u16 x.f1, .int .u16 x.f2] := ⟨[.int .u16 x.f0], [.int .u16 x.f1, .int .u16 x.f2], rfl, rfl, ⟨[.int .u16 x.f1], [.int .u16 x.f2], rfl, rfl, rfl⟩⟩
theorem k144_mkM (w : World) (base : Nat) (ok : Nat → Prop) (x : S144)  : k144.M w base ok x [.int .u16 x.f0, .int .u16 x.f1, .int .u16 x.f2] := ⟨[.int .u16 x.f0], [.int .u16 x.f1, .int .u16 x.f2], rfl, rfl, ⟨[.int .u16 x.f1], [.int .u16 x.f2], rfl, rfl, rfl⟩⟩
theorem k144_mkF (W : World) (ok : Nat → Prop) (x : S144) : Kd.FK k144 W ok x [.int .u16 x.f0, .int .u16 x.f1, .int .u16 x.f2] := fun W2 _ => k144_mk W2 x
def rd_T144 (xs : List S144) (i : Int) : S144 := xs.getD i.toNat z144
theorem at_T144 {w : World} {A : Option Addr} {n : Nat} {xs : List S144} (h : Kd.C k144 w A n xs) (i : Int) (h0 : 0 ≤ i) (h1 : i < n) : ∃ ad , A = some ad ∧ w.cell? (ad.add (i.toNat * 3)) = some (.int .u16 (rd_T144 xs i).f0) ∧ w.cell? ⟨(ad.add (i.toNat * 3)).block, (ad.add (i.toNat * 3)).off + 1, none⟩ = some (.int .u16 (rd_T144 xs i).f1) ∧ w.cell? ⟨(ad.add (i.toNat * 3)).block, (ad.add (i.toNat * 3)).off + 2, none⟩ = some (.int .u16 (rd_T144 xs i).f2) := by
  obtain ⟨ad, c, e, _, hK, hc0⟩ := Kd.C_get h z144 i h0 h1
  have hc : ∀ j u, c[j]? = some u → w.cell? (ad.add (i.toNat * 3 + j)) = some u := hc0
  obtain rfl := k144_open hK
  exact ⟨ad, e, hc 0 _ rfl, by rw [← add_field _ _ 1 (by omega)]; exact hc 1 _ rfl, by rw [← add_field _ _ 2 (by omega)]; exact hc 2 _ rfl⟩

/-! #### struct type 147 -/
structure S147 where
  f0 : Int
  f1 : Int
  f2 : Int
def z147 : S147 := ⟨(0 : Int), (0 : Int), (0 : Int)⟩
def k147 : Kd S147 := Kd.iso (Kd.pair (Kd.int .u32) (Kd.pair (Kd.int .u32) (Kd.int .u32))) (fun x : S147 => (x.f0, x.f1, x.f2))
theorem k147_heap : Kd.Heap k147 := Kd.heap_iso _ (Kd.heap_pair (Kd.heap_int .u32) (Kd.heap_pair (Kd.heap_int .u32) (Kd.heap_int .u32)))
theorem k147_open {w : World} {x : S147} {cs : List Value} (h : k147.K w x cs) : cs = [.int .u32 x.f0, .int .u32 x.f1, .int .u32 x.f2] := by
  obtain ⟨_, _, rfl, rfl, ⟨_, _, rfl, rfl, rfl⟩⟩ := h
  exact rfl
theorem k147_openM {w : World} {base : Nat} {ok : Nat → Prop} {x : S147} {cs : List Value} (h : k147.M w base ok x cs) : cs = [.int .u32 x.f0, .int .u32 x.f1, .int .u32 x.f2] := by
  obtain ⟨_, _, rfl, rfl, ⟨_, _, rfl, rfl, rfl⟩⟩ := h
  exact rfl
theorem k147_mk (w : World) (x : S147)  : k147.K w x [.int .u32 x.f0, .int .u32 x.f1, .int .u32 x.f2] := ⟨[.int .u32 x.f0], [.int .u32 x.f1, .int .u32 x.f2], rfl, rfl, ⟨[.int .u32 x.f1], [.int .u32 x.f2], rfl, rfl, rfl⟩⟩
theorem k147_mkM (w : World) (base : Nat) (ok : Nat → Prop) (x : S147)  : k147.M w base ok x [.int .u32 x.f0, .int .u32 x.f1, .int .u32 x.f2] := ⟨[.int .u32 x.f0], [.int .u32 x.f1, .int .u32 x.f2], rfl, rfl, ⟨[.int .u32 x.f1], [.int .u32 x.f2], rfl, rfl, rfl⟩⟩
theorem k147_mkF (W : World) (ok : Nat → Prop) (x : S147) : Kd.FK k147 W ok x [.int .u32 x.f0, .int .u32 x.f1, .int .u32 x.f2] := fun W2 _ => k147_mk W2 x
def rd_T147 (xs : List S147) (i : Int) : S147 := xs.getD i.toNat z147
theorem at_T147 {w : World} {A : Option Addr} {n : Nat} {xs : List S147} (h : Kd.C k147 w A n xs) (i : Int) (h0 : 0 ≤ i) (h1 : i < n) : ∃ ad , A = some ad ∧ w.cell? (ad.add (i.toNat * 3)) = some (.int .u32 (rd_T147 xs i).f0) ∧ w.cell? ⟨(ad.add (i.toNat * 3)).block, (ad.add (i.toNat * 3)).off + 1, none⟩ = some (.int .u32 (rd_T147 xs i).f1) ∧ w.cell? ⟨(ad.add (i.toNat * 3)).block, (ad.add (i.toNat * 3)).off + 2, none⟩ = some (.int .u32 (rd_T147 xs i).f2) := by
  obtain ⟨ad, c, e, _, hK, hc0⟩ := Kd.C_get h z147 i h0 h1
  have hc : ∀ j u, c[j]? = some u → w.cell? (ad.add (i.toNat * 3 + j)) = some u := hc0
  obtain rfl := k147_open hK
  exact ⟨ad, e, hc 0 _ rfl, by rw [← add_field _ _ 1 (by omega)]; exact hc 1 _ rfl, by rw [← add_field _ _ 2 (by omega)]; exact hc 2 _ rfl⟩

end Go.Proofs.YthjeihbnlfnkcaaDoor.PFnProtoShallowRead
