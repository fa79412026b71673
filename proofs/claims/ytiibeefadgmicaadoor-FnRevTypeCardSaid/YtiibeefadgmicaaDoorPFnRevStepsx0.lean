-- PRINTED BY print.sh 35421559b90ae4d0a3588c463048766b98c2df88dd9212a6774a882060cdf62d: not written by this session
import Derived.Test.YtiibeefadgmicaaDoorProg
import Derived.Below
import Derived.Deep.Draws
import Derived.Deep.AppendLies
import Derived.Maps.AppendAt
import Derived.OwnWalk
import Derived.Laws.BytesArg
import Derived.Laws.MakeOwn
import Derived.Laws.OwnMore
import Derived.Deep.OwnRows
import Derived.Tactics
import Derived.Lib.ConvBytes
import Derived.Laws.Slices
import Derived.WalkKit
import Derived.KernelRfl
import Derived.RowKit3
import Derived.Deep.LoopGhost
import Derived.Deep.QuietTactic
import Derived.BigQuiet
import Derived.WideLaws
import Derived.Deep.DeepCutAuto
import Derived.Deep.CutBlock
import Derived.Deep.RegionHeld3
import Derived.Laws.Rows
import Derived.Lib.AppendStr
import Derived.ArgAppend
import Derived.Laws.IdiomCopy
import Derived.OrdersHeld
import Derived.Laws.BitsLemmas
import Derived.RowKit
import Derived.Test.YtiibeefadgmicaaDoorWWords
import Derived.Test.YtiibeefadgmicaaDoorWLast
import Derived.Test.YtiibeefadgmicaaDoorWTab
import Derived.Test.YtiibeefadgmicaaDoorWFour
import Derived.Test.YtiibeefadgmicaaDoorWQPut
import Derived.Test.YtiibeefadgmicaaDoorWApart
import Derived.Test.YtiibeefadgmicaaDoorWArr
import Derived.Test.YtiibeefadgmicaaDoorWZeros
import Derived.Test.YtiibeefadgmicaaDoorWFoot
import Derived.Test.YtiibeefadgmicaaDoorWKept
import Derived.Test.YtiibeefadgmicaaDoorWShare
import Derived.Test.YtiibeefadgmicaaDoorWN
import Derived.Test.YtiibeefadgmicaaDoorWFootNe
import Derived.Test.YtiibeefadgmicaaDoorWAt
import Derived.Test.YtiibeefadgmicaaDoorWEqStruct
import Derived.Test.YtiibeefadgmicaaDoorWRepsOne
import Derived.Test.YtiibeefadgmicaaDoorWInv
import Derived.Test.YtiibeefadgmicaaDoorWInvWords
import Derived.Test.YtiibeefadgmicaaDoorWGuard
import Derived.Test.YtiibeefadgmicaaDoorWNEv
import Derived.Test.YtiibeefadgmicaaDoorWMore
namespace Go.Proofs.YtiibeefadgmicaaDoor.PFnRevSteps
open Go.RowKit Go.Proofs.YtiibeefadgmicaaDoorW.PrintWords Go.Proofs.YtiibeefadgmicaaDoorW.PrintLast Go.Proofs.YtiibeefadgmicaaDoorW.PrintMore
attribute [local go_sem] max2_int min2_int max_two min_two max_three min_three max_four min_four   -- for this text's walks alone
set_option linter.unusedVariables false
set_option linter.unusedSimpArgs false



def errW : Option Int → Value
  | none => .nilIface
  | some c => .iface 139 (.int .i64 c)
theorem errW_none : errW none = .nilIface := rfl
theorem errW_some (c : Int) : errW (some c) = .iface 139 (.int .i64 c) := rfl

-- the values' own types
/-! #### struct type 29 -/
structure S29 where
  f0 : ByteArray
  f1 : ByteArray
  f2 : Int
  f3 : Bool
def z29 : S29 := ⟨(⟨#[]⟩ : ByteArray), (⟨#[]⟩ : ByteArray), (0 : Int), false⟩
def k29 : Kd S29 := Kd.iso (Kd.pair Kd.string (Kd.pair Kd.string (Kd.pair (Kd.int .i64) Kd.bool))) (fun x : S29 => (x.f0, x.f1, x.f2, x.f3))
theorem k29_open {w : World} {x : S29} {cs : List Value} (h : k29.K w x cs) : cs = [.string x.f0, .string x.f1, .int .i64 x.f2, .bool x.f3] := by
  obtain ⟨_, _, rfl, rfl, ⟨_, _, rfl, rfl, ⟨_, _, rfl, rfl, rfl⟩⟩⟩ := h
  exact rfl
theorem k29_openM {w : World} {base : Nat} {ok : Nat → Prop} {x : S29} {cs : List Value} (h : k29.M w base ok x cs) : cs = [.string x.f0, .string x.f1, .int .i64 x.f2, .bool x.f3] := by
  obtain ⟨_, _, rfl, rfl, ⟨_, _, rfl, rfl, ⟨_, _, rfl, rfl, rfl⟩⟩⟩ := h
  exact rfl
theorem k29_mk (w : World) (x : S29)  : k29.K w x [.string x.f0, .string x.f1, .int .i64 x.f2, .bool x.f3] := ⟨[.string x.f0], [.string x.f1, .int .i64 x.f2, .bool x.f3], rfl, rfl, ⟨[.string x.f1], [.int .i64 x.f2, .bool x.f3], rfl, rfl, ⟨[.int .i64 x.f2], [.bool x.f3], rfl, rfl, rfl⟩⟩⟩
theorem k29_mkM (w : World) (base : Nat) (ok : Nat → Prop) (x : S29)  : k29.M w base ok x [.string x.f0, .string x.f1, .int .i64 x.f2, .bool x.f3] := ⟨[.string x.f0], [.string x.f1, .int .i64 x.f2, .bool x.f3], rfl, rfl, ⟨[.string x.f1], [.int .i64 x.f2, .bool x.f3], rfl, rfl, ⟨[.int .i64 x.f2], [.bool x.f3], rfl, rfl, rfl⟩⟩⟩
def rd_T29 (xs : List S29) (i : Int) : S29 := xs.getD i.toNat z29
theorem at_T29 {w : World} {A : Option Addr} {n : Nat} {xs : List S29} (h : Kd.C k29 w A n xs) (i : Int) (h0 : 0 ≤ i) (h1 : i < n) : ∃ ad , A = some ad ∧ w.cell? (ad.add (i.toNat * 4)) = some (.string (rd_T29 xs i).f0) ∧ w.cell? ⟨(ad.add (i.toNat * 4)).block, (ad.add (i.toNat * 4)).off + 1, none⟩ = some (.string (rd_T29 xs i).f1) ∧ w.cell? ⟨(ad.add (i.toNat * 4)).block, (ad.add (i.toNat * 4)).off + 2, none⟩ = some (.int .i64 (rd_T29 xs i).f2) ∧ w.cell? ⟨(ad.add (i.toNat * 4)).block, (ad.add (i.toNat * 4)).off + 3, none⟩ = some (.bool (rd_T29 xs i).f3) := by
  obtain ⟨ad, c, e, _, hK, hc0⟩ := Kd.C_get h z29 i h0 h1
  have hc : ∀ j u, c[j]? = some u → w.cell? (ad.add (i.toNat * 4 + j)) = some u := hc0
  obtain rfl := k29_open hK
  exact ⟨ad, e, hc 0 _ rfl, by rw [← add_field _ _ 1 (by omega)]; exact hc 1 _ rfl, by rw [← add_field _ _ 2 (by omega)]; exact hc 2 _ rfl, by rw [← add_field _ _ 3 (by omega)]; exact hc 3 _ rfl⟩

/-! #### struct type 167 -/
structure S167 where
  f0 : Int
  f1 : Int
  f2 : Int
def z167 : S167 := ⟨(0 : Int), (0 : Int), (0 : Int)⟩
def k167 : Kd S167 := Kd.iso (Kd.pair (Kd.int .u16) (Kd.pair (Kd.int .u16) (Kd.int .u16))) (fun x : S167 => (x.f0, x.f1, x.f2))
theorem k167_open {w : World} {x : S167} {cs : List Value} (h : k167.K w x cs) : cs = [.int .u16 x.f0, .int .u16 x.f1, .int .u16 x.f2] := by
  obtain ⟨_, _, rfl, rfl, ⟨_, _, rfl, rfl, rfl⟩⟩ := h
  exact rfl
theorem k167_openM {w : World} {base : Nat} {ok : Nat → Prop} {x : S167} {cs : List Value} (h : k167.M w base ok x cs) : cs = [.int .u16 x.f0, .int .u16 x.f1, .int .u16 x.f2] := by
  obtain ⟨_, _, rfl, rfl, ⟨_, _, rfl, rfl, rfl⟩⟩ := h
  exact rfl
theorem k167_mk (w : World) (x : S167)  : k167.K w x [.int .u16 x.f0, .int .u16 x.f1, .int .u16 x.f2] := ⟨[.int .u16 x.f0], [.int .u16 x.f1, .int .u16 x.f2], rfl, rfl, ⟨[.int .u16 x.f1], [.int .u16 x.f2], rfl, rfl, rfl⟩⟩
theorem k167_mkM (w : World) (base : Nat) (ok : Nat → Prop) (x : S167)  : k167.M w base ok x [.int .u16 x.f0, .int .u16 x.f1, .int .u16 x.f2] := ⟨[.int .u16 x.f0], [.int .u16 x.f1, .int .u16 x.f2], rfl, rfl, ⟨[.int .u16 x.f1], [.int .u16 x.f2], rfl, rfl, rfl⟩⟩
def rd_T167 (xs : List S167) (i : Int) : S167 := xs.getD i.toNat z167
theorem at_T167 {w : World} {A : Option Addr} {n : Nat} {xs : List S167} (h : Kd.C k167 w A n xs) (i : Int) (h0 : 0 ≤ i) (h1 : i < n) : ∃ ad , A = some ad ∧ w.cell? (ad.add (i.toNat * 3)) = some (.int .u16 (rd_T167 xs i).f0) ∧ w.cell? ⟨(ad.add (i.toNat * 3)).block, (ad.add (i.toNat * 3)).off + 1, none⟩ = some (.int .u16 (rd_T167 xs i).f1) ∧ w.cell? ⟨(ad.add (i.toNat * 3)).block, (ad.add (i.toNat * 3)).off + 2, none⟩ = some (.int .u16 (rd_T167 xs i).f2) := by
  obtain ⟨ad, c, e, _, hK, hc0⟩ := Kd.C_get h z167 i h0 h1
  have hc : ∀ j u, c[j]? = some u → w.cell? (ad.add (i.toNat * 3 + j)) = some u := hc0
  obtain rfl := k167_open hK
  exact ⟨ad, e, hc 0 _ rfl, by rw [← add_field _ _ 1 (by omega)]; exact hc 1 _ rfl, by rw [← add_field _ _ 2 (by omega)]; exact hc 2 _ rfl⟩

/-! #### struct type 170 -/
structure S170 where
  f0 : Int
  f1 : Int
  f2 : Int
def z170 : S170 := ⟨(0 : Int), (0 : Int), (0 : Int)⟩
def k170 : Kd S170 := Kd.iso (Kd.pair (Kd.int .u32) (Kd.pair (Kd.int .u32) (Kd.int .u32))) (fun x : S170 => (x.f0, x.f1, x.f2))
theorem k170_open {w : World} {x : S170} {cs : List Value} (h : k170.K w x cs) : cs = [.int .u32 x.f0, .int .u32 x.f1, .int .u32 x.f2] := by
  obtain ⟨_, _, rfl, rfl, ⟨_, _, rfl, rfl, rfl⟩⟩ := h
  exact rfl
theorem k170_openM {w : World} {base : Nat} {ok : Nat → Prop} {x : S170} {cs : List Value} (h : k170.M w base ok x cs) : cs = [.int .u32 x.f0, .int .u32 x.f1, .int .u32 x.f2] := by
  obtain ⟨_, _, rfl, rfl, ⟨_, _, rfl, rfl, rfl⟩⟩ := h
  exact rfl
theorem k170_mk (w : World) (x : S170)  : k170.K w x [.int .u32 x.f0, .int .u32 x.f1, .int .u32 x.f2] := ⟨[.int .u32 x.f0], [.int .u32 x.f1, .int .u32 x.f2], rfl, rfl, ⟨[.int .u32 x.f1], [.int .u32 x.f2], rfl, rfl, rfl⟩⟩
theorem k170_mkM (w : World) (base : Nat) (ok : Nat → Prop) (x : S170)  : k170.M w base ok x [.int .u32 x.f0, .int .u32 x.f1, .int .u32 x.f2] := ⟨[.int .u32 x.f0], [.int .u32 x.f1, .int .u32 x.f2], rfl, rfl, ⟨[.int .u32 x.f1], [.int .u32 x.f2], rfl, rfl, rfl⟩⟩
def rd_T170 (xs : List S170) (i : Int) : S170 := xs.getD i.toNat z170
theorem at_T170 {w : World} {A : Option Addr} {n : Nat} {xs : List S170} (h : Kd.C k170 w A n xs) (i : Int) (h0 : 0 ≤ i) (h1 : i < n) : ∃ ad , A = some ad ∧ w.cell? (ad.add (i.toNat * 3)) = some (.int .u32 (rd_T170 xs i).f0) ∧ w.cell? ⟨(ad.add (i.toNat * 3)).block, (ad.add (i.toNat * 3)).off + 1, none⟩ = some (.int .u32 (rd_T170 xs i).f1) ∧ w.cell? ⟨(ad.add (i.toNat * 3)).block, (ad.add (i.toNat * 3)).off + 2, none⟩ = some (.int .u32 (rd_T170 xs i).f2) := by
  obtain ⟨ad, c, e, _, hK, hc0⟩ := Kd.C_get h z170 i h0 h1
  have hc : ∀ j u, c[j]? = some u → w.cell? (ad.add (i.toNat * 3 + j)) = some u := hc0
  obtain rfl := k170_open hK
  exact ⟨ad, e, hc 0 _ rfl, by rw [← add_field _ _ 1 (by omega)]; exact hc 1 _ rfl, by rw [← add_field _ _ 2 (by omega)]; exact hc 2 _ rfl⟩

end Go.Proofs.YtiibeefadgmicaaDoor.PFnRevSteps
