-- PRINTED BY print.sh 35421559b90ae4d0a3588c463048766b98c2df88dd9212a6774a882060cdf62d: not written by this session
import Derived.Test.YtoofbppfbbhliaaDoorProg
import Derived.Below
import Derived.Deep.Draws
import Derived.Deep.AppendLies
import Derived.Maps.AppendAt
import Derived.OwnWalk
import Derived.Laws.BytesArg
import Derived.Laws.MakeOwn
import Derived.Laws.OwnMore
import Derived.Deep.OwnRows
import Derived.Tactics
import Derived.Lib.ConvBytes
import Derived.Laws.Slices
import Derived.WalkKit
import Derived.KernelRfl
import Derived.RowKit3
import Derived.Deep.LoopGhost
import Derived.Deep.QuietTactic
import Derived.BigQuiet
import Derived.WideLaws
import Derived.Deep.DeepCutAuto
import Derived.Deep.CutBlock
import Derived.Deep.RegionHeld3
import Derived.Laws.Rows
import Derived.Lib.AppendStr
import Derived.ArgAppend
import Derived.Laws.IdiomCopy
import Derived.OrdersHeld
import Derived.Laws.BitsLemmas
import Derived.RowKit
import Derived.Test.YtoofbppfbbhliaaDoorWWords
import Derived.Test.YtoofbppfbbhliaaDoorWLast
import Derived.Test.YtoofbppfbbhliaaDoorWTab
import Derived.Test.YtoofbppfbbhliaaDoorWFour
import Derived.Test.YtoofbppfbbhliaaDoorWQPut
import Derived.Test.YtoofbppfbbhliaaDoorWApart
import Derived.Test.YtoofbppfbbhliaaDoorWArr
import Derived.Test.YtoofbppfbbhliaaDoorWZeros
import Derived.Test.YtoofbppfbbhliaaDoorWFoot
import Derived.Test.YtoofbppfbbhliaaDoorWKept
import Derived.Test.YtoofbppfbbhliaaDoorWShare
import Derived.Test.YtoofbppfbbhliaaDoorWN
import Derived.Test.YtoofbppfbbhliaaDoorWFootNe
import Derived.Test.YtoofbppfbbhliaaDoorWAt
import Derived.Test.YtoofbppfbbhliaaDoorWEqStruct
import Derived.Test.YtoofbppfbbhliaaDoorWRepsOne
import Derived.Test.YtoofbppfbbhliaaDoorWInv
import Derived.Test.YtoofbppfbbhliaaDoorWInvWords
import Derived.Test.YtoofbppfbbhliaaDoorWGuard
import Derived.Test.YtoofbppfbbhliaaDoorWNEv
import Derived.Test.YtoofbppfbbhliaaDoorWMore
namespace Go.Proofs.YtoofbppfbbhliaaDoor.PFnConfAdd
open Go.RowKit Go.Proofs.YtoofbppfbbhliaaDoorW.PrintWords Go.Proofs.YtoofbppfbbhliaaDoorW.PrintLast Go.Proofs.YtoofbppfbbhliaaDoorW.PrintMore
attribute [local go_sem] max2_int min2_int max_two min_two max_three min_three max_four min_four   -- for this text's walks alone
set_option linter.unusedVariables false
set_option linter.unusedSimpArgs false



def errW : Option Int → Value
  | none => .nilIface
  | some c => .iface 0 (.int .i64 c)
theorem errW_none : errW none = .nilIface := rfl
theorem errW_some (c : Int) : errW (some c) = .iface 0 (.int .i64 c) := rfl

theorem info9 : (Tryd.prog.info? 9).map (fun i => (i.zero, i.size, i.bytes)) = some (some (.string ⟨#[]⟩), 1, 16) := by kernel_rfl
theorem info71 : (Tryd.prog.info? 71).map (fun i => (i.zero, i.size, i.bytes)) = some (some (.agg #[(.string ⟨#[]⟩), (.slice none 0 0), (.slice none 0 0)]), 3, 64) := by kernel_rfl
theorem info115 : (Tryd.prog.info? 115).map (fun i => (i.zero, i.size, i.bytes)) = some (some (.agg #[(.string ⟨#[]⟩), (.slice none 0 0)]), 2, 40) := by kernel_rfl
-- the values' own types
/-! #### struct type 112 -/
structure S112 where
  f0 : ByteArray
  f1 : ByteArray
def z112 : S112 := ⟨(⟨#[]⟩ : ByteArray), (⟨#[]⟩ : ByteArray)⟩
def k112 : Kd S112 := Kd.iso (Kd.pair Kd.string Kd.string) (fun x : S112 => (x.f0, x.f1))
theorem k112_open {w : World} {x : S112} {cs : List Value} (h : k112.K w x cs) : cs = [.string x.f0, .string x.f1] := by
  obtain ⟨_, _, rfl, rfl, rfl⟩ := h
  exact rfl
theorem k112_openM {w : World} {base : Nat} {ok : Nat → Prop} {x : S112} {cs : List Value} (h : k112.M w base ok x cs) : cs = [.string x.f0, .string x.f1] := by
  obtain ⟨_, _, rfl, rfl, rfl⟩ := h
  exact rfl
theorem k112_mk (w : World) (x : S112)  : k112.K w x [.string x.f0, .string x.f1] := ⟨[.string x.f0], [.string x.f1], rfl, rfl, rfl⟩
theorem k112_mkM (w : World) (base : Nat) (ok : Nat → Prop) (x : S112)  : k112.M w base ok x [.string x.f0, .string x.f1] := ⟨[.string x.f0], [.string x.f1], rfl, rfl, rfl⟩
theorem k112_mkF (W : World) (ok : Nat → Prop) (x : S112) : Kd.FK k112 W ok x [.string x.f0, .string x.f1] := fun W2 _ => k112_mk W2 x
def rd_T112 (xs : List S112) (i : Int) : S112 := xs.getD i.toNat z112
theorem at_T112 {w : World} {A : Option Addr} {n : Nat} {xs : List S112} (h : Kd.C k112 w A n xs) (i : Int) (h0 : 0 ≤ i) (h1 : i < n) : ∃ ad , A = some ad ∧ w.cell? (ad.add (i.toNat * 2)) = some (.string (rd_T112 xs i).f0) ∧ w.cell? ⟨(ad.add (i.toNat * 2)).block, (ad.add (i.toNat * 2)).off + 1, none⟩ = some (.string (rd_T112 xs i).f1) := by
  obtain ⟨ad, c, e, _, hK, hc0⟩ := Kd.C_get h z112 i h0 h1
  have hc : ∀ j u, c[j]? = some u → w.cell? (ad.add (i.toNat * 2 + j)) = some u := hc0
  obtain rfl := k112_open hK
  exact ⟨ad, e, hc 0 _ rfl, by rw [← add_field _ _ 1 (by omega)]; exact hc 1 _ rfl⟩

def rd_L2 (xs : List (List S112)) (i : Int) : (List S112) := xs.getD i.toNat ([] : List S112)
theorem at_L2 {w : World} {A : Option Addr} {n : Nat} {xs : List (List S112)} (h : Kd.C (Kd.slice 112 k112) w A n xs) (i : Int) (h0 : 0 ≤ i) (h1 : i < n) : ∃ ad A0 c0, A = some ad ∧ w.cell? (ad.add i.toNat) = some (.slice A0 (rd_L2 xs i).length c0) ∧ (rd_L2 xs i).length ≤ c0 ∧ k112.C w A0 (rd_L2 xs i).length (rd_L2 xs i) := by
  obtain ⟨ad, c, e, _, hK, hc0⟩ := Kd.C_get h ([] : List S112) i h0 h1
  have hc : ∀ j u, c[j]? = some u → w.cell? (ad.add (i.toNat * 1 + j)) = some u := hc0
  obtain ⟨A0, c0, rfl, l0, g0⟩ := hK
  exact ⟨ad, A0, c0, e, by have hq := hc 0 _ rfl; rwa [Nat.mul_one, Nat.add_zero] at hq, l0, g0⟩

/-! #### struct type 115 -/
structure S115 where
  f0 : ByteArray
  f1 : (List S112)
def z115 : S115 := ⟨(⟨#[]⟩ : ByteArray), ([] : List S112)⟩
def k115 : Kd S115 := Kd.iso (Kd.pair Kd.string (Kd.slice 112 k112)) (fun x : S115 => (x.f0, x.f1))
theorem k115_open {w : World} {x : S115} {cs : List Value} (h : k115.K w x cs) : ∃ A1 c1, cs = [.string x.f0, .slice A1 x.f1.length c1] ∧ x.f1.length ≤ c1 ∧ k112.C w A1 x.f1.length x.f1 := by
  obtain ⟨_, _, rfl, rfl, ⟨A1, c1, rfl, l1, g1⟩⟩ := h
  exact ⟨A1, c1, rfl, l1, g1⟩
theorem k115_openM {w : World} {base : Nat} {ok : Nat → Prop} {x : S115} {cs : List Value} (h : k115.M w base ok x cs) : ∃ v1, cs = [.string x.f0, v1] ∧ k112.R 112 w base ok v1 x.f1 := by
  obtain ⟨_, _, rfl, rfl, ⟨v1, rfl, g1⟩⟩ := h
  exact ⟨v1, rfl, g1⟩
theorem k115_mk (w : World) (x : S115) {A1 : Option Addr} {c1 : Nat} (l1 : x.f1.length ≤ c1) (g1 : k112.C w A1 x.f1.length x.f1) : k115.K w x [.string x.f0, .slice A1 x.f1.length c1] := ⟨[.string x.f0], [.slice A1 x.f1.length c1], rfl, rfl, ⟨A1, c1, rfl, l1, g1⟩⟩
theorem k115_mkM (w : World) (base : Nat) (ok : Nat → Prop) (x : S115) {v1 : Value} (g1 : k112.R 112 w base ok v1 x.f1) : k115.M w base ok x [.string x.f0, v1] := ⟨[.string x.f0], [v1], rfl, rfl, ⟨v1, rfl, g1⟩⟩
theorem k115_openF {W : World} {ok : Nat → Prop} {x : S115} {cs : List Value} (h : Kd.FK k115 W ok x cs) : ∃ A1 c1, cs = [.string x.f0, .slice A1 x.f1.length c1] ∧ x.f1.length ≤ c1 ∧ Kd.F k112 W ok A1 x.f1.length x.f1 := by
  obtain ⟨A1, c1, rfl, l1, _⟩ := k115_open (Kd.FK_now h)
  exact ⟨A1, c1, rfl, l1, (fun W' hW => by obtain ⟨A1_, c1_, he, l1_, g1_⟩ := k115_open (h W' hW); injection (Option.some.inj (show some (Value.slice A1 x.f1.length c1) = some (Value.slice A1_ x.f1.length c1_) from congrArg (fun l => l[1]?) he)) with ha_ _ _; rw [ha_]; exact g1_)⟩
theorem k115_mkF (W : World) (ok : Nat → Prop) (x : S115) {A1 : Option Addr} {c1 : Nat} (l1 : x.f1.length ≤ c1) (g1 : Kd.F k112 W ok A1 x.f1.length x.f1) : Kd.FK k115 W ok x [.string x.f0, .slice A1 x.f1.length c1] := fun W2 hW => k115_mk W2 x l1 (g1 W2 hW)
def rd_T115 (xs : List S115) (i : Int) : S115 := xs.getD i.toNat z115
theorem at_T115 {w : World} {A : Option Addr} {n : Nat} {xs : List S115} (h : Kd.C k115 w A n xs) (i : Int) (h0 : 0 ≤ i) (h1 : i < n) : ∃ ad A1 c1, A = some ad ∧ w.cell? (ad.add (i.toNat * 2)) = some (.string (rd_T115 xs i).f0) ∧ w.cell? ⟨(ad.add (i.toNat * 2)).block, (ad.add (i.toNat * 2)).off + 1, none⟩ = some (.slice A1 (rd_T115 xs i).f1.length c1) ∧ (rd_T115 xs i).f1.length ≤ c1 ∧ k112.C w A1 (rd_T115 xs i).f1.length (rd_T115 xs i).f1 := by
  obtain ⟨ad, c, e, _, hK, hc0⟩ := Kd.C_get h z115 i h0 h1
  have hc : ∀ j u, c[j]? = some u → w.cell? (ad.add (i.toNat * 2 + j)) = some u := hc0
  obtain ⟨A1, c1, rfl, l1, g1⟩ := k115_open hK
  exact ⟨ad, A1, c1, e, hc 0 _ rfl, by rw [← add_field _ _ 1 (by omega)]; exact hc 1 _ rfl, l1, g1⟩

def rd_L4 (xs : List (List S115)) (i : Int) : (List S115) := xs.getD i.toNat ([] : List S115)
theorem at_L4 {w : World} {A : Option Addr} {n : Nat} {xs : List (List S115)} (h : Kd.C (Kd.slice 115 k115) w A n xs) (i : Int) (h0 : 0 ≤ i) (h1 : i < n) : ∃ ad A0 c0, A = some ad ∧ w.cell? (ad.add i.toNat) = some (.slice A0 (rd_L4 xs i).length c0) ∧ (rd_L4 xs i).length ≤ c0 ∧ k115.C w A0 (rd_L4 xs i).length (rd_L4 xs i) := by
  obtain ⟨ad, c, e, _, hK, hc0⟩ := Kd.C_get h ([] : List S115) i h0 h1
  have hc : ∀ j u, c[j]? = some u → w.cell? (ad.add (i.toNat * 1 + j)) = some u := hc0
  obtain ⟨A0, c0, rfl, l0, g0⟩ := hK
  exact ⟨ad, A0, c0, e, by have hq := hc 0 _ rfl; rwa [Nat.mul_one, Nat.add_zero] at hq, l0, g0⟩

/-! #### struct type 71 -/
structure S71 where
  f0 : ByteArray
  f1 : (List S112)
  f2 : (List S115)
def z71 : S71 := ⟨(⟨#[]⟩ : ByteArray), ([] : List S112), ([] : List S115)⟩
def k71 : Kd S71 := Kd.iso (Kd.pair Kd.string (Kd.pair (Kd.slice 112 k112) (Kd.slice 115 k115))) (fun x : S71 => (x.f0, x.f1, x.f2))
theorem k71_open {w : World} {x : S71} {cs : List Value} (h : k71.K w x cs) : ∃ A1 c1 A2 c2, cs = [.string x.f0, .slice A1 x.f1.length c1, .slice A2 x.f2.length c2] ∧ x.f1.length ≤ c1 ∧ k112.C w A1 x.f1.length x.f1 ∧ x.f2.length ≤ c2 ∧ k115.C w A2 x.f2.length x.f2 := by
  obtain ⟨_, _, rfl, rfl, ⟨_, _, rfl, ⟨A1, c1, rfl, l1, g1⟩, ⟨A2, c2, rfl, l2, g2⟩⟩⟩ := h
  exact ⟨A1, c1, A2, c2, rfl, l1, g1, l2, g2⟩
theorem k71_openM {w : World} {base : Nat} {ok : Nat → Prop} {x : S71} {cs : List Value} (h : k71.M w base ok x cs) : ∃ v1 v2, cs = [.string x.f0, v1, v2] ∧ k112.R 112 w base ok v1 x.f1 ∧ k115.R 115 w base ok v2 x.f2 := by
  obtain ⟨_, _, rfl, rfl, ⟨_, _, rfl, ⟨v1, rfl, g1⟩, ⟨v2, rfl, g2⟩⟩⟩ := h
  exact ⟨v1, v2, rfl, g1, g2⟩
theorem k71_mk (w : World) (x : S71) {A1 : Option Addr} {c1 : Nat} (l1 : x.f1.length ≤ c1) (g1 : k112.C w A1 x.f1.length x.f1) {A2 : Option Addr} {c2 : Nat} (l2 : x.f2.length ≤ c2) (g2 : k115.C w A2 x.f2.length x.f2) : k71.K w x [.string x.f0, .slice A1 x.f1.length c1, .slice A2 x.f2.length c2] := ⟨[.string x.f0], [.slice A1 x.f1.length c1, .slice A2 x.f2.length c2], rfl, rfl, ⟨[.slice A1 x.f1.length c1], [.slice A2 x.f2.length c2], rfl, ⟨A1, c1, rfl, l1, g1⟩, ⟨A2, c2, rfl, l2, g2⟩⟩⟩
theorem k71_mkM (w : World) (base : Nat) (ok : Nat → Prop) (x : S71) {v1 : Value} (g1 : k112.R 112 w base ok v1 x.f1) {v2 : Value} (g2 : k115.R 115 w base ok v2 x.f2) : k71.M w base ok x [.string x.f0, v1, v2] := ⟨[.string x.f0], [v1, v2], rfl, rfl, ⟨[v1], [v2], rfl, ⟨v1, rfl, g1⟩, ⟨v2, rfl, g2⟩⟩⟩
theorem k71_openF {W : World} {ok : Nat → Prop} {x : S71} {cs : List Value} (h : Kd.FK k71 W ok x cs) : ∃ A1 c1 A2 c2, cs = [.string x.f0, .slice A1 x.f1.length c1, .slice A2 x.f2.length c2] ∧ x.f1.length ≤ c1 ∧ Kd.F k112 W ok A1 x.f1.length x.f1 ∧ x.f2.length ≤ c2 ∧ Kd.F k115 W ok A2 x.f2.length x.f2 := by
  obtain ⟨A1, c1, A2, c2, rfl, l1, _, l2, _⟩ := k71_open (Kd.FK_now h)
  exact ⟨A1, c1, A2, c2, rfl, l1, (fun W' hW => by obtain ⟨A1_, c1_, A2_, c2_, he, l1_, g1_, l2_, g2_⟩ := k71_open (h W' hW); injection (Option.some.inj (show some (Value.slice A1 x.f1.length c1) = some (Value.slice A1_ x.f1.length c1_) from congrArg (fun l => l[1]?) he)) with ha_ _ _; rw [ha_]; exact g1_), l2, (fun W' hW => by obtain ⟨A1_, c1_, A2_, c2_, he, l1_, g1_, l2_, g2_⟩ := k71_open (h W' hW); injection (Option.some.inj (show some (Value.slice A2 x.f2.length c2) = some (Value.slice A2_ x.f2.length c2_) from congrArg (fun l => l[2]?) he)) with ha_ _ _; rw [ha_]; exact g2_)⟩
theorem k71_mkF (W : World) (ok : Nat → Prop) (x : S71) {A1 : Option Addr} {c1 : Nat} (l1 : x.f1.length ≤ c1) (g1 : Kd.F k112 W ok A1 x.f1.length x.f1) {A2 : Option Addr} {c2 : Nat} (l2 : x.f2.length ≤ c2) (g2 : Kd.F k115 W ok A2 x.f2.length x.f2) : Kd.FK k71 W ok x [.string x.f0, .slice A1 x.f1.length c1, .slice A2 x.f2.length c2] := fun W2 hW => k71_mk W2 x l1 (g1 W2 hW) l2 (g2 W2 hW)
def rd_T71 (xs : List S71) (i : Int) : S71 := xs.getD i.toNat z71
theorem at_T71 {w : World} {A : Option Addr} {n : Nat} {xs : List S71} (h : Kd.C k71 w A n xs) (i : Int) (h0 : 0 ≤ i) (h1 : i < n) : ∃ ad A1 c1 A2 c2, A = some ad ∧ w.cell? (ad.add (i.toNat * 3)) = some (.string (rd_T71 xs i).f0) ∧ w.cell? ⟨(ad.add (i.toNat * 3)).block, (ad.add (i.toNat * 3)).off + 1, none⟩ = some (.slice A1 (rd_T71 xs i).f1.length c1) ∧ w.cell? ⟨(ad.add (i.toNat * 3)).block, (ad.add (i.toNat * 3)).off + 2, none⟩ = some (.slice A2 (rd_T71 xs i).f2.length c2) ∧ (rd_T71 xs i).f1.length ≤ c1 ∧ k112.C w A1 (rd_T71 xs i).f1.length (rd_T71 xs i).f1 ∧ (rd_T71 xs i).f2.length ≤ c2 ∧ k115.C w A2 (rd_T71 xs i).f2.length (rd_T71 xs i).f2 := by
  obtain ⟨ad, c, e, _, hK, hc0⟩ := Kd.C_get h z71 i h0 h1
  have hc : ∀ j u, c[j]? = some u → w.cell? (ad.add (i.toNat * 3 + j)) = some u := hc0
  obtain ⟨A1, c1, A2, c2, rfl, l1, g1, l2, g2⟩ := k71_open hK
  exact ⟨ad, A1, c1, A2, c2, e, hc 0 _ rfl, by rw [← add_field _ _ 1 (by omega)]; exact hc 1 _ rfl, by rw [← add_field _ _ 2 (by omega)]; exact hc 2 _ rfl, l1, g1, l2, g2⟩

end Go.Proofs.YtoofbppfbbhliaaDoor.PFnConfAdd
