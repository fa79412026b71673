/- config: an option added to a section, to a part. -/
import Derived.Test.YtoofbppfbbhliaaDoorPudE
namespace Go.Proofs.YtoofbppfbbhliaaDoor.confP
open Go.RowKit Go.Proofs.YtoofbppfbbhliaaDoorW.PrintWords Go.Proofs.YtoofbppfbbhliaaDoorW.PrintLast Go.Proofs.YtoofbppfbbhliaaDoorW.PrintMore Go.Proofs.YtoofbppfbbhliaaDoor.PFnConfAdd Go.Proofs.YtoofbppfbbhliaaDoor.ptr
set_option linter.unusedVariables false
set_option linter.unusedSimpArgs false
set_option maxHeartbeats 2000000
set_option maxRecDepth 100000
/-- Nothing of what was there has changed but a block and a row. -/
structure Near (w w' : World) (g : Nat) (row : Option Nat) : Prop where
  os : w'.os = w.os
  tape : w'.tape = w.tape
  output : w'.output = w.output
  size : w.heap.size ≤ w'.heap.size
  block : ∀ k, k < w.heap.size → k ≠ g → some k ≠ row → w'.heap[k]? = w.heap[k]?
theorem Near.put {w w1 : World} {g : Nat} {row : Option Nat} (h : w.grownBy w1 row) (j : Nat) (u : Value) : Near w (w1.setCell ⟨g, j, none⟩ u) g row :=
  have hb : Below g w1 (w1.setCell ⟨g, j, none⟩ u) := (Below.refl g w1).setCell (Nat.le_refl g) u
  ⟨hb.os.trans h.os, hb.tape.trans h.tape, hb.output.trans h.output, Nat.le_trans h.size hb.size, fun k hk h1 h2 => (Below.heap_setCell w1 ⟨g, j, none⟩ u k h1).trans (h.block k hk h2)⟩
theorem Near.below {w w' : World} {g base : Nat} {row : Option Nat} (h : Near w w' g row) (hs : base ≤ w.heap.size) (hg : base ≤ g) (hr : ∀ k, row = some k → base ≤ k) : Below base w w' :=
  ⟨h.os, h.tape, h.output, h.size, fun k hk => h.block k (by omega) (by omega) (fun he => by have := hr k he.symm; omega)⟩
/-- What Section).AddOption leaves. -/
def secAdded (g base : Nat) (ok : Nat → Prop) (n : ByteArray) (u : Value) (w : World) (vO : Value) (l' : List S112) (e : Ending) (w' : World) : Prop := ∃ v1, e = .returned (.pointer (some ⟨g, 0, none⟩)) ∧ w'.heap[g]? = some (.cells #[.string n, v1, u] 169 (0, 0)) ∧ Kd.R kO 194 w' base (fun k => ok k ∨ w.heap.size ≤ k) v1 l' ∧ Near w w' g vO.ownBlock
theorem secAdd_any (g : Nat) (n : ByteArray) (u : Value) (vO : Value) (l : List S112) (key value : ByteArray) (ok : Nat → Prop) (base : Nat) (w : World) (hbase : base ≤ w.heap.size) (hg : w.heap[g]? = some (.cells #[.string n, vO, u] 169 (0, 0))) (HO : Kd.R kO 194 w base ok vO l) (hl : l.length ≤ 4294967295) :
    Calls Tryd.prog 102 #[.pointer (some ⟨g, 0, none⟩), .string key, .string value] w (secAdded g base ok n u w vO (l ++ [⟨key, value⟩])) := by
  have hcv : w.cell? ⟨g, 1, none⟩ = some vO := (blk_cell hg 1).trans rfl
  have HN := Aside0.mk (Kd.R_ne HO hg (by decide))
  have HG := Aside0.mk hg
  have HA := Aside0.mk (withAdded_any vO l key value ok base w hbase HO hl)
  obtain ⟨A, c, ev⟩ := Kd.R_slice HO
  subst ev
  clear HO hg
  go_enter Tryd.func102, Tryd.ntmps102
  go_wp2_with fail
  refine HA.out.mono ?_
  clear HA
  rintro e w1 ⟨v1, rfl, hR, hgr, hat⟩
  have HB1 := Aside0.mk (blk_grown HG.out hgr HN.out)
  obtain ⟨A1, c1, e1⟩ := Kd.R_slice hR
  subst e1
  rw [show (l ++ [(⟨key, value⟩ : S112)]).length = l.length + 1 by simp] at hR
  have HR1 := Aside0.mk hR
  have HGR := Aside0.mk hgr
  have n1 : w1.cell? ⟨g, 1, none⟩ = some (.slice A l.length c) := (blk_cell HB1.out 1).trans rfl
  have nf := blk_frozen HB1.out 1
  clear hR hgr hat
  go_wp2
  go_ret
  exact ⟨_, rfl, blk_put (cs := #[.string n, .slice A l.length c, u]) HB1.out 1 _ rfl, Kd.R_set HR1.out HB1.out (by decide) 1 _, Near.put HGR.out 1 _⟩
/-- What Subsection).AddOption leaves. -/
def subAdded (g base : Nat) (ok : Nat → Prop) (n : ByteArray) (w : World) (vO : Value) (l' : List S112) (e : Ending) (w' : World) : Prop := ∃ v1, e = .returned (.pointer (some ⟨g, 0, none⟩)) ∧ w'.heap[g]? = some (.cells #[.string n, v1] 172 (0, 0)) ∧ Kd.R kO 194 w' base (fun k => ok k ∨ w.heap.size ≤ k) v1 l' ∧ Near w w' g vO.ownBlock
theorem subAdd_any (g : Nat) (n : ByteArray) (vO : Value) (l : List S112) (key value : ByteArray) (ok : Nat → Prop) (base : Nat) (w : World) (hbase : base ≤ w.heap.size) (hg : w.heap[g]? = some (.cells #[.string n, vO] 172 (0, 0))) (HO : Kd.R kO 194 w base ok vO l) (hl : l.length ≤ 4294967295) :
    Calls Tryd.prog 103 #[.pointer (some ⟨g, 0, none⟩), .string key, .string value] w (subAdded g base ok n w vO (l ++ [⟨key, value⟩])) := by
  have hcv : w.cell? ⟨g, 1, none⟩ = some vO := (blk_cell hg 1).trans rfl
  have HN := Aside0.mk (Kd.R_ne HO hg (by decide))
  have HG := Aside0.mk hg
  have HA := Aside0.mk (withAdded_any vO l key value ok base w hbase HO hl)
  obtain ⟨A, c, ev⟩ := Kd.R_slice HO
  subst ev
  clear HO hg
  go_enter Tryd.func103, Tryd.ntmps103
  go_wp2_with fail
  refine HA.out.mono ?_
  clear HA
  rintro e w1 ⟨v1, rfl, hR, hgr, hat⟩
  have HB1 := Aside0.mk (blk_grown HG.out hgr HN.out)
  obtain ⟨A1, c1, e1⟩ := Kd.R_slice hR
  subst e1
  rw [show (l ++ [(⟨key, value⟩ : S112)]).length = l.length + 1 by simp] at hR
  have HR1 := Aside0.mk hR
  have HGR := Aside0.mk hgr
  have n1 : w1.cell? ⟨g, 1, none⟩ = some (.slice A l.length c) := (blk_cell HB1.out 1).trans rfl
  have nf := blk_frozen HB1.out 1
  clear hR hgr hat
  go_wp2
  go_ret
  exact ⟨_, rfl, blk_put (cs := #[.string n, .slice A l.length c]) HB1.out 1 _ rfl, Kd.R_set HR1.out HB1.out (by decide) 1 _, Near.put HGR.out 1 _⟩
end Go.Proofs.YtoofbppfbbhliaaDoor.confP
