/- Frames: nothing of what was there has changed but some blocks. General: no function of the program. -/
import Derived.Test.YtghcecngdhcjpaaDoorWWords
import Derived.Laws.CopyOwn
import Derived.Laws.CopyRow
import Derived.Deep.DeepMust
import Derived.LaidEql
namespace Go.Proofs.YtghcecngdhcjpaaDoor.off
open Go.RowKit Go.Proofs.YtghcecngdhcjpaaDoorW.PrintWords
set_option linter.unusedVariables false
set_option linter.unusedSimpArgs false
theorem w64 {n : Int} (h0 : -9223372036854775808 ≤ n) (h1 : n < 9223372036854775808) : wrap64 n = n := by
  unfold wrap64; first | omega | (simp [IntKind.wrap_i64]; omega)
/-- Bytes as cells. -/
def bv (l : List UInt8) : List Value := l.map fun b => Value.int .u8 (b.toNat : Int)
theorem bv_len (l : List UInt8) : (bv l).length = l.length := by simp [bv]
theorem bv_one (l : List UInt8) : ∀ v ∈ bv l, v.oneCell' = true := by
  intro v hv
  obtain ⟨b, _, rfl⟩ := List.mem_map.1 hv
  rfl
/-- One of some blocks. -/
def In (L : List Nat) (k : Nat) : Prop := k ∈ L
/-- Nothing of what was there has changed but some blocks. -/
structure Off (S : Nat → Prop) (w w' : World) : Prop where
  os : w'.os = w.os
  tape : w'.tape = w.tape
  output : w'.output = w.output
  size : w.heap.size ≤ w'.heap.size
  block : ∀ k, k < w.heap.size → ¬ S k → w'.heap[k]? = w.heap[k]?
section
variable {S S' : Nat → Prop} {w w1 w2 w' : World}
theorem Off.refl (S : Nat → Prop) (w : World) : Off S w w := ⟨rfl, rfl, rfl, Nat.le_refl _, fun _ _ _ => rfl⟩
theorem Off.mono (h : Off S w w') (hs : ∀ k, S k → S' k) : Off S' w w' := ⟨h.os, h.tape, h.output, h.size, fun k hk n => h.block k hk (fun a => n (hs k a))⟩
theorem Off.trans (h : Off S w w1) (h2 : Off S w1 w2) : Off S w w2 :=
  ⟨h2.os.trans h.os, h2.tape.trans h.tape, h2.output.trans h.output, Nat.le_trans h.size h2.size, fun k hk n => (h2.block k (Nat.lt_of_lt_of_le hk h.size) n).trans (h.block k hk n)⟩
theorem Off.drew (h : Off S w w1) : Off S w w1.drew := ⟨h.os, h.tape, h.output, h.size, h.block⟩
theorem Off.drewN (h : Off S w w1) (n : Nat) : Off S w (w1.drewN n) := ⟨h.os, h.tape, h.output, h.size, h.block⟩
theorem Off.cell (h : Off S w w1) {g : Nat} (hg : S g) (j : Nat) (u : Value) : Off S w (w1.setCell ⟨g, j, none⟩ u) :=
  have hb : Below g w1 (w1.setCell ⟨g, j, none⟩ u) := (Below.refl g w1).setCell (Nat.le_refl g) u
  h.trans ⟨hb.os, hb.tape, hb.output, hb.size, fun k hk n => Below.heap_setCell w1 ⟨g, j, none⟩ u k (fun he => n (he ▸ hg))⟩
theorem Off.row (h : Off S w w1) {g : Nat} (hg : S g) (cs : Array Value) : Off S w (w1.setRow g cs) :=
  h.trans ⟨rfl, rfl, rfl, by simp, fun k hk n => setRow_other _ _ _ _ (fun he => n (he ▸ hg))⟩
theorem Off.then_ (h : Off S w w1) (hb : Below w1.heap.size w1 w2) : Off S w w2 := h.trans ⟨hb.os, hb.tape, hb.output, hb.size, fun k hk _ => hb.block k hk⟩
theorem Off.below {base : Nat} (h : Off S w w') (hs : base ≤ w.heap.size) (hS : ∀ k, S k → base ≤ k) : Below base w w' :=
  ⟨h.os, h.tape, h.output, h.size, fun k hk => h.block k (by omega) (fun a => by have := hS k a; omega)⟩
theorem Off.blk {k : Nat} {o : Obj} (h : Off S w w') (hk : w.heap[k]? = some o) (n : ¬ S k) : w'.heap[k]? = some o := (h.block k (blk_lt hk) n).trans hk
end
theorem cell_same {w w' : World} (g j : Nat) (h : w'.heap[g]? = w.heap[g]?) : w'.cell? ⟨g, j, none⟩ = w.cell? ⟨g, j, none⟩ := World.cell?_of_block (w := w) h
theorem Off.same {S : Nat → Prop} {w w' : World} {k : Nat} (h : Off S w w') (hk : k < w.heap.size) (n : ¬ S k) : w'.heap[k]? = w.heap[k]? := h.block k hk n
theorem Off.of_below {S : Nat → Prop} {w w' : World} (h : Below w.heap.size w w') : Off S w w' := ⟨h.os, h.tape, h.output, h.size, fun k hk _ => h.block k hk⟩
theorem Off.of_grown {S : Nat → Prop} {w w' : World} {r : Option Nat} (h : w.grownBy w' r) (hr : ∀ k, r = some k → S k) : Off S w w' :=
  ⟨h.os, h.tape, h.output, h.size, fun k hk n => h.block k hk (fun e => n (hr k e.symm))⟩
end Go.Proofs.YtghcecngdhcjpaaDoor.off
