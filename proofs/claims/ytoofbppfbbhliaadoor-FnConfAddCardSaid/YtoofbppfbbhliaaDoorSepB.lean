/- Rows that keep apart: told by another kind, over a mapped list; an append that tells where the new element's cells are. -/
import Derived.Test.YtoofbppfbbhliaaDoorSep
namespace Go.Proofs.YtoofbppfbbhliaaDoor.ptr
open Go.RowKit Go.Proofs.YtoofbppfbbhliaaDoorW.PrintWords
set_option linter.unusedVariables false
section
variable {α β : Type} {e base : Nat} {ok : Nat → Prop} {w : World} {v : Value}
theorem S_imp {d d' : Kd α} (hs : d.sz = d'.sz) (h : ∀ w base ok x cs, d.M w base ok x cs → d'.M w base ok x cs) {xs : List α} (hS : Kd.S d e w base ok v xs) : Kd.S d' e w base ok v xs := by
  obtain ⟨f, hR⟩ := hS
  exact ⟨f, Kd.R_imp (d := Kd.tag f d) (d' := Kd.tag f d') hs (fun w base ok x cs hM => h w base _ x.1 cs hM) hR⟩
theorem S_unmap {d : Kd α} (g : β → α) {ys : List β} (hS : Kd.S (Kd.iso d g) e w base ok v ys) : Kd.S d e w base ok v (ys.map g) := by
  obtain ⟨f, h0, inner, ho, hr⟩ := hS
  rw [List.length_zipIdx] at ho
  refine ⟨f, h0, inner, by rw [List.length_zipIdx, List.length_map]; exact ho, by rw [List.length_zipIdx, List.length_map]; have := hr.1; rwa [List.length_zipIdx] at this, fun j p hj => ?_⟩
  rw [List.getElem?_zipIdx, Nat.zero_add, List.getElem?_map] at hj
  obtain ⟨x, hx, rfl⟩ := Option.map_eq_some_iff.1 hj
  obtain ⟨y, hy, rfl⟩ := Option.map_eq_some_iff.1 hx
  exact hr.2 j (y, j) (Kd.zip_at hy)
theorem S_tomap {d : Kd α} (g : β → α) {ys : List β} (hS : Kd.S d e w base ok v (ys.map g)) : Kd.S (Kd.iso d g) e w base ok v ys := by
  obtain ⟨f, h0, inner, ho, hr⟩ := hS
  rw [List.length_zipIdx, List.length_map] at ho
  refine ⟨f, h0, inner, by rw [List.length_zipIdx]; exact ho, by rw [List.length_zipIdx]; have := hr.1; rwa [List.length_zipIdx, List.length_map] at this, fun j p hj => ?_⟩
  rw [List.getElem?_zipIdx, Nat.zero_add] at hj
  obtain ⟨y, hy, rfl⟩ := Option.map_eq_some_iff.1 hj
  exact hr.2 j (g y, j) (Kd.zip_at (by rw [List.getElem?_map, hy]; rfl))
end
/-- An element, and whether its cells are these. -/
def pin {α : Type} (d : Kd α) (c0 : List Value) : Kd (α × Bool) where
  sz := d.sz
  E := d.E
  K := fun w x cs => d.K w x.1 cs ∧ (x.2 = true → cs = c0)
  M := fun w base ok x cs => d.M w base ok x.1 cs ∧ (x.2 = true → cs = c0)
  K_len := fun h => d.K_len h.1
  K_one := fun h => d.K_one h.1
  K_below := fun hb h => ⟨d.K_below hb h.1, h.2⟩
  K_of_M := fun h => ⟨d.K_of_M h.1, h.2⟩
  M_mono := fun hok h => ⟨d.M_mono hok h.1, h.2⟩
  M_bound := fun h => ⟨d.M_bound h.1, h.2⟩
  M_move := fun hm h => ⟨d.M_move hm h.1, h.2⟩
  M_lower := fun hb h => ⟨d.M_lower hb h.1, h.2⟩
theorem pin_on {α : Type} {d : Kd α} {c0 : List Value} {e base : Nat} {ok : Nat → Prop} {w : World} {v : Value} {xs : List α} (h : Kd.S d e w base ok v xs) : Kd.S (pin d c0) e w base ok v (xs.map fun x => (x, false)) := by
  have e1 : (xs.map fun x => (x, false)).map Prod.fst = xs := by rw [List.map_map]; exact List.map_id xs
  have h1 : Kd.S (Kd.iso d (Prod.fst : α × Bool → α)) e w base ok v (xs.map fun x => (x, false)) := S_tomap Prod.fst (by rw [e1]; exact h)
  -- the flag is off everywhere: by the elements themselves
  obtain ⟨f, h0, inner, ho, hr⟩ := h1
  refine ⟨f, h0, inner, ho, hr.1, fun j p hj => ⟨hr.2 j p hj, fun hp => ?_⟩⟩
  rw [List.getElem?_zipIdx, Nat.zero_add, List.getElem?_map] at hj
  obtain ⟨x, hx, rfl⟩ := Option.map_eq_some_iff.1 hj
  obtain ⟨y, hy, rfl⟩ := Option.map_eq_some_iff.1 hx
  cases hp
theorem pin_off {α : Type} {d : Kd α} {c0 : List Value} {e base : Nat} {ok : Nat → Prop} {w : World} {v : Value} {ys : List (α × Bool)} (h : Kd.S (pin d c0) e w base ok v ys) : Kd.S d e w base ok v (ys.map Prod.fst) :=
  S_unmap Prod.fst (S_imp (d := pin d c0) (d' := Kd.iso d (Prod.fst : α × Bool → α)) rfl (fun _ _ _ _ _ hM => hM.1) h)
section
variable {P : Program} {ops : Array Oper} {rest : List Oper} {o : Oper} {a : Act} {Q : Exit → Act → World → Prop} {α : Type}
/-- append(v, x), behind 'at_builtin', with the place of the new element's cells. -/
theorem S_append_at (d : Kd α) {w0 W : World} (base : Nat) (hgd : o.guard = none) (s x : Operand) (t e : TypeId) (z : Value) (bytes : Nat)
    (ho : o.op = .call { callee := .builtin .append, args := #[s, x], argTypes := #[t, t] })
    (ht : P.underlying t = some (.slice e)) (hinfo : (P.info? e).map (fun i => (i.zero, i.size, i.bytes)) = some (some z, d.sz, bytes)) (hz : z.cells.size = d.sz) (hs0 : 0 < d.sz) (hb0 : 0 < bytes)
    (v : Value) (xs : List α) (p : α) (cs : List Value) (ok okp : Nat → Prop) (hs : a.eval s = v) (hx : a.eval x = .slice (some ⟨W.heap.size, 0, none⟩) 1 1) (hp : d.M W base okp p cs) (hokp : ∀ k, okp k → ok k ∧ some k ≠ v.ownBlock) (hfresh : ∀ k, W.heap.size ≤ k → ok k)
    (HO : Kd.S d e W base (fun k => ok k ∧ ¬ okp k) v xs) (HB : Below base w0 W) (hbase : base ≤ W.heap.size) (hl : (xs.length + 1) * bytes ≤ 140737488355328)
    (h : ∀ v1 w1, Kd.S d e w1 base ok v1 (xs ++ [p]) → (∃ ad cap, v1 = .slice (some ad) (xs.length + 1) cap ∧ ∀ m u, cs[m]? = some u → w1.cell? (ad.add (xs.length * d.sz + m)) = some u) → Below base w0 w1 → W.grownBy w1 v.ownBlock → (v1.ownBlock = v.ownBlock ∨ ∃ b, v1.ownBlock = some b ∧ W.heap.size ≤ b) → wpList P ops Q rest (a.put o.dst v1) w1) :
    wpList P ops Q (o :: rest) a (W.alloc (.cells cs.toArray e)) := by
  refine Kd.S_append (pin d cs) (w0 := w0) base hgd s x t e z bytes ho ht hinfo hz hs0 hb0 v (xs.map fun x => (x, false)) (p, true) cs ok okp hs hx ⟨hp, fun _ => rfl⟩ hokp hfresh (pin_on HO) HB hbase (by rw [List.length_map]; exact hl) ?_
  intro v1 w1 hS hb hg hat
  have h1 := pin_off hS
  rw [List.map_append, List.map_map, show (xs.map (Prod.fst ∘ fun x => (x, false))) = xs from List.map_id xs] at h1
  refine h v1 w1 h1 ?_ hb hg hat
  obtain ⟨A, c, hv, _, hC⟩ := Kd.S_reads hS
  have hlen : ((xs.map fun x => (x, false)) ++ [(p, true)]).length = xs.length + 1 := by simp
  obtain ⟨ad, rfl, hc⟩ := hC.2.2 (by rw [hlen]; omega)
  obtain ⟨cc, _, hK, hcell⟩ := hc xs.length (p, true) (by rw [List.getElem?_append_right (by simp)]; simp)
  obtain rfl : cc = cs := hK.2 rfl
  exact ⟨ad, c, by rw [hv, hlen], hcell⟩
end
end Go.Proofs.YtoofbppfbbhliaaDoor.ptr
