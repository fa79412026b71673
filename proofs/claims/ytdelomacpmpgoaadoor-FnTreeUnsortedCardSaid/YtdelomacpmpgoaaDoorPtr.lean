/- The kind of a pointer to a block of its own (of a type t), that reads as d; built over the printed words. No condition of its own. -/
import Derived.Test.YtdelomacpmpgoaaDoorWWords
namespace Go.Proofs.YtdelomacpmpgoaaDoor.ptr
open Go.RowKit Go.Proofs.YtdelomacpmpgoaaDoorW.PrintWords
set_option linter.unusedVariables false
/-- A pointer to a whole block of type t whose cells are of the kind d. -/
def ptr {α : Type} (t : Nat) (d : Kd α) : Kd α where
  sz := 1
  E := t :: d.E
  K := fun w x cs => ∃ g arr, cs = [.pointer (some ⟨g, 0, none⟩)] ∧ w.heap[g]? = some (.cells arr t (0, 0)) ∧ d.K w x arr.toList
  M := fun w base ok x cs => ∃ g arr, cs = [.pointer (some ⟨g, 0, none⟩)] ∧ ok g ∧ base ≤ g ∧ w.heap[g]? = some (.cells arr t (0, 0)) ∧ d.M w base (fun k => ok k ∧ k ≠ g) x arr.toList
  K_len := by
    rintro w x cs ⟨g, arr, rfl, _⟩
    rfl
  K_one := by
    rintro w x cs ⟨g, arr, rfl, _⟩ u hu
    rw [List.mem_singleton.1 hu]
    rfl
  K_below := by
    rintro w w1 x cs hb ⟨g, arr, rfl, hg, hK⟩
    exact ⟨g, arr, rfl, (hb.block g (blk_lt hg)).trans hg, d.K_below hb hK⟩
  K_of_M := by
    rintro w base ok x cs ⟨g, arr, rfl, _, _, hg, hM⟩
    exact ⟨g, arr, rfl, hg, d.K_of_M hM⟩
  M_mono := by
    rintro w base ok ok' x cs hok ⟨g, arr, rfl, h0, hb, hg, hM⟩
    exact ⟨g, arr, rfl, hok g h0, hb, hg, d.M_mono (fun k hk => ⟨hok k hk.1, hk.2⟩) hM⟩
  M_bound := by
    rintro w base ok x cs ⟨g, arr, rfl, h0, hb, hg, hM⟩
    refine ⟨g, arr, rfl, ⟨h0, hb, blk_lt hg, t, List.mem_cons_self, arr, hg⟩, hb, hg, d.M_mono ?_ (d.M_bound hM)⟩
    rintro k ⟨⟨h1, h2⟩, h3, h4, q, hq, hc⟩
    exact ⟨⟨h1, h3, h4, q, List.mem_cons_of_mem _ hq, hc⟩, h2⟩
  M_move := by
    rintro w w1 base ok x cs hm ⟨g, arr, rfl, h0, hb, hg, hM⟩
    exact ⟨g, arr, rfl, h0, hb, (hm g h0).trans hg, d.M_move (fun k hk => hm k hk.1) hM⟩
  M_lower := by
    rintro w base base' ok x cs hb ⟨g, arr, rfl, h0, hb0, hg, hM⟩
    exact ⟨g, arr, rfl, h0, Nat.le_trans hb hb0, hg, d.M_lower hb hM⟩
/-- A place of a slice of such pointers. -/
theorem at_ptr {α : Type} {t : Nat} {d : Kd α} {w : World} {A : Option Addr} {n : Nat} {xs : List α} (h : (ptr t d).C w A n xs) (j : Nat) (hj : j < xs.length) :
    ∃ ad g arr, A = some ad ∧ w.cell? (ad.add j) = some (.pointer (some ⟨g, 0, none⟩)) ∧ w.heap[g]? = some (.cells arr t (0, 0)) ∧ d.K w xs[j] arr.toList := by
  obtain ⟨h1, h2, h3⟩ := h
  obtain ⟨ad, rfl, hc⟩ := h3 (by omega)
  obtain ⟨c, hl, ⟨g, arr, rfl, hg, hK⟩, hcell⟩ := hc j _ (List.getElem?_eq_getElem hj)
  refine ⟨ad, g, arr, rfl, ?_, hg, hK⟩
  have := hcell 0 _ rfl
  rwa [show j * (ptr t d).sz + 0 = j from by show j * 1 + 0 = j; omega] at this
/-- A place of a row of such pointers of the call's own. -/
theorem at_ptrM {α : Type} {t : Nat} {d : Kd α} {e : Nat} {w : World} {base : Nat} {ok : Nat → Prop} {v : Value} {xs : List α} (h : (ptr t d).R e w base ok v xs) (j : Nat) (hj : j < xs.length) :
    ∃ ad c g arr, v = .slice (some ad) xs.length c ∧ xs.length ≤ c ∧ w.cell? (ad.add j) = some (.pointer (some ⟨g, 0, none⟩)) ∧ ok g ∧ base ≤ g ∧ w.heap[g]? = some (.cells arr t (0, 0)) ∧ d.M w base (fun k => (ok k ∧ some k ≠ v.ownBlock) ∧ k ≠ g) xs[j] arr.toList := by
  obtain ⟨A', c', hv', hc', _⟩ := Kd.R_reads h
  obtain ⟨h0, inner, ho, hr⟩ := h
  obtain ⟨A, c, hv, h1, h2, h3⟩ := own_reads_row ho hr rfl
  obtain ⟨ad, rfl, hc⟩ := h3 (by omega)
  obtain ⟨cc, hl, ⟨g, arr, rfl, hok, hb, hg, hM⟩, hcell⟩ := hc j _ (List.getElem?_eq_getElem hj)
  have hcc : xs.length ≤ c := by
    rw [hv] at hv'
    injection hv' with _ _ e
    omega
  refine ⟨ad, c, g, arr, hv, hcc, ?_, hok.1, hb, hg, hM⟩
  have := hcell 0 _ rfl
  rwa [show j * (ptr t d).sz + 0 = j from by show j * 1 + 0 = j; omega] at this
/-- The last element of a list that is so. -/
def lastD {α : Type} (p : α → Bool) (d : α) (l : List α) : α := ((l.filter p).getLast?).getD d
theorem lastD_at {α : Type} {p : α → Bool} {d : α} {l : List α} {j : Nat} (hj : j < l.length) (h1 : p l[j] = true) (h2 : ∀ o ∈ l.drop (j + 1), p o = false) : lastD p d l = l[j] := by
  have e : l = l.take j ++ (l[j] :: l.drop (j + 1)) := by rw [← List.drop_eq_getElem_cons hj, List.take_append_drop]
  have hf : l.filter p = (l.take j).filter p ++ [l[j]] := by
    conv => lhs; rw [e]
    have h3 : (l.drop (j + 1)).filter p = [] := List.filter_eq_nil_iff.2 (fun o ho => by simp [h2 o ho])
    rw [List.filter_append, List.filter_cons, if_pos h1, h3]
  unfold lastD
  rw [hf]
  simp
theorem lastD_none {α : Type} {p : α → Bool} {d : α} {l : List α} (h : ∀ o ∈ l, p o = false) : lastD p d l = d := by
  unfold lastD
  rw [List.filter_eq_nil_iff.2 (fun o ho => by simp [h o ho])]; rfl
theorem drop_no {α : Type} {p : α → Bool} {l : List α} {j : Nat} (hj : j < l.length) (h1 : p l[j] = false) (h2 : ∀ o ∈ l.drop (j + 1), p o = false) : ∀ o ∈ l.drop j, p o = false := by
  intro o ho
  rw [List.drop_eq_getElem_cons hj] at ho
  rcases List.mem_cons.1 ho with rfl | ho
  · exact h1
  · exact h2 o ho
/-- An append of one element as a step of a region whose other way is whatever it is. -/
theorem append_E {P : Program} {ops : Array Oper} {o : Oper} {a : Act} {Q : Exit → Act → World → Prop} {Kc : Act → World → Prop} {E : Prop} {α : Type} (d : Kd α) {w0 W : World} (base : Nat) (hgd : o.guard = none) (s x : Operand) (t e : TypeId) (z : Value) (bytes : Nat)
    (ho : o.op = .call { callee := .builtin .append, args := #[s, x], argTypes := #[t, t] })
    (ht : P.underlying t = some (.slice e)) (hinfo : (P.info? e).map (fun i => (i.zero, i.size, i.bytes)) = some (some z, d.sz, bytes)) (hz : z.cells.size = d.sz) (hs0 : 0 < d.sz) (hb0 : 0 < bytes)
    (v : Value) (xs : List α) (p : α) (cs : List Value) (ok okp : Nat → Prop) (hs : a.eval s = v) (hx : a.eval x = .slice (some ⟨W.heap.size, 0, none⟩) 1 1) (hp : d.M W base okp p cs) (hokp : ∀ k, okp k → ok k ∧ some k ≠ v.ownBlock) (hfresh : ∀ k, W.heap.size ≤ k → ok k)
    (HO : d.R e W base ok v xs) (HB : Below base w0 W) (hbase : base ≤ W.heap.size) (hl : (xs.length + 1) * bytes ≤ 140737488355328)
    (h : ∀ v1 w1, d.R e w1 base ok v1 (xs ++ [p]) → Below base w0 w1 → W.grownBy w1 v.ownBlock → (v1.ownBlock = v.ownBlock ∨ ∃ b, v1.ownBlock = some b ∧ W.heap.size ≤ b) → Kc (a.put o.dst v1) w1) :
    if Region.wanted o (yielded ops a.tmps) = true then Oper.wp P o a (W.alloc (.cells cs.toArray e)) Kc Q else E := by
  have hw : Region.wanted o (yielded ops a.tmps) = true := by simp [Region.wanted, hgd]
  have := Kd.R_append_step d (Q := Q) base hw s x t e z bytes ho ht hinfo hz hs0 hb0 v xs p cs ok okp hs hx hp hokp hfresh HO HB hbase hl h
  rw [if_pos hw] at this
  rw [if_pos hw]
  exact this
end Go.Proofs.YtdelomacpmpgoaaDoor.ptr
