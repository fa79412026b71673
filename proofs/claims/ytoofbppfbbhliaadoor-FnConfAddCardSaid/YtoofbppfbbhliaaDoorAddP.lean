/- config, plain law: a value that has been added stands behind the others. No program in sight. -/
import Derived.Test.YtoofbppfbbhliaaDoorPutZ
import Derived.Test.YtoofbppfbbhliaaDoorPutI
namespace Go.Proofs.YtoofbppfbbhliaaDoor.confP
open Go.RowKit Go.Proofs.YtoofbppfbbhliaaDoorW.PrintWords Go.Proofs.YtoofbppfbbhliaaDoorW.PrintLast Go.Proofs.YtoofbppfbbhliaaDoorW.PrintMore Go.Proofs.YtoofbppfbbhliaaDoor.PFnConfAdd Go.Proofs.YtoofbppfbbhliaaDoor.ptr
set_option linter.unusedVariables false
set_option linter.unusedSimpArgs false
set_option maxHeartbeats 1000000
set_option maxRecDepth 100000
theorem Placed.last {α : Type} {p : α → Bool} {d : α} {l l' : List α} {j : Nat} (h : Placed p d l l' j) (hj : j < l'.length) : lastD p d l = l'[j] := by
  rcases h with ⟨rfl, h, h1, h2⟩ | ⟨rfl, rfl, h1⟩
  · exact lastD_at h h1 h2
  · rw [lastD_none h1]; simp
theorem Placed.put {α : Type} {p : α → Bool} {d : α} {l l' : List α} {j : Nat} (h : Placed p d l l' j) (x : α) (hx : p x = true) : lastD p d (l'.set j x) = x := by
  have hj := h.lt
  have hn : ∀ o ∈ l'.drop (j + 1), p o = false := by
    rcases h with ⟨rfl, _, _, h2⟩ | ⟨rfl, rfl, _⟩
    · exact h2
    · intro o ho; simp at ho
  rw [lastD_at (p := p) (l := l'.set j x) (j := j) (by simpa using hj) (by simpa using hx) (by rw [List.drop_set_of_lt (by omega)]; exact hn)]
  simp
theorem Placed.hit {α : Type} {p : α → Bool} {d : α} {l l' : List α} {j : Nat} (h : Placed p d l l' j) (hd : p d = true) (hj : j < l'.length) : p l'[j] = true := by
  rcases h with ⟨rfl, h, h1, _⟩ | ⟨rfl, rfl, _⟩
  · exact h1
  · simpa using hd
theorem Placed.each {α : Type} {p : α → Bool} {d : α} {l l' : List α} {j : Nat} (h : Placed p d l l' j) {q : α → Prop} (hl : ∀ x ∈ l, q x) (hd : q d) : ∀ x ∈ l', q x := by
  rcases h with ⟨rfl, _⟩ | ⟨rfl, _, _⟩
  · exact hl
  · intro x hx
    rcases List.mem_append.1 hx with hx | hx
    · exact hl x hx
    · rw [List.mem_singleton.1 hx]; exact hd
theorem Placed.count {α : Type} {p : α → Bool} {d : α} {l l' : List α} {j : Nat} (h : Placed p d l l' j) : l'.length ≤ l.length + 1 := by
  rcases h with ⟨rfl, _⟩ | ⟨rfl, _, _⟩
  · omega
  · simp
theorem set_each {α : Type} {l : List α} {j : Nat} {y : α} {q : α → Prop} (hl : ∀ x ∈ l, q x) (hy : q y) : ∀ x ∈ l.set j y, q x := by
  intro x hx
  rcases List.mem_or_eq_of_mem_set hx with h | h
  · exact hl x h
  · rw [h]; exact hy
theorem snoc_each {α : Type} {l : List α} {y : α} {q : α → Prop} (hl : ∀ x ∈ l, q x) (hy : q y) : ∀ x ∈ l ++ [y], q x := by
  intro x hx
  rcases List.mem_append.1 hx with hx | hx
  · exact hl x hx
  · rw [List.mem_singleton.1 hx]; exact hy
theorem eqB_self (a : ByteArray) : eqB a a = true := beq_self_eq_true _
/-- The options of which is spoken have one more. -/
theorem put_opts {l l2 : List S71} {name sub : ByteArray} {o : S112} (h : CfgPut l name sub o l2) : optsOf l2 name sub = optsOf l name sub ++ [o] := by
  unfold optsOf
  rcases h with ⟨hs, l', j, hP, hj, rfl⟩ | ⟨hs, l', j, hP, hj, f2, i, hQ, hi, rfl⟩
  · have hk : eqB l'[j].f0 name = true := hP.hit (eqB_self _) hj
    have e1 : secOf (l'.set j ⟨l'[j].f0, l'[j].f1 ++ [o], l'[j].f2⟩) name = ⟨l'[j].f0, l'[j].f1 ++ [o], l'[j].f2⟩ := hP.put _ hk
    have e2 : secOf l name = l'[j] := hP.last hj
    rw [if_pos hs, if_pos hs, e1, e2]
  · have hk : eqB l'[j].f0 name = true := hP.hit (eqB_self _) hj
    have hk2 : eqB f2[i].f0 sub = true := hQ.hit (eqB_self _) hi
    have e1 : secOf (l'.set j ⟨l'[j].f0, l'[j].f1, f2.set i ⟨f2[i].f0, f2[i].f1 ++ [o]⟩⟩) name = ⟨l'[j].f0, l'[j].f1, f2.set i ⟨f2[i].f0, f2[i].f1 ++ [o]⟩⟩ := hP.put _ hk
    have e2 : secOf l name = l'[j] := hP.last hj
    have e3 : subOf (f2.set i ⟨f2[i].f0, f2[i].f1 ++ [o]⟩) sub = ⟨f2[i].f0, f2[i].f1 ++ [o]⟩ := hQ.put _ hk2
    have e4 : subOf l'[j].f2 sub = f2[i] := hQ.last hi
    rw [if_neg hs, if_neg hs, e1, e2, e3, e4]
theorem put_words {l l2 : List S71} {name sub : ByteArray} {o : S112} (h : CfgPut l name sub o l2) (hw : Words l) (hn : Word name) (ho : Word o.f0) : Words l2 := by
  have hd : Word name ∧ (∀ o ∈ ([] : List S112), Word o.f0) ∧ ∀ x ∈ ([] : List S115), ∀ o ∈ x.f1, Word o.f0 := ⟨hn, fun o ho => (List.not_mem_nil ho).elim, fun x hx => (List.not_mem_nil hx).elim⟩
  rcases h with ⟨_, l', j, hP, hj, rfl⟩ | ⟨_, l', j, hP, hj, f2, i, hQ, hi, rfl⟩
  · have h1 : Words l' := hP.each hw hd
    have h2 := h1 _ (List.getElem_mem hj)
    exact set_each h1 ⟨h2.1, snoc_each h2.2.1 ho, h2.2.2⟩
  · have h1 : Words l' := hP.each hw hd
    have h2 := h1 _ (List.getElem_mem hj)
    have h3 : ∀ x ∈ f2, ∀ o ∈ x.f1, Word o.f0 := hQ.each h2.2.2 (fun o ho => (List.not_mem_nil ho).elim)
    exact set_each h1 ⟨h2.1, h2.2.1, set_each h3 (snoc_each (h3 _ (List.getElem_mem hi)) ho)⟩
/-- Lengths, one more each at most. -/
theorem put_fits {l l2 : List S71} {name sub : ByteArray} {o : S112} (h : CfgPut l name sub o l2) (hl : FSecs l) : Fits l2 := by
  have h0 : l.length ≤ 2147483647 := hl.1
  have hq : ∀ s ∈ l, s.f1.length ≤ 2147483647 ∧ s.f2.length ≤ 2147483647 ∧ ∀ x ∈ s.f2, x.f1.length ≤ 2147483647 := fun s hs => ⟨(hl.2 s hs).2.1.1, (hl.2 s hs).2.2.1, fun x hx => ((hl.2 s hs).2.2.2 x hx).2.1⟩
  have up : ∀ s : S71, (s.f1.length ≤ 2147483647 ∧ s.f2.length ≤ 2147483647 ∧ ∀ x ∈ s.f2, x.f1.length ≤ 2147483647) → s.f1.length ≤ 4294967295 ∧ s.f2.length ≤ 4294967295 ∧ ∀ x ∈ s.f2, x.f1.length ≤ 4294967295 := fun s h => ⟨Nat.le_trans h.1 (by decide), Nat.le_trans h.2.1 (by decide), fun x hx => Nat.le_trans (h.2.2 x hx) (by decide)⟩
  have hd : ([] : List S112).length ≤ 2147483647 ∧ ([] : List S115).length ≤ 2147483647 ∧ ∀ x ∈ ([] : List S115), x.f1.length ≤ 2147483647 := ⟨Nat.zero_le _, Nat.zero_le _, fun x hx => (List.not_mem_nil hx).elim⟩
  rcases h with ⟨_, l', j, hP, hj, rfl⟩ | ⟨_, l', j, hP, hj, f2, i, hQ, hi, rfl⟩
  · have hc := hP.count
    have h1 : ∀ s ∈ l', s.f1.length ≤ 2147483647 ∧ s.f2.length ≤ 2147483647 ∧ ∀ x ∈ s.f2, x.f1.length ≤ 2147483647 := hP.each hq hd
    have h2 := h1 _ (List.getElem_mem hj)
    refine ⟨by rw [List.length_set]; omega, set_each (fun s hs => up s (h1 s hs)) ⟨?_, Nat.le_trans h2.2.1 (by decide), fun x hx => Nat.le_trans (h2.2.2 x hx) (by decide)⟩⟩
    show (l'[j].f1 ++ [o]).length ≤ 4294967295
    rw [List.length_append, List.length_singleton]; have := h2.1; omega
  · have hc := hP.count
    have h1 : ∀ s ∈ l', s.f1.length ≤ 2147483647 ∧ s.f2.length ≤ 2147483647 ∧ ∀ x ∈ s.f2, x.f1.length ≤ 2147483647 := hP.each hq hd
    have h2 := h1 _ (List.getElem_mem hj)
    have hc2 := hQ.count
    have h3 : ∀ x ∈ f2, x.f1.length ≤ 2147483647 := hQ.each h2.2.2 (Nat.zero_le _)
    refine ⟨by rw [List.length_set]; omega, set_each (fun s hs => up s (h1 s hs)) ⟨Nat.le_trans h2.1 (by decide), ?_, set_each (fun x hx => Nat.le_trans (h3 x hx) (by decide)) ?_⟩⟩
    · show (f2.set i _).length ≤ 4294967295
      rw [List.length_set]; have := h2.2.1; omega
    · show (f2[i].f1 ++ [o]).length ≤ 4294967295
      rw [List.length_append, List.length_singleton]; have := h3 _ (List.getElem_mem hi); omega
theorem allVals_put (l : List S112) (key value : ByteArray) : allVals (l ++ [⟨key, value⟩]) key = allVals l key ++ [value] := by
  unfold allVals
  rw [List.filter_append, List.map_append, List.filter_cons, if_pos (eqB_self key)]
  rfl
end Go.Proofs.YtoofbppfbbhliaaDoor.confP
