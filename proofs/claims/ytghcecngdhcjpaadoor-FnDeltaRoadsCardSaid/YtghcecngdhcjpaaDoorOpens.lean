/- What an argument reads as: from the row's reading of a value to the kinds (Kd) in which the printed contracts speak. No condition of its own. -/
import Derived.Test.YtghcecngdhcjpaaDoorWWords
import Derived.ProofKit
namespace Go.Proofs.YtghcecngdhcjpaaDoor.opens
open Go.Proofs.YtghcecngdhcjpaaDoorW.PrintWords
variable {P : Program}
/-- Whatever reads at type t is of the kind d, and good. -/
def Opens {α : Type} (P : Program) (t : TypeId) (d : Kd α) (G : α → Prop) : Prop :=
  ∀ {H : Type} (enc : TypeId × Value → H) (w : World) (fuel : Nat) (cs : List Value) (y : DataW H × List MemPlace), DataW.trod enc P w 0 (fun _ => true) true fuel t cs = some y → ∃ x, d.K w x cs ∧ G x
theorem int_ {t : TypeId} {k : IntKind} (hu : P.underlying t = some (.int k)) : Opens P t (Kd.int k) (fun n => (Lit.int k n).wf = true) := by
  intro H enc w fuel cs y h
  obtain ⟨n, rfl, _, hw⟩ := DataW.trod_int hu h
  exact ⟨n, rfl, hw⟩
theorem bool_ {t : TypeId} (hu : P.underlying t = some .bool) : Opens P t Kd.bool (fun _ => True) := by
  intro H enc w fuel cs y h
  obtain ⟨b, rfl, _⟩ := DataW.trod_bool hu h
  exact ⟨b, rfl, trivial⟩
theorem string_ {t : TypeId} (hu : P.underlying t = some .string) : Opens P t Kd.string (fun s => s.size ≤ maxLen) := by
  intro H enc w fuel cs y h
  obtain ⟨s, rfl, _, hs⟩ := DataW.trod_string hu h
  exact ⟨s, rfl, hs⟩
theorem add_add (a : Addr) (i j : Nat) : (a.add i).add j = a.add (i + j) := by
  obtain ⟨b, o, s⟩ := a
  unfold Addr.add
  by_cases hi : i = 0 <;> by_cases hj : j = 0 <;> simp [hi, hj, Nat.add_assoc]
theorem cells_some {w : World} {a : Addr} {n : Nat} {cs : List Value} (h : w.cells? 0 a n = some cs) : cs.length = n ∧ ∀ (i : Nat) (u : Value), cs[i]? = some u → w.cell? (a.add i) = some u := by
  unfold World.cells? at h
  rw [if_pos (Nat.zero_le _)] at h
  have key : ∀ (l : List Nat) (cs : List Value), l.mapM (fun i => w.cell? (a.add i)) = some cs → cs.length = l.length ∧ ∀ (i : Nat) (u : Value), cs[i]? = some u → ∃ k, l[i]? = some k ∧ w.cell? (a.add k) = some u := by
    intro l
    induction l with
    | nil => intro cs h; simp at h; subst h; exact ⟨rfl, fun i u h => by simp at h⟩
    | cons k l ih =>
      intro cs h
      simp only [List.mapM_cons, Option.bind_eq_bind, Option.bind_eq_some_iff, Option.pure_def, Option.some.injEq] at h
      obtain ⟨u, hu, r, hr, rfl⟩ := h
      obtain ⟨h1, h2⟩ := ih r hr
      refine ⟨by simp [h1], fun i v hi => ?_⟩
      cases i with
      | zero => simp at hi; subst hi; exact ⟨k, rfl, hu⟩
      | succ i => simpa using h2 i v (by simpa using hi)
  obtain ⟨h1, h2⟩ := key _ _ h
  refine ⟨by simpa using h1, fun i u hi => ?_⟩
  obtain ⟨k, hk, hc⟩ := h2 i u hi
  have hlt : i < n := by
    have := (List.getElem?_eq_some_iff.1 hi).1
    simp at h1; omega
  rw [List.getElem?_range hlt] at hk
  cases hk
  exact hc
/-- A list out of what is known place by place. -/
theorem choose_list {α : Type} {R : Nat → α → Prop} (n : Nat) (h : ∀ i, i < n → ∃ x, R i x) : ∃ xs : List α, xs.length = n ∧ ∀ (i : Nat) (x : α), xs[i]? = some x → R i x := by
  induction n with
  | zero => exact ⟨[], rfl, fun i x h => by simp at h⟩
  | succ n ih =>
    obtain ⟨xs, h1, h2⟩ := ih (fun i hi => h i (by omega))
    obtain ⟨x, hx⟩ := h n (by omega)
    refine ⟨xs ++ [x], by simp [h1], fun i y hy => ?_⟩
    by_cases hi : i < n
    · rw [List.getElem?_append_left (by omega)] at hy
      exact h2 i y hy
    · have hl := (List.getElem?_eq_some_iff.1 hy).1
      simp at hl
      obtain rfl : i = n := by omega
      rw [List.getElem?_append_right (by omega)] at hy
      simp [h1] at hy
      subst hy
      exact hx
theorem slice_ {α : Type} {t e : TypeId} {d : Kd α} {G : α → Prop} (hu : P.underlying t = some (.slice e)) (hs : P.cellsOf e = d.sz) (he : Opens P e d G) :
    Opens P t (Kd.slice e d) (fun xs => (∀ x ∈ xs, G x) ∧ xs.length ≤ maxLen) := by
  intro H enc w fuel cs y h
  rcases DataW.trod_slice hu h with ⟨rfl, _⟩ | ⟨a, len, cap, elems, rest, n, _, rfl, _, _, hlc, hcm, hel, hE, _⟩
  · exact ⟨[], ⟨none, 0, rfl, Nat.le_refl _, rfl, Nat.zero_le _, fun h => by cases h⟩, (fun x h => by cases h), Nat.zero_le _⟩
  · obtain ⟨xs, hx1, hx2⟩ := choose_list (R := fun i (x : α) => ∃ ci, w.cells? 0 (a.add (i * d.sz)) d.sz = some ci ∧ d.K w x ci ∧ G x) len (by
      intro i hi
      have h1 := hE i hi
      rw [hs, List.getElem?_eq_getElem (by omega)] at h1
      obtain ⟨ci, h2, h3⟩ := Option.bind_eq_some_iff.1 h1
      obtain ⟨x, hk, hg⟩ := he enc w n ci _ h3
      exact ⟨x, ci, h2, hk, hg⟩)
    subst hx1
    refine ⟨xs, ⟨some a, cap, rfl, hlc, rfl, ?_, fun _ => ⟨a, rfl, ?_⟩⟩, ?_, by omega⟩
    · unfold maxLen at hcm; omega
    · intro j p hj
      obtain ⟨ci, hci, hk, _⟩ := hx2 j p hj
      obtain ⟨h1, h2⟩ := cells_some hci
      exact ⟨ci, h1, hk, fun i u hi => by rw [← add_add]; exact h2 i u hi⟩
    · intro x hx
      obtain ⟨i, hi, rfl⟩ := List.getElem_of_mem hx
      obtain ⟨_, _, _, hg⟩ := hx2 i _ (List.getElem?_eq_getElem hi)
      exact hg
/-- Some fields in line, from offset o on to the end. -/
def OpensF {α : Type} (P : Program) (fs : List Field) (o : Nat) (d : Kd α) (G : α → Prop) : Prop :=
  ∀ {H : Type} (enc : TypeId × Value → H) (w : World) (fuel : Nat) (cs : List Value), (∀ f ∈ fs, ∃ y, DataW.trod enc P w 0 (fun _ => true) true fuel f.type ((cs.drop f.offset).take (P.cellsOf f.type)) = some y) → cs.length = o + d.sz → ∃ x, d.K w x (cs.drop o) ∧ G x
theorem one_ {α : Type} {f : Field} {o : Nat} {d : Kd α} {G : α → Prop} (ho : f.offset = o) (hs : P.cellsOf f.type = d.sz) (he : Opens P f.type d G) : OpensF P [f] o d G := by
  intro H enc w fuel cs h hl
  obtain ⟨y, hy⟩ := h f List.mem_cons_self
  rw [ho, hs, List.take_of_length_le (by rw [List.length_drop]; omega)] at hy
  exact he enc w fuel _ y hy
theorem cons_ {α β : Type} {f : Field} {fs : List Field} {o o' : Nat} {d : Kd α} {d' : Kd β} {G : α → Prop} {G' : β → Prop} (ho : f.offset = o) (hs : P.cellsOf f.type = d.sz) (ho' : o + d.sz = o') (he : Opens P f.type d G) (hr : OpensF P fs o' d' G') :
    OpensF P (f :: fs) o (Kd.pair d d') (fun x => G x.1 ∧ G' x.2) := by
  intro H enc w fuel cs h hl
  obtain ⟨y, hy⟩ := h f List.mem_cons_self
  rw [ho, hs] at hy
  obtain ⟨x, hx, hg⟩ := he enc w fuel _ y hy
  have hl' : cs.length = o + (d.sz + d'.sz) := hl
  obtain ⟨x', hx', hg'⟩ := hr enc w fuel cs (fun f' hf => h f' (List.mem_cons_of_mem _ hf)) (by omega)
  refine ⟨(x, x'), ⟨(cs.drop o).take d.sz, cs.drop o', ?_, hx, hx'⟩, hg, hg'⟩
  rw [← ho', ← List.drop_drop]
  exact (List.take_append_drop _ _).symm
theorem struct_ {α : Type} {t : TypeId} {fs : Array Field} {d : Kd α} {G : α → Prop} (hu : P.underlying t = some (.struct fs)) (hs : P.cellsOf t = d.sz) (hf : OpensF P fs.toList 0 d G) : Opens P t d G := by
  intro H enc w fuel cs y h
  obtain ⟨xs, n, _, _, hl, hlen, hE⟩ := DataW.trod_struct hu h
  refine hf enc w n cs (fun f hm => ?_) (by omega)
  obtain ⟨i, hi, rfl⟩ := List.getElem_of_mem hm
  have hi' : i < fs.size := by simpa using hi
  have h1 := hE i _ (Array.getElem?_eq_getElem hi')
  rw [List.getElem?_eq_getElem (by omega)] at h1
  exact ⟨_, by simpa using h1⟩
theorem iso_ {α β : Type} {t : TypeId} {d : Kd α} {G : α → Prop} {f : β → α} (g : α → β) (hfg : ∀ x, f (g x) = x) (h : Opens P t d G) : Opens P t (Kd.iso d f) (fun b => G (f b)) := by
  intro H enc w fuel cs y hy
  obtain ⟨x, hx, hg⟩ := h enc w fuel cs y hy
  exact ⟨g x, show d.K w (f (g x)) cs by rw [hfg]; exact hx, show G (f (g x)) by rw [hfg]; exact hg⟩
/-- An argument that is a slice: its value, its reading as a row, its elements. -/
theorem slice_arg {α : Type} {t e : TypeId} {d : Kd α} {G : α → Prop} (hu : P.underlying t = some (.slice e)) (hs : P.cellsOf e = d.sz) (he : Opens P e d G) {H : Type} {enc : TypeId × Value → H} {w : World} {v : Value} {dd : DataW H} {ps : List MemPlace} {a : Option Addr} {l c : Nat} (hv : v = .slice a l c)
    (h : DataW.Trod enc P w 0 (fun _ => true) true t v dd ps) : ∃ xs : List α, xs.length = l ∧ l ≤ c ∧ d.C w a xs.length xs ∧ (∀ x ∈ xs, G x) ∧ xs.length ≤ maxLen := by
  subst hv
  obtain ⟨fuel, h⟩ := h
  obtain ⟨xs, ⟨A, c', h1, h2, h3⟩, h4, h5⟩ := slice_ hu hs he enc w fuel _ _ h
  simp [Value.cells] at h1
  obtain ⟨rfl, rfl, rfl⟩ := h1
  exact ⟨xs, rfl, h2, h3, h4, h5⟩
end Go.Proofs.YtghcecngdhcjpaaDoor.opens
