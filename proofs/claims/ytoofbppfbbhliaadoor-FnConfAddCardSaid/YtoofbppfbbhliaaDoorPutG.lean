/- config, plain law: sections that are right; their options. No program in sight. -/
import Derived.Test.YtoofbppfbbhliaaDoorPutF
namespace Go.Proofs.YtoofbppfbbhliaaDoor.confP
open Go.RowKit Go.Proofs.YtoofbppfbbhliaaDoorW.PrintWords Go.Proofs.YtoofbppfbbhliaaDoorW.PrintLast Go.Proofs.YtoofbppfbbhliaaDoorW.PrintMore Go.Proofs.YtoofbppfbbhliaaDoor.PFnConfAdd Go.Proofs.YtoofbppfbbhliaaDoor.ptr
set_option linter.unusedVariables false
set_option linter.unusedSimpArgs false
set_option maxHeartbeats 1000000
set_option maxRecDepth 100000
theorem sec0 (l : List S71) (hl : FSecs l) : ∀ (m j : Nat), j + m = l.length → Says (fun k => spec_AreSections.l0 k l l (l.length : Int) (j : Int)) (SecOK l j)
  | 0, j, e => Says.step (f := fun _ => some (decide ((l.length : Int) ≤ 100))) (fun k => by have := hl.1; rw [spec_AreSections.l0, if_neg (by omega)]) (Says.now _ (fun _ j' h' hle => by omega))
  | m + 1, j, e => by
    have := hl.1
    have hj : j < l.length := by omega
    have hF := hl.2 _ (List.getElem_mem hj)
    have ih := sec0 l hl m (j + 1) (by omega)
    obtain ⟨b1, hb1, hw1⟩ := word_says _ hF.1
    obtain ⟨b2, hb2, hw2⟩ := opts_says _ hF.2.1
    have key : ∀ k, spec_AreSections.l0 (k + 1) l l (l.length : Int) (j : Int) = (spec_IsConfWord.f k l[j].f0).bind fun t => if t = true then (spec_areOptions.f k l[j].f1).bind fun t2 => spec_AreSections.j1 k l (j : Int) l (l.length : Int) (j : Int) (!t2) l[j].f0 l[j].f1 l[j].f2 else spec_AreSections.j1 k l (j : Int) l (l.length : Int) (j : Int) true l[j].f0 l[j].f1 l[j].f2 := fun k => by
      rw [spec_AreSections.l0, if_pos (by omega), if_pos (by omega), if_pos (by omega), rdS hj]
    have no : Ev (fun k => spec_AreSections.j1 k l (j : Int) l (l.length : Int) (j : Int) true l[j].f0 l[j].f1 l[j].f2) false := Ev.step (f := fun _ => some false) (fun k => by rw [spec_AreSections.j1, if_pos rfl]) (Ev.now false)
    cases b1 with
    | false => exact ⟨false, Ev.step key (Ev.bind (f := fun k t => if t = true then (spec_areOptions.f k l[j].f1).bind fun t2 => spec_AreSections.j1 k l (j : Int) l (l.length : Int) (j : Int) (!t2) l[j].f0 l[j].f1 l[j].f2 else spec_AreSections.j1 k l (j : Int) l (l.length : Int) (j : Int) true l[j].f0 l[j].f1 l[j].f2) hb1 (Ev.congr (fun k => if_neg (by decide)) no)), fun h => by cases h⟩
    | true =>
      cases b2 with
      | false => exact ⟨false, Ev.step key (Ev.bind (f := fun k t => if t = true then (spec_areOptions.f k l[j].f1).bind fun t2 => spec_AreSections.j1 k l (j : Int) l (l.length : Int) (j : Int) (!t2) l[j].f0 l[j].f1 l[j].f2 else spec_AreSections.j1 k l (j : Int) l (l.length : Int) (j : Int) true l[j].f0 l[j].f1 l[j].f2) hb1 (Ev.congr (fun k => if_pos rfl) (Ev.bind (f := fun k t2 => spec_AreSections.j1 k l (j : Int) l (l.length : Int) (j : Int) (!t2) l[j].f0 l[j].f1 l[j].f2) hb2 no))), fun h => by cases h⟩
      | true =>
        have h2s := sec2 l j (by omega) l[j] hF.2.2 ih l[j].f2.length 0 (by omega)
        obtain ⟨b3, hb3, hw3⟩ := sec1 l j l[j] (l.take j) (by rw [List.length_take]; omega) h2s (l.take j).length 0 (by omega)
        have yes : Ev (fun k => spec_AreSections.j1 k l (j : Int) l (l.length : Int) (j : Int) (!true) l[j].f0 l[j].f1 l[j].f2) b3 := Ev.step (fun k => by rw [spec_AreSections.j1, if_neg (by decide), if_pos (by omega), if_pos (by omega)]; simp only [Option.bind_some, Int.toNat_natCast]; rfl) hb3
        refine ⟨b3, Ev.step key (Ev.bind (f := fun k t => if t = true then (spec_areOptions.f k l[j].f1).bind fun t2 => spec_AreSections.j1 k l (j : Int) l (l.length : Int) (j : Int) (!t2) l[j].f0 l[j].f1 l[j].f2 else spec_AreSections.j1 k l (j : Int) l (l.length : Int) (j : Int) true l[j].f0 l[j].f1 l[j].f2) hb1 (Ev.congr (fun k => if_pos rfl) (Ev.bind (f := fun k t2 => spec_AreSections.j1 k l (j : Int) l (l.length : Int) (j : Int) (!t2) l[j].f0 l[j].f1 l[j].f2) hb2 yes))), fun h => ?_⟩
        obtain ⟨h1, h2, h3⟩ := hw3 h
        intro j' h' hle
        by_cases ej : j' = j
        · subst ej
          exact ⟨(hw1 rfl).1, hw2 rfl, h2, by simpa using h1⟩
        · exact h3 j' h' (by omega)
theorem secs_says (l : List S71) (hl : FSecs l) : Says (fun k => spec_AreSections.f k l) (SecOK l 0) := sec0 l hl l.length 0 (by omega)
/-- What cfAre tells. -/
theorem are_says (l : List S71) (hl : FSecs l) (section_ sub key value : ByteArray) (h1 : section_.size ≤ 2147483647) (h2 : sub.size ≤ 2147483647) (h3 : key.size ≤ 2147483647) (h4 : value.size ≤ 2147483647) :
    Says (fun k => laws_cfAre.f k l section_ sub key value) (SecOK l 0 ∧ Word section_ ∧ Word key) := by
  have hv := value_says value h4
  have hv' : ∀ {p : Prop}, p → Says (fun n => (spec_IsValue.f n value).bind fun t => some t) p := fun hp => Says.congr (f := fun n => spec_IsValue.f n value) (fun k => by show (spec_IsValue.f k value).bind _ = _; cases spec_IsValue.f k value <;> rfl) (hv.imp fun _ => hp)
  have hk := word_says key h3
  by_cases he : sub.toList = []
  · refine Says.congr (fun k => by rw [laws_cfAre.f]; simp only [if_pos he]) ((secs_says l hl).bind fun hs => (word_says section_ h1).bind fun hw => hk.bind fun hkk => hv' ⟨hs, hw.1, hkk.1⟩)
  · refine Says.congr (fun k => by rw [laws_cfAre.f]; simp only [if_neg he]) ((secs_says l hl).bind fun hs => (word_says section_ h1).bind fun hw => (word_says sub h2).bind fun _ => hk.bind fun hkk => hv' ⟨hs, hw.1, hkk.1⟩)
/-! ### The option of which is spoken -/
/-- The options of a section, or of a part of it, as the specification finds them. -/
def specOpts (section_ sub : ByteArray) : List S71 → List S112
  | [] => []
  | s :: r => if eqB s.f0 section_ = true then (if sub.toList = [] then s.f1 else match s.f2.find? (fun x => eqB x.f0 sub) with | some x => x.f1 | none => specOpts section_ sub r) else specOpts section_ sub r
theorem eqB_iff {a b : ByteArray} : eqB a b = true ↔ a.toList = b.toList := beq_iff_eq
theorem eqB_tr {a b c : ByteArray} (h1 : eqB a c = true) (h2 : eqB b c = true) : eqB a b = true := eqB_iff.2 ((eqB_iff.1 h1).trans (eqB_iff.1 h2).symm)
theorem specOpts_none {section_ sub : ByteArray} : ∀ {l : List S71}, (∀ s ∈ l, eqB s.f0 section_ = false) → specOpts section_ sub l = []
  | [], _ => rfl
  | s :: r, h => by
    rw [specOpts, if_neg (by rw [h s (by simp)]; decide)]
    exact specOpts_none (fun x hx => h x (by simp [hx]))
theorem find_last {u : List S115} (hu : SubOK u 0) (n : ByteArray) : subOf u n = ((u.find? fun x => eqB x.f0 n).getD ⟨n, []⟩) := by
  cases h : u.find? fun x => eqB x.f0 n with
  | none =>
    unfold subOf
    rw [lastD_none (fun o ho => by have := List.find?_eq_none.1 h o ho; simpa using this)]; rfl
  | some x =>
    obtain ⟨hx1, i, hi, hxi, hx2⟩ := List.find?_eq_some_iff_getElem.1 h
    subst hxi
    show subOf u n = u[i]
    refine lastD_at (p := fun s => eqB s.f0 n) hi hx1 (fun o ho => ?_)
    obtain ⟨k, hk, rfl⟩ := List.getElem_of_mem ho
    rw [List.length_drop] at hk
    rw [List.getElem_drop]
    have h1 := (hu (i + 1 + k) (by omega) (Nat.zero_le _)).2 u[i] (List.mem_take_iff_getElem.2 ⟨i, by omega, rfl⟩)
    cases h2 : eqB u[i + 1 + k].f0 n with
    | false => rfl
    | true => rw [eqB_tr hx1 h2] at h1; cases h1
theorem specOpts_at {section_ sub : ByteArray} : ∀ {l : List S71}, SecOK l 0 → specOpts section_ sub l = optsOf l section_ sub := by
  intro l hl
  have key : ∀ (m j : Nat), j + m = l.length → (∀ s ∈ l.take j, eqB s.f0 section_ = false) → specOpts section_ sub (l.drop j) = optsOf l section_ sub := by
    intro m
    induction m with
    | zero =>
      intro j hj hn
      rw [List.drop_of_length_le (by omega)]
      rw [List.take_of_length_le (by omega)] at hn
      have e : secOf l section_ = ⟨section_, [], []⟩ := lastD_none (p := fun s : S71 => eqB s.f0 section_) hn
      unfold optsOf
      rw [e]
      split
      · rfl
      · rfl
    | succ m ih =>
      intro j hj hn
      have hjl : j < l.length := by omega
      rw [List.drop_eq_getElem_cons hjl, specOpts]
      by_cases h1 : eqB l[j].f0 section_ = true
      · have hno : ∀ o ∈ l.drop (j + 1), eqB o.f0 section_ = false := by
          intro o ho
          obtain ⟨k, hk, rfl⟩ := List.getElem_of_mem ho
          rw [List.length_drop] at hk
          rw [List.getElem_drop]
          have h3 := (hl (j + 1 + k) (by omega) (Nat.zero_le _)).2.2.2 l[j] (List.mem_take_iff_getElem.2 ⟨j, by omega, rfl⟩)
          cases h2 : eqB l[j + 1 + k].f0 section_ with
          | false => rfl
          | true => rw [eqB_tr h1 h2] at h3; cases h3
        have e : secOf l section_ = l[j] := lastD_at (p := fun s : S71 => eqB s.f0 section_) hjl h1 hno
        rw [if_pos h1]
        unfold optsOf
        rw [e]
        split
        · rfl
        · rw [find_last (hl j hjl (Nat.zero_le _)).2.2.1, specOpts_none hno]
          cases l[j].f2.find? (fun x => eqB x.f0 sub) <;> rfl
      · rw [if_neg h1]
        refine ih (j + 1) (by omega) (fun s hs => ?_)
        rw [take_snoc hjl] at hs
        rcases List.mem_append.1 hs with hs | hs
        · exact hn s hs
        · rw [List.mem_singleton.1 hs]; simpa using h1
  simpa using key l.length 0 (by omega) (fun s hs => by simp at hs)
theorem SecOK.words {l : List S71} (h : SecOK l 0) : Words l := by
  intro s hs
  obtain ⟨j, hj, rfl⟩ := List.getElem_of_mem hs
  obtain ⟨h1, h2, h3, _⟩ := h j hj (Nat.zero_le _)
  refine ⟨h1, h2, fun x hx => ?_⟩
  obtain ⟨i, hi, rfl⟩ := List.getElem_of_mem hx
  exact (h3 i hi (Nat.zero_le _)).1
/-! ### Values -/
theorem values_l0 (l : List S112) (key : ByteArray) (hl : l.length ≤ 4294967295) : ∀ (m j k : Nat), j + m = l.length → m < k → spec_Values.l0 k key (allVals (l.take j) key) l (l.length : Int) (j : Int) = some (allVals l key)
  | 0, j, k, h, hk => by
    obtain ⟨k, rfl⟩ : ∃ k', k = k' + 1 := ⟨k - 1, by omega⟩
    rw [spec_Values.l0, if_neg (by omega), List.take_of_length_le (by omega)]
  | m + 1, j, k, h, hk => by
    obtain ⟨k, rfl⟩ : ∃ k', k = k' + 1 := ⟨k - 1, by omega⟩
    have hj : j < l.length := by omega
    have hlen := allVals_len (l.take j) key
    rw [List.length_take] at hlen
    have ih := values_l0 l key hl m (j + 1) k (by omega) (by omega)
    rw [allVals_step hj] at ih
    rw [spec_Values.l0, if_pos (by omega), if_pos (by omega), if_pos (by omega), rdO hj, wi (by omega)]
    by_cases he : l[j].f0.toList = key.toList
    · rw [if_pos (eqB_iff.2 he)] at ih
      rw [if_pos he, if_pos (by omega)]; exact ih
    · rw [if_neg (by rw [eqB_neg he]; decide)] at ih
      rw [if_neg he]; exact ih
theorem values_f (l : List S112) (key : ByteArray) (hl : l.length ≤ 4294967295) : spec_Values.f (l.length + 1) l key = some (allVals l key) := values_l0 l key hl l.length 0 (l.length + 1) (by omega) (by omega)
theorem same_l0 (a : List ByteArray) (hl : a.length ≤ 4294967295) : ∀ (m j k : Nat), j + m = a.length → m < k → spec_SameValues.l0 k a a (a.length : Int) (j : Int) = some true
  | 0, j, k, h, hk => by
    obtain ⟨k, rfl⟩ : ∃ k', k = k' + 1 := ⟨k - 1, by omega⟩
    rw [spec_SameValues.l0, if_neg (by omega)]
  | m + 1, j, k, h, hk => by
    obtain ⟨k, rfl⟩ : ∃ k', k = k' + 1 := ⟨k - 1, by omega⟩
    rw [spec_SameValues.l0, if_pos (by omega), if_pos (by omega), if_pos (by omega), if_pos (by omega), if_pos rfl, wi (by omega)]
    exact same_l0 a hl m (j + 1) k (by omega) (by omega)
theorem same_f (a : List ByteArray) (hl : a.length ≤ 4294967295) : spec_SameValues.f (a.length + 1) a a = some true := by
  rw [spec_SameValues.f, if_pos rfl]
  exact same_l0 a hl a.length 0 (a.length + 1) (by omega) (by omega)
theorem lastVal_of (l : List S112) (key : ByteArray) : lastVal l key = ((allVals l key).getLast?).getD ⟨#[]⟩ := by
  unfold lastVal allVals
  rw [List.getLast?_map]
end Go.Proofs.YtoofbppfbbhliaaDoor.confP
