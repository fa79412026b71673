/- config, plain law: sections that are right; their options. No program in sight. -/
import Derived.Test.YtoofbppfbbhliaaDoorDropF
namespace Go.Proofs.YtoofbppfbbhliaaDoor.confD
open Go.RowKit Go.Proofs.YtoofbppfbbhliaaDoorW.PrintWords Go.Proofs.YtoofbppfbbhliaaDoorW.PrintLast Go.Proofs.YtoofbppfbbhliaaDoorW.PrintMore Go.Proofs.YtoofbppfbbhliaaDoor.PFnConfDrop Go.Proofs.YtoofbppfbbhliaaDoor.ptr
set_option linter.unusedVariables false
set_option linter.unusedSimpArgs false
set_option maxHeartbeats 1000000
set_option maxRecDepth 100000
theorem sec0 (l : List S71) (hl : FSecs l) : ∀ (m j : Nat), j + m = l.length → Says (fun k => spec_AreSections.l0 k l l (l.length : Int) (j : Int)) (SecOK l j)
  | 0, j, e => Says.step (f := fun _ => some (decide ((l.length : Int) ≤ 100))) (fun k => by have := hl.1; rw [spec_AreSections.l0, if_neg (by omega)]) (Says.now _ (fun _ j' h' hle => by omega))
  | m + 1, j, e => by
    have := hl.1
    have hj : j < l.length := by omega
    have hF := hl.2 _ (List.getElem_mem hj)
    have ih := sec0 l hl m (j + 1) (by omega)
    obtain ⟨b1, hb1, hw1⟩ := word_says _ hF.1
    obtain ⟨b2, hb2, hw2⟩ := opts_says _ hF.2.1
    have key : ∀ k, spec_AreSections.l0 (k + 1) l l (l.length : Int) (j : Int) = (spec_IsConfWord.f k l[j].f0).bind fun t => if t = true then (spec_areOptions.f k l[j].f1).bind fun t2 => spec_AreSections.j1 k l (j : Int) l (l.length : Int) (j : Int) (!t2) l[j].f0 l[j].f1 l[j].f2 else spec_AreSections.j1 k l (j : Int) l (l.length : Int) (j : Int) true l[j].f0 l[j].f1 l[j].f2 := fun k => by
      rw [spec_AreSections.l0, if_pos (by omega), if_pos (by omega), if_pos (by omega), rdS hj]
    have no : Ev (fun k => spec_AreSections.j1 k l (j : Int) l (l.length : Int) (j : Int) true l[j].f0 l[j].f1 l[j].f2) false := Ev.step (f := fun _ => some false) (fun k => by rw [spec_AreSections.j1, if_pos rfl]) (Ev.now false)
    cases b1 with
    | false => exact ⟨false, Ev.step key (Ev.bind (f := fun k t => if t = true then (spec_areOptions.f k l[j].f1).bind fun t2 => spec_AreSections.j1 k l (j : Int) l (l.length : Int) (j : Int) (!t2) l[j].f0 l[j].f1 l[j].f2 else spec_AreSections.j1 k l (j : Int) l (l.length : Int) (j : Int) true l[j].f0 l[j].f1 l[j].f2) hb1 (Ev.congr (fun k => if_neg (by decide)) no)), fun h => by cases h⟩
    | true =>
      cases b2 with
      | false => exact ⟨false, Ev.step key (Ev.bind (f := fun k t => if t = true then (spec_areOptions.f k l[j].f1).bind fun t2 => spec_AreSections.j1 k l (j : Int) l (l.length : Int) (j : Int) (!t2) l[j].f0 l[j].f1 l[j].f2 else spec_AreSections.j1 k l (j : Int) l (l.length : Int) (j : Int) true l[j].f0 l[j].f1 l[j].f2) hb1 (Ev.congr (fun k => if_pos rfl) (Ev.bind (f := fun k t2 => spec_AreSections.j1 k l (j : Int) l (l.length : Int) (j : Int) (!t2) l[j].f0 l[j].f1 l[j].f2) hb2 no))), fun h => by cases h⟩
      | true =>
        have h2s := sec2 l j (by omega) l[j] hF.2.2 ih l[j].f2.length 0 (by omega)
        obtain ⟨b3, hb3, hw3⟩ := sec1 l j l[j] (l.take j) (by rw [List.length_take]; omega) h2s (l.take j).length 0 (by omega)
        have yes : Ev (fun k => spec_AreSections.j1 k l (j : Int) l (l.length : Int) (j : Int) (!true) l[j].f0 l[j].f1 l[j].f2) b3 := Ev.step (fun k => by rw [spec_AreSections.j1, if_neg (by decide), if_pos (by omega), if_pos (by omega)]; simp only [Option.bind_some, Int.toNat_natCast]; rfl) hb3
        refine ⟨b3, Ev.step key (Ev.bind (f := fun k t => if t = true then (spec_areOptions.f k l[j].f1).bind fun t2 => spec_AreSections.j1 k l (j : Int) l (l.length : Int) (j : Int) (!t2) l[j].f0 l[j].f1 l[j].f2 else spec_AreSections.j1 k l (j : Int) l (l.length : Int) (j : Int) true l[j].f0 l[j].f1 l[j].f2) hb1 (Ev.congr (fun k => if_pos rfl) (Ev.bind (f := fun k t2 => spec_AreSections.j1 k l (j : Int) l (l.length : Int) (j : Int) (!t2) l[j].f0 l[j].f1 l[j].f2) hb2 yes))), fun h => ?_⟩
        obtain ⟨h1, h2, h3⟩ := hw3 h
        intro j' h' hle
        by_cases ej : j' = j
        · subst ej
          exact ⟨(hw1 rfl).1, hw2 rfl, h2, by simpa using h1⟩
        · exact h3 j' h' (by omega)
theorem secs_says (l : List S71) (hl : FSecs l) : Says (fun k => spec_AreSections.f k l) (SecOK l 0) := sec0 l hl l.length 0 (by omega)
/-- What cfAre tells. -/
theorem are_says (l : List S71) (hl : FSecs l) (section_ sub key value : ByteArray) (h1 : section_.size ≤ 2147483647) (h2 : sub.size ≤ 2147483647) (h3 : key.size ≤ 2147483647) (h4 : value.size ≤ 2147483647) :
    Says (fun k => laws_cfAre.f k l section_ sub key value) (SecOK l 0 ∧ Word section_ ∧ Word key) := by
  have hv := value_says value h4
  have hv' : ∀ {p : Prop}, p → Says (fun n => (spec_IsValue.f n value).bind fun t => some t) p := fun hp => Says.congr (f := fun n => spec_IsValue.f n value) (fun k => by show (spec_IsValue.f k value).bind _ = _; cases spec_IsValue.f k value <;> rfl) (hv.imp fun _ => hp)
  have hk := word_says key h3
  by_cases he : sub.toList = []
  · refine Says.congr (fun k => by rw [laws_cfAre.f]; simp only [if_pos he]) ((secs_says l hl).bind fun hs => (word_says section_ h1).bind fun hw => hk.bind fun hkk => hv' ⟨hs, hw.1, hkk.1⟩)
  · refine Says.congr (fun k => by rw [laws_cfAre.f]; simp only [if_neg he]) ((secs_says l hl).bind fun hs => (word_says section_ h1).bind fun hw => (word_says sub h2).bind fun _ => hk.bind fun hkk => hv' ⟨hs, hw.1, hkk.1⟩)
/-! ### The option of which is spoken -/
theorem SecOK.words {l : List S71} (h : SecOK l 0) : Words l := by
  intro s hs
  obtain ⟨j, hj, rfl⟩ := List.getElem_of_mem hs
  obtain ⟨h1, h2, h3, _⟩ := h j hj (Nat.zero_le _)
  refine ⟨h1, fun o ho => (h2.1 o ho).1, fun x hx => ?_⟩
  obtain ⟨i, hi, rfl⟩ := List.getElem_of_mem hx
  exact fun o ho => ((h3 i hi (Nat.zero_le _)).1.1 o ho).1
/-! ### Values -/
end Go.Proofs.YtoofbppfbbhliaaDoor.confD
