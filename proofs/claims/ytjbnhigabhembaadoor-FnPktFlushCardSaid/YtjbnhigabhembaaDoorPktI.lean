/- Packet lines: what the laws ask of lines, plain. -/
import Derived.Test.YtjbnhigabhembaaDoorPktH
namespace Go.Proofs.YtjbnhigabhembaaDoor.pkt
open Go.RowKit Go.Proofs.YtjbnhigabhembaaDoorW.PrintWords Go.Proofs.YtjbnhigabhembaaDoorW.PrintLast Go.Proofs.YtjbnhigabhembaaDoorW.PrintMore Go.Proofs.YtjbnhigabhembaaDoor.PFnPktFlush
set_option linter.unusedVariables false
set_option linter.unusedSimpArgs false
set_option maxHeartbeats 2000000
set_option maxRecDepth 100000
theorem fits_loop (l : List (List Int)) (hl : l.length ≤ 2147483647) : ∀ (k j : Nat), j ≤ l.length → j + k = l.length + 1 → ∃ b, laws_zzFits19.l0 k l (l.length : Int) (j : Int) = some b
  | 0, j, hj, hk => by omega
  | k + 1, j, hj, hk => by
    rw [laws_zzFits19.l0]
    by_cases hlt : j < l.length
    · rw [if_pos (by omega), if_pos (by omega), if_pos (by omega)]
      split
      · exact ⟨_, rfl⟩
      · rw [w64 (by omega) (by omega)]
        exact fits_loop l hl k (j + 1) (by omega) (by omega)
    · rw [if_neg (by omega)]
      exact ⟨_, rfl⟩
theorem fits_says (l : List (List Int)) : laws_zzFits19.f (l.length + 1) l = some false ∨ (laws_zzFits19.f (l.length + 1) l = some true ∧ l.length ≤ 2147483647) := by
  unfold laws_zzFits19.f
  by_cases h : (l.length : Int) > 2147483647
  · rw [if_pos h]; exact .inl rfl
  · rw [if_neg h]
    obtain ⟨b, hb⟩ := fits_loop l (by omega) (l.length + 1) 0 (by omega) (by omega)
    cases b with
    | true => exact .inr ⟨hb, by omega⟩
    | false => exact .inl hb
theorem isErr_says {p : List Int} (hp : ∀ x ∈ p, 0 ≤ x ∧ x < 256) : spec_isErr.f p = some (isErr p) := by
  have hr : ∀ x ∈ ([69, 82, 82, 32] : List Int), 0 ≤ x ∧ x < 256 := by
    intro x hx
    simp at hx
    omega
  have he : ([69, 82, 82, 32] : List UInt8) = (strOfNums [69, 82, 82, 32]).toList := by decide +kernel
  unfold spec_isErr.f isErr
  by_cases h : 4 ≤ p.length
  · rw [if_pos (by omega), if_pos (by omega), he, strOf_eq (fun x hx => hp x (List.mem_of_mem_take hx)) hr]
  · rw [if_neg (by omega)]
    congr 1
    symm
    rw [beq_eq_false_iff_ne]
    intro he
    have := congrArg List.length he
    rw [List.length_take] at this
    simp at this
    omega
theorem good_loop (l : List (List Int)) (hl : l.length ≤ 2147483647) (hb : ∀ p ∈ l, ∀ x ∈ p, 0 ≤ x ∧ x < 256) : ∀ (k j : Nat), j ≤ l.length → j + k = l.length + 1 → spec_GoodLines.l0 k l l (l.length : Int) (j : Int) = some false ∨ (spec_GoodLines.l0 k l l (l.length : Int) (j : Int) = some true ∧ l.length ≤ 1000 ∧ ∀ p ∈ l.drop j, Good p)
  | 0, j, hj, hk => by omega
  | k + 1, j, hj, hk => by
    rw [spec_GoodLines.l0]
    by_cases hlt : j < l.length
    · rw [if_pos (by omega), if_pos (by omega), if_pos (by omega), rd_eq l j hlt]
      by_cases h1 : ((l[j]).length : Int) > 65516
      · rw [if_pos h1]; exact .inl rfl
      · rw [if_neg h1, isErr_says (hb _ (List.getElem_mem hlt)), Option.bind_some]
        by_cases h2 : isErr l[j] = true
        · rw [if_pos h2]; exact .inl rfl
        · rw [if_neg h2, w64 (by omega) (by omega)]
          rcases good_loop l hl hb k (j + 1) (by omega) (by omega) with h | ⟨h, h3, h4⟩
          · exact .inl h
          · refine .inr ⟨h, h3, fun p hp => ?_⟩
            rw [List.drop_eq_getElem_cons hlt] at hp
            rcases List.mem_cons.1 hp with rfl | hp
            · exact ⟨by omega, by simpa using h2⟩
            · exact h4 p hp
    · rw [if_neg (by omega)]
      by_cases h : (l.length : Int) ≤ 1000
      · rw [decide_eq_true h]
        refine .inr ⟨rfl, by omega, fun p hp => ?_⟩
        rw [List.drop_of_length_le (by omega)] at hp
        cases hp
      · rw [decide_eq_false h]; exact .inl rfl
theorem good_says (l : List (List Int)) (hl : l.length ≤ 2147483647) (hb : ∀ p ∈ l, ∀ x ∈ p, 0 ≤ x ∧ x < 256) : spec_GoodLines.f (l.length + 1) l = some false ∨ (spec_GoodLines.f (l.length + 1) l = some true ∧ l.length ≤ 1000 ∧ ∀ p ∈ l, Good p) := by
  have := good_loop l hl hb (l.length + 1) 0 (by omega) (by omega)
  rwa [List.drop_zero] at this
theorem same_loop (l : List (List Int)) (hl : l.length ≤ 2147483647) : ∀ (k j : Nat), j ≤ l.length → j + k = l.length + 1 → spec_SameLines.l0 k l l (l.length : Int) (j : Int) = some true
  | 0, j, hj, hk => by omega
  | k + 1, j, hj, hk => by
    rw [spec_SameLines.l0]
    by_cases hlt : j < l.length
    · rw [if_pos (by omega), if_pos (by omega), if_pos (by omega), if_pos (by omega), if_pos rfl, w64 (by omega) (by omega)]
      exact same_loop l hl k (j + 1) (by omega) (by omega)
    · rw [if_neg (by omega)]
theorem same_says (l : List (List Int)) (hl : l.length ≤ 2147483647) : spec_SameLines.f (l.length + 1) l l = some true := by
  unfold spec_SameLines.f
  rw [if_pos rfl]
  exact same_loop l hl (l.length + 1) 0 (by omega) (by omega)
theorem errAt_bad {bs : List Int} (h : errAt bs) : stp bs = .bad := by
  obtain ⟨n, h1, h2, h3, h4, h5⟩ := h
  unfold stp
  rw [if_neg (fun he => by rw [he] at h1; cases h1), h1]
  simp only [if_neg h2, if_neg h3, if_neg h4, if_pos h5]
theorem calm_plines : ∀ (k : Nat) (l : List (List Int)), (∀ p ∈ l, Good p) → Calm k (plines l)
  | 0, _, _ => trivial
  | k + 1, [], _ => by
    have h : stp (plines []) = .done := rfl
    exact ⟨fun he => (by rw [errAt_bad he] at h; cases h), fun p r hs => (by rw [h] at hs; cases hs)⟩
  | k + 1, a :: r, hg => by
    have h : stp (plines (a :: r)) = .line a (plines r) := stp_pline (hg a (by simp))
    refine ⟨fun he => (by rw [errAt_bad he] at h; cases h), fun p q hs => ?_⟩
    rw [h] at hs
    injection hs with h1 h2
    subst h1 h2
    exact calm_plines k r (fun p hp => hg p (by simp [hp]))
theorem pline_pos (p : List Int) : 1 ≤ (pline p).length := by
  unfold pline
  split
  · decide
  · rw [List.length_append]; show 1 ≤ 4 + p.length; omega
theorem plines_ge (l : List (List Int)) : l.length ≤ (plines l).length := by
  induction l with
  | nil => simp
  | cons a r ih =>
    rw [plines, List.length_append, List.length_cons]
    have := pline_pos a
    omega
theorem digit_bytes {d : Int} (h0 : 0 ≤ d) (h1 : d < 16) : 0 ≤ digit d ∧ digit d < 256 := by
  unfold digit
  split <;> omega
theorem pline_bytes {p : List Int} (hp : ∀ x ∈ p, 0 ≤ x ∧ x < 256) : ∀ x ∈ pline p, 0 ≤ x ∧ x < 256 := by
  intro x hx
  unfold pline at hx
  split at hx
  · simp at hx; omega
  · rcases List.mem_append.1 hx with h | h
    · unfold hexs at h
      simp only [List.mem_cons, List.mem_nil_iff, or_false] at h
      rcases h with rfl | rfl | rfl | rfl
      all_goals exact digit_bytes (by omega) (by omega)
    · exact hp x h
theorem plines_bytes (l : List (List Int)) (hb : ∀ p ∈ l, ∀ x ∈ p, 0 ≤ x ∧ x < 256) : ∀ x ∈ plines l, 0 ≤ x ∧ x < 256 := by
  induction l with
  | nil => intro x hx; cases hx
  | cons a r ih =>
    intro x hx
    rw [plines] at hx
    rcases List.mem_append.1 hx with h | h
    · exact pline_bytes (hb a (by simp)) x h
    · exact ih (fun p hp => hb p (by simp [hp])) x h
end Go.Proofs.YtjbnhigabhembaaDoor.pkt
