/- Packet lines: what the laws ask of lines, plain. -/
import Derived.Test.YtdobblddnfalcaaGreatDoorPktH
namespace Go.Proofs.YtdobblddnfalcaaGreatDoor.pkt
open Go.RowKit Go.Proofs.YtdobblddnfalcaaGreatDoorW.PrintWords Go.Proofs.YtdobblddnfalcaaGreatDoorW.PrintLast Go.Proofs.YtdobblddnfalcaaGreatDoorW.PrintMore Go.Proofs.YtdobblddnfalcaaGreatDoor.PFnProtoHaves
set_option linter.unusedVariables false
set_option linter.unusedSimpArgs false
set_option maxHeartbeats 2000000
set_option maxRecDepth 100000
theorem errAt_bad {bs : List Int} (h : errAt bs) : stp bs = .bad := by
  obtain ⟨n, h1, h2, h3, h4, h5⟩ := h
  unfold stp
  rw [if_neg (fun he => by rw [he] at h1; cases h1), h1]
  simp only [if_neg h2, if_neg h3, if_neg h4, if_pos h5]
theorem calm_plines : ∀ (k : Nat) (l : List (List Int)), (∀ p ∈ l, Good p) → Calm k (plines l)
  | 0, _, _ => trivial
  | k + 1, [], _ => by
    have h : stp (plines []) = .done := rfl
    exact ⟨fun he => (by rw [errAt_bad he] at h; cases h), fun p r hs => (by rw [h] at hs; cases hs)⟩
  | k + 1, a :: r, hg => by
    have h : stp (plines (a :: r)) = .line a (plines r) := stp_pline (hg a (by simp))
    refine ⟨fun he => (by rw [errAt_bad he] at h; cases h), fun p q hs => ?_⟩
    rw [h] at hs
    injection hs with h1 h2
    subst h1 h2
    exact calm_plines k r (fun p hp => hg p (by simp [hp]))
theorem pline_pos (p : List Int) : 1 ≤ (pline p).length := by
  unfold pline
  split
  · decide
  · rw [List.length_append]; show 1 ≤ 4 + p.length; omega
theorem plines_ge (l : List (List Int)) : l.length ≤ (plines l).length := by
  induction l with
  | nil => simp
  | cons a r ih =>
    rw [plines, List.length_append, List.length_cons]
    have := pline_pos a
    omega
theorem digit_bytes {d : Int} (h0 : 0 ≤ d) (h1 : d < 16) : 0 ≤ digit d ∧ digit d < 256 := by
  unfold digit
  split <;> omega
theorem pline_bytes {p : List Int} (hp : ∀ x ∈ p, 0 ≤ x ∧ x < 256) : ∀ x ∈ pline p, 0 ≤ x ∧ x < 256 := by
  intro x hx
  unfold pline at hx
  split at hx
  · simp at hx; omega
  · rcases List.mem_append.1 hx with h | h
    · unfold hexs at h
      simp only [List.mem_cons, List.mem_nil_iff, or_false] at h
      rcases h with rfl | rfl | rfl | rfl
      all_goals exact digit_bytes (by omega) (by omega)
    · exact hp x h
theorem plines_bytes (l : List (List Int)) (hb : ∀ p ∈ l, ∀ x ∈ p, 0 ≤ x ∧ x < 256) : ∀ x ∈ plines l, 0 ≤ x ∧ x < 256 := by
  induction l with
  | nil => intro x hx; cases hx
  | cons a r ih =>
    intro x hx
    rw [plines] at hx
    rcases List.mem_append.1 hx with h | h
    · exact pline_bytes (hb a (by simp)) x h
    · exact ih (fun p hp => hb p (by simp [hp])) x h
end Go.Proofs.YtdobblddnfalcaaGreatDoor.pkt
