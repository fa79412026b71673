/- The order of texts, plain: what stands in order with no two alike, is told apart in any other order. No condition of its own. -/
import Derived.Laws.Strings
namespace Go.Proofs.YtdelomacpmpgoaaDoor.ord
open Go
set_option linter.unusedVariables false
set_option linter.unusedSimpArgs false
theorem bl_irrefl : ∀ x : List UInt8, Op.bytesLess x x = false := by
  intro x
  induction x with
  | nil => rfl
  | cons a x ih =>
    show (decide (a < a) || ((a == a) && Op.bytesLess x x)) = false
    rw [ih, decide_eq_false (UInt8.lt_irrefl a)]; simp
theorem bl_cons (a b : UInt8) (x y : List UInt8) : Op.bytesLess (a :: x) (b :: y) = (decide (a < b) || (a == b && Op.bytesLess x y)) := rfl
theorem bl_trans : ∀ x y z : List UInt8, Op.bytesLess x y = true → Op.bytesLess y z = true → Op.bytesLess x z = true := by
  intro x
  induction x with
  | nil =>
    intro y z h1 h2
    cases y with
    | nil => exact absurd h1 (by decide)
    | cons b y =>
      cases z with
      | nil => exact absurd h2 (by simp [Op.bytesLess])
      | cons c z => rfl
  | cons a x ih =>
    intro y z h1 h2
    cases y with
    | nil => exact absurd h1 (by simp [Op.bytesLess])
    | cons b y =>
      cases z with
      | nil => exact absurd h2 (by simp [Op.bytesLess])
      | cons c z =>
        rw [bl_cons] at h1 h2 ⊢
        simp only [Bool.or_eq_true, decide_eq_true_eq, Bool.and_eq_true, beq_iff_eq] at h1 h2 ⊢
        rcases h1 with h1 | ⟨rfl, h1⟩
        · rcases h2 with h2 | ⟨rfl, h2⟩
          · exact .inl (UInt8.lt_trans h1 h2)
          · exact .inl h1
        · rcases h2 with h2 | ⟨rfl, h2⟩
          · exact .inl h2
          · exact .inr ⟨rfl, ih y z h1 h2⟩
theorem bl_total : ∀ x y : List UInt8, Op.bytesLess x y = false → x ≠ y → Op.bytesLess y x = true := by
  intro x
  induction x with
  | nil =>
    intro y h1 h2
    cases y with
    | nil => exact absurd rfl h2
    | cons b y => exact absurd h1 (by simp [Op.bytesLess])
  | cons a x ih =>
    intro y h1 h2
    cases y with
    | nil => rfl
    | cons b y =>
      rw [bl_cons] at h1 ⊢
      simp only [Bool.or_eq_true, decide_eq_true_eq, Bool.and_eq_true, beq_iff_eq, Bool.or_eq_false_iff, decide_eq_false_iff_not, Bool.and_eq_false_iff, beq_eq_false_iff_ne] at h1 ⊢
      by_cases e : a = b
      · subst e
        right
        exact ⟨rfl, ih y (by rcases h1.2 with h | h; exact absurd rfl h; exact h) (fun e => h2 (by rw [e]))⟩
      · left
        rcases UInt8.lt_or_lt_of_ne e with h | h
        · exact absurd h h1.1
        · exact h
/-- Adjacent in order: all in order. -/
theorem bl_far {α : Type} (key : α → List UInt8) (l : List α) (h : ∀ i (hi : i + 1 < l.length), Op.bytesLess (key l[i]) (key l[i + 1]) = true) : ∀ d i (hj : i + d + 1 < l.length), Op.bytesLess (key l[i]) (key l[i + d + 1]) = true := by
  intro d
  induction d with
  | zero => intro i hj; exact h i hj
  | succ d ih => intro i hj; exact bl_trans _ _ _ (ih i (by omega)) (h (i + d + 1) hj)
theorem bl_nodup {α : Type} (key : α → List UInt8) (l : List α) (h : ∀ i (hi : i + 1 < l.length), Op.bytesLess (key l[i]) (key l[i + 1]) = true) : (l.map key).Nodup := by
  unfold List.Nodup
  rw [List.pairwise_iff_getElem]
  intro i j hi hj hij
  rw [List.length_map] at hi hj
  rw [List.getElem_map, List.getElem_map]
  obtain ⟨d, rfl⟩ : ∃ d, j = i + d + 1 := ⟨j - i - 1, by omega⟩
  intro e
  have := bl_far key l h d i hj
  rw [e, bl_irrefl] at this
  exact absurd this (by decide)
theorem bl_desc {α : Type} (key : α → List UInt8) (l m : List α) (h : ∀ i (hi : i + 1 < l.length), Op.bytesLess (key l[i]) (key l[i + 1]) = true) (hp : l.Perm m) (i : Nat) (hi : i + 1 < m.length) (hn : Op.bytesLess (key m[i]) (key m[i + 1]) = false) : Op.bytesLess (key m[i + 1]) (key m[i]) = true := by
  refine bl_total _ _ hn ?_
  have hd : (m.map key).Nodup := (hp.map key).nodup_iff.1 (bl_nodup key l h)
  unfold List.Nodup at hd
  rw [List.pairwise_iff_getElem] at hd
  have := hd i (i + 1) (by rw [List.length_map]; omega) (by rw [List.length_map]; omega) (by omega)
  rwa [List.getElem_map, List.getElem_map] at this
end Go.Proofs.YtdelomacpmpgoaaDoor.ord
