/- Revisions, plain part: what the scanner makes of small letters, digits and five signs. No program in sight. -/
import Derived.Test.YtiibeefadgmicaaDoorWWords
namespace Go.Proofs.YtiibeefadgmicaaDoor.rev
set_option linter.unusedVariables false
set_option linter.unusedSimpArgs false
def isL (c : UInt8) : Bool := decide (97 ≤ c.toNat) && decide (c.toNat ≤ 122)
def isD (c : UInt8) : Bool := decide (48 ≤ c.toNat) && decide (c.toNat ≤ 57)
def isA (c : UInt8) : Bool := isL c || isD c
def isS (c : UInt8) : Bool := c == 126 || c == 94 || c == 123 || c == 125 || c == 64
def Good (l : List UInt8) : Prop := ∀ c ∈ l, isA c = true ∨ isS c = true
def symTok (c : UInt8) : Int := if c = 126 then 17 else if c = 94 then 4 else if c = 123 then 12 else if c = 125 then 5 else 3
structure Tok where
  t : Int
  s : List UInt8
/-- What the scanner reads next, and what is left. -/
def nx : List UInt8 → Tok × List UInt8
  | [] => (⟨0, []⟩, [])
  | c :: r => if isL c = true then (⟨19, c :: r.takeWhile isL⟩, r.dropWhile isL) else if isD c = true then (⟨11, c :: r.takeWhile isD⟩, r.dropWhile isD) else (⟨symTok c, [c]⟩, r)
/-- The parser: is the last token to be read again; that token; the text that is left. -/
structure St where
  u : Bool
  c : Tok
  l : List UInt8
def St.next (s : St) : Tok := if s.u = true then s.c else (nx s.l).1
def St.step (s : St) : St := if s.u = true then ⟨false, s.c, s.l⟩ else ⟨false, (nx s.l).1, (nx s.l).2⟩
def St.back (s : St) : St := ⟨true, s.c, s.l⟩
theorem good_tail {c : UInt8} {r : List UInt8} (h : Good (c :: r)) : Good r := fun x hx => h x (.tail _ hx)
theorem good_drop {p : UInt8 → Bool} {r : List UInt8} (h : Good r) : Good (r.dropWhile p) := fun x hx => h x ((List.dropWhile_sublist p).subset hx)
theorem good_nx {l : List UInt8} (h : Good l) : Good (nx l).2 := by
  cases l with
  | nil => exact h
  | cons c r =>
    rw [nx]
    by_cases h1 : isL c = true
    · rw [if_pos h1]; exact good_drop (good_tail h)
    · rw [if_neg h1]
      by_cases h2 : isD c = true
      · rw [if_pos h2]; exact good_drop (good_tail h)
      · rw [if_neg h2]; exact good_tail h
theorem good_step {s : St} (h : Good s.l) : Good s.step.l := by
  unfold St.step
  by_cases hu : s.u = true
  · rw [if_pos hu]; exact h
  · rw [if_neg hu]; exact good_nx h
theorem nx_len (l : List UInt8) : (nx l).2.length ≤ l.length := by
  cases l with
  | nil => exact Nat.le_refl _
  | cons c r =>
    rw [nx]
    by_cases h1 : isL c = true
    · rw [if_pos h1]; have := (List.dropWhile_sublist isL (l := r)).length_le; simp only [List.length_cons]; omega
    · rw [if_neg h1]
      by_cases h2 : isD c = true
      · rw [if_pos h2]; have := (List.dropWhile_sublist isD (l := r)).length_le; simp only [List.length_cons]; omega
      · rw [if_neg h2]; simp
/-- A text that does not go on with a letter or digit. -/
def Ends (t : List UInt8) : Prop := ∀ x, t.head? = some x → isA x = false
theorem ends_nil : Ends [] := fun x h => by cases h
theorem ends_cons {c : UInt8} {r : List UInt8} (h : isA c = false) : Ends (c :: r) := fun x hx => by injection hx with hx; rw [← hx]; exact h
theorem tw {p : UInt8 → Bool} (hp : ∀ x, p x = true → isA x = true) {t : List UInt8} (ht : Ends t) : ∀ m : List UInt8, (m ++ t).takeWhile p = m.takeWhile p ∧ (m ++ t).dropWhile p = m.dropWhile p ++ t
  | [] => by
    cases t with
    | nil => exact ⟨rfl, rfl⟩
    | cons x r =>
      have h1 : p x = false := by
        cases h : p x with
        | false => rfl
        | true => have := hp x h; rw [ht x rfl] at this; cases this
      simp [List.takeWhile_cons, List.dropWhile_cons, h1]
  | c :: m => by
    obtain ⟨h1, h2⟩ := tw hp ht m
    cases hc : p c with
    | true => simp [List.takeWhile_cons, List.dropWhile_cons, hc, h1, h2]
    | false => simp [List.takeWhile_cons, List.dropWhile_cons, hc]
theorem isL_A (x : UInt8) (h : isL x = true) : isA x = true := by unfold isA; rw [h]; rfl
theorem isD_A (x : UInt8) (h : isD x = true) : isA x = true := by unfold isA; rw [h, Bool.or_true]
theorem isD_not (x : UInt8) (h : isD x = true) : isL x = false := by
  unfold isD at h; unfold isL
  simp only [Bool.and_eq_true, decide_eq_true_eq] at h
  simp only [Bool.and_eq_false_iff, decide_eq_false_iff_not]
  omega
/-- A name is read in runs of letters and of digits. -/
theorem nx_word {c : UInt8} {m t : List UInt8} (hc : isA c = true) (ht : Ends t) : ∃ k lit m', (k = 19 ∨ k = 11) ∧ nx ((c :: m) ++ t) = (⟨k, lit⟩, m' ++ t) ∧ lit ++ m' = c :: m ∧ lit ≠ [] := by
  rw [List.cons_append, nx]
  by_cases h1 : isL c = true
  · rw [if_pos h1, (tw isL_A ht m).1, (tw isL_A ht m).2]
    exact ⟨19, _, _, .inl rfl, rfl, by rw [List.cons_append, List.takeWhile_append_dropWhile], by simp⟩
  · have h2 : isD c = true := by unfold isA at hc; rcases Bool.or_eq_true_iff.1 hc with h | h; exact absurd h h1; exact h
    rw [if_neg h1, if_pos h2, (tw isD_A ht m).1, (tw isD_A ht m).2]
    exact ⟨11, _, _, .inr rfl, rfl, by rw [List.cons_append, List.takeWhile_append_dropWhile], by simp⟩
theorem tw_all {p : UInt8 → Bool} : ∀ {m : List UInt8}, (∀ x ∈ m, p x = true) → m.takeWhile p = m ∧ m.dropWhile p = []
  | [], _ => ⟨rfl, rfl⟩
  | c :: m, h => by
    obtain ⟨h1, h2⟩ := tw_all (fun x hx => h x (.tail _ hx))
    simp [List.takeWhile_cons, List.dropWhile_cons, h c (.head _), h1, h2]
/-- A number is read whole. -/
theorem nx_num {d t : List UInt8} (hd : ∀ x ∈ d, isD x = true) (hne : d ≠ []) (ht : Ends t) : nx (d ++ t) = (⟨11, d⟩, t) := by
  cases d with
  | nil => exact absurd rfl hne
  | cons c m =>
    have h1 := hd c (.head _)
    have h2 := tw_all (fun x hx => hd x (.tail _ hx))
    rw [List.cons_append, nx, if_neg (by rw [isD_not c h1]; simp), if_pos h1, (tw isD_A ht m).1, (tw isD_A ht m).2, h2.1, h2.2]
    rfl
theorem nx_sym {c : UInt8} {t : List UInt8} (h : isS c = true) : nx (c :: t) = (⟨symTok c, [c]⟩, t) := by
  unfold isS at h
  have : c = 126 ∨ c = 94 ∨ c = 123 ∨ c = 125 ∨ c = 64 := by
    simp only [Bool.or_eq_true, beq_iff_eq] at h
    rcases h with (((h | h) | h) | h) | h
    · exact .inl h
    · exact .inr (.inl h)
    · exact .inr (.inr (.inl h))
    · exact .inr (.inr (.inr (.inl h)))
    · exact .inr (.inr (.inr (.inr h)))
  rcases this with rfl | rfl | rfl | rfl | rfl <;> rfl
end Go.Proofs.YtiibeefadgmicaaDoor.rev
