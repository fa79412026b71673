/- Patterns of names, plain law: matching chunk by chunk, each at the first place behind a star, is matching by all tails. No program in sight. -/
import Derived.Test.YtbiflpbajgafaaaWWords
namespace Go.Proofs.Ytbiflpbajgafaaa.ign
set_option linter.unusedVariables false
set_option linter.unusedSimpArgs false
def anyTail (f : List UInt8 → Bool) : List UInt8 → Bool
  | [] => f []
  | d :: r => f (d :: r) || anyTail f r
/-- A star stands for any text, a question mark for a letter. -/
def globs : List UInt8 → List UInt8 → Bool
  | [], n => n.isEmpty
  | c :: p, n => if c = 42 then anyTail (globs p) n else match n with
    | [] => false
    | d :: r => (c == 63 || c == d) && globs p r
/-- A chunk without stars at the front of a name. -/
def mch : List UInt8 → List UInt8 → Option (List UInt8)
  | [], s => some s
  | _ :: _, [] => none
  | c :: p, d :: r => if (c = 63 ∧ d ≠ 47) ∨ (c ≠ 63 ∧ c = d) then mch p r else none
/-- A chunk at the first place behind the front; at the last chunk nothing may be left. -/
def find (c : List UInt8) (last : Bool) : List UInt8 → Option (List UInt8)
  | [] => none
  | _ :: r => match mch c r with
    | some t => if last = true ∧ t ≠ [] then find c last r else some t
    | none => find c last r
def ck (p : List UInt8) : List UInt8 := p.takeWhile (· != 42)
def rs (p : List UInt8) : List UInt8 := p.dropWhile (· != 42)
def un (p : List UInt8) : List UInt8 := p.dropWhile (· == 42)
/-- Chunk by chunk. -/
def gm : Nat → List UInt8 → List UInt8 → Bool
  | 0, _, _ => false
  | k + 1, p, n => if p = [] then n.isEmpty else
    let c := ck (un p)
    let r := rs (un p)
    if p.head? = some 42 ∧ c = [] then true else
    match (match mch c n with | some t => if t = [] ∨ r ≠ [] then some t else none | none => none) with
    | some t => gm k r t
    | none => if p.head? = some 42 then (match find c (r.isEmpty) n with | some t => gm k r t | none => false) else false
theorem mch_len : ∀ {c s t : List UInt8}, mch c s = some t → s.length = c.length + t.length
  | [], s, t, h => by cases h; simp
  | _ :: _, [], t, h => by cases h
  | c :: p, d :: r, t, h => by
    rw [mch] at h
    split at h
    · have := mch_len h
      simp only [List.length_cons]
      omega
    · cases h
theorem mch_suffix : ∀ {c s t : List UInt8}, mch c s = some t → ∃ u, u ++ t = s
  | [], s, t, h => by cases h; exact ⟨[], rfl⟩
  | _ :: _, [], t, h => by cases h
  | c :: p, d :: r, t, h => by
    rw [mch] at h
    split at h
    · obtain ⟨u, hu⟩ := mch_suffix h
      exact ⟨d :: u, by rw [← hu]; rfl⟩
    · cases h
theorem globs_chunk : ∀ {c : List UInt8} {r n : List UInt8}, (∀ x ∈ c, x ≠ 42) → (∀ x ∈ n, x ≠ 47) → globs (c ++ r) n = (match mch c n with | some t => globs r t | none => false)
  | [], r, n, _, _ => rfl
  | x :: c, r, [], hc, _ => by
    rw [List.cons_append, globs, if_neg (hc x (by simp))]
    rfl
  | x :: c, r, d :: n, hc, hn => by
    rw [List.cons_append, globs, if_neg (hc x (by simp)), mch]
    have ih := globs_chunk (c := c) (r := r) (n := n) (fun y hy => hc y (by simp [hy])) (fun y hy => hn y (by simp [hy]))
    have hd := hn d (by simp)
    by_cases h1 : x = 63
    · subst h1
      rw [if_pos (.inl ⟨rfl, hd⟩), ← ih]
      simp
    · by_cases h2 : x = d
      · subst h2
        rw [if_pos (.inr ⟨h1, rfl⟩), ← ih]
        simp
      · rw [if_neg (fun h => h.elim (fun h => h1 h.1) (fun h => h2 h.2))]
        simp [h1, h2]
theorem anyTail_iff (f : List UInt8 → Bool) : ∀ n, anyTail f n = true ↔ ∃ a b, n = a ++ b ∧ f b = true
  | [] => by
    rw [anyTail]
    constructor
    · intro h; exact ⟨[], [], rfl, h⟩
    · rintro ⟨a, b, h, hb⟩
      have := List.append_eq_nil_iff.1 h.symm
      rw [this.2] at hb
      exact hb
  | d :: r => by
    rw [anyTail, Bool.or_eq_true, anyTail_iff f r]
    constructor
    · rintro (h | ⟨a, b, h, hb⟩)
      · exact ⟨[], d :: r, rfl, h⟩
      · exact ⟨d :: a, b, by rw [h]; rfl, hb⟩
    · rintro ⟨a, b, h, hb⟩
      cases a with
      | nil => left; rw [List.nil_append] at h; rw [h]; exact hb
      | cons x a =>
        right
        injection h with _ h
        exact ⟨a, b, h, hb⟩
theorem globs_star (p n : List UInt8) : globs (42 :: p) n = anyTail (globs p) n := by
  cases n with
  | nil => rw [globs, if_pos rfl]
  | cons d r => rw [globs, if_pos rfl]
/-- Behind a star, what fits a tail fits all that ends so. -/
theorem globs_up {p n a : List UInt8} (h : p.head? = some 42) (hg : globs p n = true) : globs p (a ++ n) = true := by
  match p, h with
  | x :: p, h =>
    cases h
    rw [globs_star] at hg ⊢
    obtain ⟨a', b, e, hb⟩ := (anyTail_iff _ _).1 hg
    exact (anyTail_iff _ _).2 ⟨a ++ a', b, by rw [e, List.append_assoc], hb⟩
theorem split_p (p : List UInt8) : ck p ++ rs p = p := List.takeWhile_append_dropWhile
theorem ck_no : ∀ (p : List UInt8), ∀ x ∈ ck p, x ≠ 42
  | [], x, hx => by cases hx
  | y :: p, x, hx => by
    unfold ck at hx
    rw [List.takeWhile_cons] at hx
    by_cases h : (y != 42) = true
    · rw [if_pos h] at hx
      rcases List.mem_cons.1 hx with rfl | hx
      · simpa using h
      · exact ck_no p x hx
    · rw [if_neg h] at hx
      cases hx
def tl1 (f : List UInt8 → Bool) : List UInt8 → Bool
  | [] => false
  | _ :: m => anyTail f m
theorem rs_head : ∀ (p : List UInt8), rs p = [] ∨ (rs p).head? = some 42
  | [] => .inl rfl
  | x :: p => by
    unfold rs
    rw [List.dropWhile_cons]
    by_cases h : x = 42
    · subst h; right; rfl
    · rw [if_pos (by simpa using h)]
      exact rs_head p
/-- The first place is as good as any. -/
theorem find_globs {c r : List UInt8} (hc : ∀ x ∈ c, x ≠ 42) (hr : r = [] ∨ r.head? = some 42) : ∀ {n : List UInt8}, (∀ x ∈ n, x ≠ 47) → (match find c r.isEmpty n with | some t => globs r t | none => false) = tl1 (globs (c ++ r)) n
  | [], _ => rfl
  | d :: n, hn => by
    have hn' : ∀ x ∈ n, x ≠ 47 := fun y hy => hn y (by simp [hy])
    have ih := find_globs hc hr hn'
    have hg := globs_chunk (r := r) hc hn'
    rw [find]
    have step : anyTail (globs (c ++ r)) n = (globs (c ++ r) n || tl1 (globs (c ++ r)) n) := by
      cases n with
      | nil => rw [anyTail, tl1, Bool.or_false]
      | cons x m => rw [anyTail, tl1]
    show _ = anyTail (globs (c ++ r)) n
    rw [step, hg]
    cases hm : mch c n with
    | none => simp only [Bool.false_or]; exact ih
    | some t =>
      simp only
      by_cases hl : r.isEmpty = true ∧ t ≠ []
      · rw [if_pos hl, ih]
        have hr0 : r = [] := List.isEmpty_iff.1 hl.1
        rw [show globs r t = false from by rw [hr0, globs]; simpa using hl.2, Bool.false_or]
      · rw [if_neg hl]
        rcases hr with hr | hr
        · have ht : t = [] := by
            by_cases h : t = []
            · exact h
            · exact absurd ⟨by rw [hr]; rfl, h⟩ hl
          rw [hr, ht, globs]
          rfl
        · cases hx : globs r t with
          | true => rw [Bool.true_or]; exact hx
          | false =>
            rw [Bool.false_or]
            show globs r t = _
            rw [hx]
            symm
            rw [Bool.eq_false_iff]
            intro ha
            have hh : ∃ a b, n = a ++ b ∧ globs (c ++ r) b = true := by
              cases n with
              | nil => cases ha
              | cons x m =>
                obtain ⟨a, b, e, hb⟩ := (anyTail_iff _ _).1 ha
                exact ⟨x :: a, b, by rw [e]; rfl, hb⟩
            obtain ⟨a, b, e, hb⟩ := hh
            rw [globs_chunk hc (fun y hy => hn' y (by rw [e]; simp [hy]))] at hb
            cases hm2 : mch c b with
            | none => rw [hm2] at hb; cases hb
            | some t2 =>
              rw [hm2] at hb
              have hb : globs r t2 = true := hb
              have s1 := mch_suffix hm
              have s2 := mch_suffix hm2
              have hlen := mch_len hm
              have hlen2 := mch_len hm2
              have : ∃ a', t = a' ++ t2 := by
                obtain ⟨u1, hu1⟩ := s1
                obtain ⟨u2, hu2⟩ := s2
                refine ⟨t.take (t.length - t2.length), ?_⟩
                have e2 : n = (a ++ u2) ++ t2 := by rw [e, ← hu2, List.append_assoc]
                have hl2 : t2.length ≤ t.length := by
                  have := congrArg List.length e
                  rw [List.length_append] at this
                  omega
                have e3 : t.drop (t.length - t2.length) = t2 := by
                  have h3 : n.drop (n.length - t2.length) = t2 := by
                    have hh : n.length - t2.length = (a ++ u2).length := by
                      have := congrArg List.length e2
                      rw [List.length_append] at this
                      omega
                    rw [hh, e2, List.drop_left]
                  have h4 : n.drop (n.length - t2.length) = t.drop (t.length - t2.length) := by
                    have hh : n.length - t2.length = u1.length + (t.length - t2.length) := by
                      have := congrArg List.length hu1
                      rw [List.length_append] at this
                      omega
                    rw [hh, ← hu1, ← List.drop_drop, List.drop_left]
                  rw [← h4, h3]
                conv => lhs; rw [← List.take_append_drop (t.length - t2.length) t]
                rw [e3]
              obtain ⟨a', ht⟩ := this
              rw [ht, globs_up hr hb] at hx
              cases hx
theorem un_star : ∀ (p : List UInt8), un (42 :: p) = un p
  | p => by unfold un; rw [List.dropWhile_cons]; rfl
theorem un_other {x : UInt8} (p : List UInt8) (h : x ≠ 42) : un (x :: p) = x :: p := by
  unfold un
  rw [List.dropWhile_cons, if_neg (by simpa using h)]
theorem un_len : ∀ (p : List UInt8), (un p).length ≤ p.length
  | [] => Nat.le_refl _
  | x :: p => by
    by_cases h : x = 42
    · subst h; rw [un_star]; have := un_len p; rw [List.length_cons]; omega
    · rw [un_other p h]; exact Nat.le_refl _
theorem anyTail_idem (f : List UInt8 → Bool) : ∀ n, anyTail (anyTail f) n = anyTail f n
  | [] => rfl
  | d :: r => by
    rw [anyTail, anyTail_idem f r, anyTail]
    cases f (d :: r) <;> cases anyTail f r <;> rfl
/-- Stars beside one another are one. -/
theorem globs_un : ∀ (p n : List UInt8), p.head? = some 42 → globs p n = anyTail (globs (un p)) n
  | x :: p, n, h => by
    cases h
    rw [globs_star, un_star]
    match p with
    | [] => rfl
    | y :: q =>
      by_cases hy : y = 42
      · subst hy
        have ih := fun m => globs_un (42 :: q) m rfl
        rw [show globs (42 :: q) = anyTail (globs (un (42 :: q))) from funext ih, anyTail_idem]
      · rw [un_other q hy]
theorem anyTail_nil : ∀ n : List UInt8, anyTail (globs []) n = true
  | [] => rfl
  | d :: r => by rw [anyTail, anyTail_nil r, Bool.or_true]
theorem un_head : ∀ (p : List UInt8), (un p).head? = some 42 → False
  | [], h => by cases h
  | x :: p, h => by
    by_cases hx : x = 42
    · subst hx; rw [un_star] at h; exact un_head p h
    · rw [un_other p hx] at h
      injection h with h
      exact hx h
theorem find_front {c r n : List UInt8} (hc : ∀ x ∈ c, x ≠ 42) (hr : r = [] ∨ r.head? = some 42) (hn : ∀ x ∈ n, x ≠ 47) : anyTail (globs (c ++ r)) n = (globs (c ++ r) n || tl1 (globs (c ++ r)) n) := by
  cases n with
  | nil => rw [anyTail, tl1, Bool.or_false]
  | cons x m => rw [anyTail, tl1]
theorem find_tail {c : List UInt8} {b : Bool} : ∀ {n t : List UInt8}, find c b n = some t → ∃ d m a u, n = d :: m ∧ m = a ++ u ∧ mch c u = some t
  | [], t, h => by cases h
  | d :: r, t, h => by
    rw [find] at h
    have go : find c b r = some t → ∃ d' m a u, d :: r = d' :: m ∧ m = a ++ u ∧ mch c u = some t := by
      intro h
      obtain ⟨d', m, a, u, h1, h2, h3⟩ := find_tail h
      exact ⟨d, r, d' :: a, u, rfl, by rw [h1, h2]; rfl, h3⟩
    cases hm : mch c r with
    | none => rw [hm] at h; exact go h
    | some t' =>
      rw [hm] at h
      simp only at h
      split at h
      · exact go h
      · cases h
        exact ⟨d, r, [], r, rfl, rfl, hm⟩
theorem find_mem {c n t : List UInt8} {b : Bool} (h : find c b n = some t) : ∀ y ∈ t, y ∈ n := by
  intro y hy
  obtain ⟨d, m, a, u, h1, h2, h3⟩ := find_tail h
  obtain ⟨v, hv⟩ := mch_suffix h3
  rw [h1, h2, ← hv]
  simp [hy]
theorem find_after {c n t t2 : List UInt8} {b : Bool} (hm : mch c n = some t) (h : find c b n = some t2) : ∃ a, t = a ++ t2 := by
  obtain ⟨d, m, a, u, h1, h2, h3⟩ := find_tail h
  obtain ⟨v, hv⟩ := mch_suffix h3
  obtain ⟨v1, hv1⟩ := mch_suffix hm
  have l1 := mch_len hm
  have l2 := mch_len h3
  have e : n = (d :: a ++ v) ++ t2 := by rw [h1, h2, ← hv]; simp
  have hle : t2.length ≤ t.length := by
    have := congrArg List.length e
    simp only [List.length_append, List.length_cons] at this
    have hv' := congrArg List.length hv
    rw [List.length_append] at hv'
    omega
  refine ⟨t.take (t.length - t2.length), ?_⟩
  have h4 : t.drop (t.length - t2.length) = t2 := by
    have hh : n.length - t2.length = (d :: a ++ v).length := by
      have := congrArg List.length e
      rw [List.length_append] at this
      omega
    have h5 : n.drop (n.length - t2.length) = t2 := by rw [hh, e, List.drop_left]
    have hh2 : n.length - t2.length = v1.length + (t.length - t2.length) := by
      have := congrArg List.length hv1
      rw [List.length_append] at this
      omega
    rw [hh2, ← hv1, ← List.drop_drop, List.drop_left] at h5
    exact h5
  conv => lhs; rw [← List.take_append_drop (t.length - t2.length) t]
  rw [h4]
/-- Chunk by chunk is by all tails. -/
theorem gm_globs : ∀ (k : Nat) (p n : List UInt8), p.length < k → (∀ x ∈ n, x ≠ 47) → gm k p n = globs p n
  | 0, p, n, h, _ => by omega
  | k + 1, p, n, h, hn => by
    rw [gm]
    by_cases hp : p = []
    · rw [if_pos hp, hp]; cases n <;> rfl
    rw [if_neg hp]
    obtain ⟨c, hcq⟩ : ∃ c, ck (un p) = c := ⟨_, rfl⟩
    obtain ⟨r, hrq⟩ : ∃ r, rs (un p) = r := ⟨_, rfl⟩
    have hsp : c ++ r = un p := by rw [← hcq, ← hrq]; exact split_p _
    have hc : ∀ x ∈ c, x ≠ 42 := by rw [← hcq]; exact ck_no _
    have hr : r = [] ∨ r.head? = some 42 := by rw [← hrq]; exact rs_head _
    have hlen : c.length + r.length ≤ p.length := by
      have := un_len p
      rw [← hsp, List.length_append] at this
      exact this
    rw [hcq, hrq]
    simp only
    by_cases hst : p.head? = some 42
    · rw [globs_un p n hst, ← hsp]
      have hlt : r.length < k := by
        have : (un p).length < p.length := by
          match p, hst with
          | x :: q, hst =>
            cases hst
            rw [un_star]
            have := un_len q
            rw [List.length_cons]
            omega
        rw [← hsp, List.length_append] at this
        omega
      by_cases hce : c = []
      · have hr0 : r = [] := by
          rcases hr with h | h
          · exact h
          · exfalso
            rw [hce, List.nil_append] at hsp
            have h2 : (un p).head? = some 42 := by rw [← hsp]; exact h
            exact un_head p h2
        rw [if_pos ⟨hst, hce⟩, hce, hr0]
        exact (anyTail_nil n).symm
      rw [if_neg (fun h => hce h.2)]
      have hf := find_front hc hr hn
      rw [hf]
      have hg := globs_chunk (r := r) hc hn
      cases hm : mch c n with
      | none =>
        rw [hm] at hg
        simp only
        rw [if_pos hst]
        rw [hg, Bool.false_or]
        rw [← find_globs hc hr hn]
        cases hfd : find c r.isEmpty n with
        | none => rfl
        | some t =>
          simp only
          exact gm_globs k r t hlt (fun y hy => hn y (find_mem hfd y hy))
      | some t =>
        rw [hm] at hg
        simp only at hg ⊢
        have htn : ∀ x ∈ t, x ≠ 47 := fun y hy => hn y (by obtain ⟨u, hu⟩ := mch_suffix hm; rw [← hu]; simp [hy])
        by_cases hl : t = [] ∨ r ≠ []
        · rw [if_pos hl]
          simp only
          rw [gm_globs k r t hlt htn, hg]
          rcases hr with hr0 | hr0
          · have ht0 : t = [] := hl.resolve_right (fun h => h hr0)
            rw [hr0, ht0]
            rfl
          · cases hx : globs r t with
            | true => rfl
            | false =>
              symm
              rw [Bool.false_or, Bool.eq_false_iff]
              intro ha
              rw [← find_globs hc (.inr hr0) hn] at ha
              cases hfd : find c r.isEmpty n with
              | none => rw [hfd] at ha; cases ha
              | some t2 =>
                rw [hfd] at ha
                have ha : globs r t2 = true := ha
                obtain ⟨a, e⟩ := find_after hm hfd
                rw [e, globs_up hr0 ha] at hx
                cases hx
        · rw [if_neg hl]
          simp only
          rw [if_pos hst]
          have hr0 : r = [] := Classical.byContradiction (fun h => hl (.inr h))
          have ht0 : t ≠ [] := fun h => hl (.inl h)
          have hgt : globs r t = false := by rw [hr0]; cases t with | nil => exact absurd rfl ht0 | cons x y => rfl
          rw [hg, hgt, Bool.false_or, ← find_globs hc hr hn]
          cases hfd : find c r.isEmpty n with
          | none => rfl
          | some t2 =>
            simp only
            exact gm_globs k r t2 hlt (fun y hy => hn y (find_mem hfd y hy))
    · have hun : un p = p := by
        cases p with
        | nil => exact absurd rfl hp
        | cons x q => exact un_other q (fun h => hst (by rw [h]; rfl))
      have hce : c ≠ [] := by
        intro h
        rw [h, List.nil_append, hun] at hsp
        rcases hr with h2 | h2
        · exact hp (by rw [← hsp, h2])
        · exact hst (by rw [← hsp]; exact h2)
      have hlt : r.length < k := by
        have : 0 < c.length := List.length_pos_iff.2 hce
        omega
      rw [if_neg (fun h => hst h.1)]
      have hg := globs_chunk (r := r) hc hn
      rw [hsp, hun] at hg
      rw [hg]
      cases hm : mch c n with
      | none => simp only; rw [if_neg hst]
      | some t =>
        simp only
        have htn : ∀ x ∈ t, x ≠ 47 := fun y hy => hn y (by obtain ⟨u, hu⟩ := mch_suffix hm; rw [← hu]; simp [hy])
        by_cases hl : t = [] ∨ r ≠ []
        · rw [if_pos hl]
          exact gm_globs k r t hlt htn
        · rw [if_neg hl]
          simp only
          rw [if_neg hst]
          have hr0 : r = [] := Classical.byContradiction (fun h => hl (.inr h))
          have ht0 : t ≠ [] := fun h => hl (.inl h)
          rw [hr0]
          cases t with
          | nil => exact absurd rfl ht0
          | cons x y => rfl
end Go.Proofs.Ytbiflpbajgafaaa.ign
