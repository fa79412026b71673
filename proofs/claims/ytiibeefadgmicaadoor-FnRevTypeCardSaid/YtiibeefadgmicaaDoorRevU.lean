/- Revisions: which parts a text is read as: scripts; names, steps, numbers. Plain. -/
import Derived.Test.YtiibeefadgmicaaDoorRevT
import Derived.Lib.ItoaNum
namespace Go.Proofs.YtiibeefadgmicaaDoor.rev
open Go.RowKit Go.Proofs.YtiibeefadgmicaaDoorW.PrintWords Go.Proofs.YtiibeefadgmicaaDoorW.PrintLast Go.Proofs.YtiibeefadgmicaaDoorW.PrintMore Go.Proofs.YtiibeefadgmicaaDoor.PFnRevSteps
set_option linter.unusedVariables false
set_option linter.unusedSimpArgs false
set_option maxHeartbeats 2000000
set_option maxRecDepth 100000
theorem w64_id {x : Int} (h0 : -9223372036854775808 ≤ x) (h1 : x ≤ 9223372036854775807) : wrap64 x = x := w64 h0 (by omega)
theorem txt_list (s : ByteArray) : txt s.data.toList = s := by
  unfold txt
  simp
/-! ### Numbers -/
theorem decFrom_snoc (l : List UInt8) (b : UInt8) : ∀ a : Nat, Lib.decFrom a (l ++ [b]) = (Lib.decFrom a l).bind fun v => (Lib.digitVal b).map fun d => v * 10 + d := by
  induction l with
  | nil =>
    intro a
    simp only [List.nil_append, Lib.decFrom, Option.bind_some]
    cases Lib.digitVal b <;> rfl
  | cons c l ih =>
    intro a
    simp only [List.cons_append, Lib.decFrom]
    cases Lib.digitVal c with
    | none => rfl
    | some d => exact ih _
theorem digitVal_of {d : Nat} (h : d < 10) : Lib.digitVal (UInt8.ofNat (48 + d)) = some d := by
  unfold Lib.digitVal
  have : (UInt8.ofNat (48 + d)).toNat = 48 + d := by rw [UInt8.toNat_ofNat']; omega
  rw [this, if_pos (by omega)]
  congr 1
  omega
theorem dec_all (u : Nat) : (∀ x ∈ Lib.decDigits u, isD x = true) ∧ Lib.decDigits u ≠ [] ∧ Lib.decFrom 0 (Lib.decDigits u) = some u := by
  induction u using Nat.strongRecOn with
  | _ u ih =>
    have hd : ∀ d : Nat, d < 10 → isD (UInt8.ofNat (48 + d)) = true := fun d h => by
      unfold isD
      have : (UInt8.ofNat (48 + d)).toNat = 48 + d := by rw [UInt8.toNat_ofNat']; omega
      rw [this]
      simp
      omega
    by_cases h : u < 10
    · rw [Lib.decDigits, dif_pos h]
      refine ⟨fun x hx => by rw [List.mem_singleton.1 hx]; exact hd u h, by simp, ?_⟩
      simp only [Lib.decFrom, digitVal_of h]
      congr 1
      omega
    · obtain ⟨h1, h2, h3⟩ := ih (u / 10) (by omega)
      rw [Lib.decDigits, dif_neg h]
      refine ⟨fun x hx => ?_, by simp, ?_⟩
      · rcases List.mem_append.1 hx with hx | hx
        · exact h1 x hx
        · rw [List.mem_singleton.1 hx]; exact hd _ (by omega)
      · rw [decFrom_snoc, h3, Option.bind_some, digitVal_of (by omega), Option.map_some]
        congr 1
        omega
theorem dec_atoi (u : Nat) : Lib.atoi (Lib.decDigits u) = some (u : Int) := by
  obtain ⟨h1, h2, h3⟩ := dec_all u
  cases hd : Lib.decDigits u with
  | nil => exact absurd hd h2
  | cons b r =>
    rw [hd] at h1 h3
    have hb := h1 b (.head _)
    unfold isD at hb
    simp only [Bool.and_eq_true, decide_eq_true_eq] at hb
    unfold Lib.atoi
    simp only
    rw [if_neg (by rw [beq_iff_eq]; intro e; rw [e] at hb; revert hb; decide), if_neg (by rw [beq_iff_eq]; intro e; rw [e] at hb; revert hb; decide)]
    unfold Lib.decNat
    rw [if_neg (by simp), h3]
    rfl
theorem dec_len : ∀ (k u : Nat), u < 10 ^ (k + 1) → (Lib.decDigits u).length ≤ k + 1
  | 0, u, h => by rw [Lib.decDigits, dif_pos (by simpa using h)]; exact Nat.le_refl _
  | k + 1, u, h => by
    by_cases hu : u < 10
    · rw [Lib.decDigits, dif_pos hu]; simp
    · rw [Lib.decDigits, dif_neg hu, List.length_append, List.length_singleton]
      have := dec_len k (u / 10) (by rw [Nat.pow_succ] at h; omega)
      omega
/-! ### Scripts -/
/-- The parser before a text: nothing, or the text's first token, has been read. -/
def Before (st : St) (t : List UInt8) : Prop := st.next = (nx t).1 ∧ st.step = ⟨false, (nx t).1, (nx t).2⟩
theorem before_new (c : Tok) (t : List UInt8) : Before ⟨false, c, t⟩ t := ⟨rfl, rfl⟩
theorem before_back (t : List UInt8) : Before ⟨true, (nx t).1, (nx t).2⟩ t := ⟨rfl, rfl⟩
theorem script_nil {p : Pa} {st : St} (h : Before st []) : Script p st [] true := .done (by rw [h.1]; rfl)
/-- A name, and what follows. -/
theorem script_name {p : Pa} {nl tail : List UInt8} {rest : List Rev} {b : Bool} {c : Tok} (hne : nl ≠ []) (hA : ∀ x ∈ nl, isA x = true) (hlen : nl.length ≤ 100000) (hend : Ends tail) (htl : (nx tail).1.t = 0 ∨ (nx tail).1.t = 3 ∨ (nx tail).1.t = 17 ∨ (nx tail).1.t = 4)
    (hs : Script p ⟨true, (nx tail).1, (nx tail).2⟩ rest b) : Script p ⟨false, c, nl ++ tail⟩ (.ref nl :: rest) b := by
  cases nl with
  | nil => exact absurd rfl hne
  | cons y m =>
    obtain ⟨k, lit, m', hk, hnx, hlm, hl⟩ := nx_word (m := m) (hA y (.head _)) hend
    have hn : St.next ⟨false, c, y :: m ++ tail⟩ = ⟨k, lit⟩ := by unfold St.next; rw [if_neg (by simp), hnx]
    have hst : St.step ⟨false, c, y :: m ++ tail⟩ = ⟨false, ⟨k, lit⟩, m' ++ tail⟩ := by unfold St.step; rw [if_neg (by simp), hnx]
    refine .ref (st' := ⟨true, (nx tail).1, (nx tail).2⟩) (by rw [hn]; exact hk) (fun W hW => ?_) hs
    rw [hst] at hW
    have := parseRef_any W p ⟨k, lit⟩ m' tail hW hk (fun x hx => hA x (by rw [← hlm]; exact List.mem_append_left _ hx)) (fun x hx => hA x (by rw [← hlm]; exact List.mem_append_right _ hx)) (by rw [hlm]; exact hlen) hend htl
    rw [hlm] at this
    exact this
/-- A step back: so many times, or to a parent. -/
inductive Stp where
  | t (n : Nat)
  | c (n : Nat)
def Stp.text : Stp → List UInt8
  | .t n => 126 :: Lib.decDigits n
  | .c n => 94 :: Lib.decDigits n
def Stp.rev : Stp → Rev
  | .t n => .tilde n
  | .c n => .caret n
def Stp.ok : Stp → Prop
  | .t n => n ≤ 1000000
  | .c n => n ≤ 2
def stepsT : List Stp → List UInt8
  | [] => []
  | s :: r => s.text ++ stepsT r
theorem steps_ends : ∀ l : List Stp, Ends (stepsT l)
  | [] => ends_nil
  | .t n :: r => ends_cons (by decide)
  | .c n :: r => ends_cons (by decide)
theorem steps_first (l : List Stp) : (nx (stepsT l)).1.t = 0 ∨ (nx (stepsT l)).1.t = 3 ∨ (nx (stepsT l)).1.t = 17 ∨ (nx (stepsT l)).1.t = 4 := by
  cases l with
  | nil => exact .inl rfl
  | cons s r =>
    cases s with
    | t n => exact .inr (.inr (.inl rfl))
    | c n => exact .inr (.inr (.inr rfl))
theorem script_steps {p : Pa} : ∀ (l : List Stp) (st : St), (∀ s ∈ l, s.ok) → Before st (stepsT l) → Script p st (l.map Stp.rev) true
  | [], st, _, h => script_nil h
  | .t n :: r, st, hok, h => by
    obtain ⟨h1, h2, h3⟩ := dec_all n
    have hn : n ≤ 1000000 := hok _ (.head _)
    have hnx : nx (stepsT (.t n :: r)) = (⟨17, [126]⟩, Lib.decDigits n ++ stepsT r) := rfl
    obtain ⟨b1, b2⟩ := h
    rw [hnx] at b1 b2
    have hnum := nx_num h1 h2 (steps_ends r)
    have e1 : St.next ⟨false, ⟨17, [126]⟩, Lib.decDigits n ++ stepsT r⟩ = ⟨11, Lib.decDigits n⟩ := by unfold St.next; rw [if_neg (by simp), hnum]
    have e2 : St.step ⟨false, ⟨17, [126]⟩, Lib.decDigits n ++ stepsT r⟩ = ⟨false, ⟨11, Lib.decDigits n⟩, stepsT r⟩ := by unfold St.step; rw [if_neg (by simp), hnum]
    refine .tilde (st' := ⟨false, ⟨11, Lib.decDigits n⟩, stepsT r⟩) (by rw [b1]) (fun W hW => ?_) (script_steps r _ (fun s hs => hok s (.tail _ hs)) (before_new _ _))
    rw [b2] at hW
    have := parseTilde_num W p _ (Lib.decDigits n) n hW e1 (Nat.le_trans (dec_len 6 n (by omega)) (by decide)) (dec_atoi n)
    rw [e2] at this
    exact this
  | .c n :: r, st, hok, h => by
    obtain ⟨h1, h2, h3⟩ := dec_all n
    have hn : n ≤ 2 := hok _ (.head _)
    have hnx : nx (stepsT (.c n :: r)) = (⟨4, [94]⟩, Lib.decDigits n ++ stepsT r) := rfl
    obtain ⟨b1, b2⟩ := h
    rw [hnx] at b1 b2
    have hnum := nx_num h1 h2 (steps_ends r)
    have e1 : St.next ⟨false, ⟨4, [94]⟩, Lib.decDigits n ++ stepsT r⟩ = ⟨11, Lib.decDigits n⟩ := by unfold St.next; rw [if_neg (by simp), hnum]
    have e2 : St.step ⟨false, ⟨4, [94]⟩, Lib.decDigits n ++ stepsT r⟩ = ⟨false, ⟨11, Lib.decDigits n⟩, stepsT r⟩ := by unfold St.step; rw [if_neg (by simp), hnum]
    refine .caret (st' := ⟨false, ⟨11, Lib.decDigits n⟩, stepsT r⟩) (by rw [b1]) (fun W hW => ?_) (script_steps r _ (fun s hs => hok s (.tail _ hs)) (before_new _ _))
    rw [b2] at hW
    have := parseCaret_num W p _ (Lib.decDigits n) n hW e1 (Nat.le_trans (dec_len 6 n (by omega)) (by decide)) (dec_atoi n) (by omega)
    rw [e2] at this
    exact this
/-- A kind in braces. -/
theorem script_kind {p : Pa} {st : St} {k : List UInt8} (hk : k ∈ kinds) (h : Before st (94 :: 123 :: (k ++ [125]))) : Script p st [.ctype k] true := by
  obtain ⟨b1, b2⟩ := h
  rw [nx_sym (by decide)] at b1 b2
  have hnx : nx (k ++ [125]) = (⟨19, k⟩, [125]) := by
    simp only [kinds, List.mem_cons, List.not_mem_nil, or_false] at hk
    rcases hk with rfl | rfl | rfl | rfl | rfl <;> rfl
  refine .caret (st' := ⟨false, ⟨5, [125]⟩, []⟩) (by rw [b1]; rfl) (fun W hW => ?_) (script_nil (before_new _ _))
  rw [b2] at hW
  refine parseCaret_ok W p _ _ [123] _ _ hW rfl (fun W2 hW2 => ?_)
  have e : St.step ⟨false, ⟨4, [94]⟩, 123 :: (k ++ [125])⟩ = ⟨false, ⟨12, [123]⟩, k ++ [125]⟩ := rfl
  rw [show symTok 94 = 4 from rfl, e] at hW2
  have e1 : St.next ⟨false, ⟨12, [123]⟩, k ++ [125]⟩ = ⟨19, k⟩ := by unfold St.next; rw [if_neg (by simp), hnx]
  have e2 : St.step ⟨false, ⟨12, [123]⟩, k ++ [125]⟩ = ⟨false, ⟨19, k⟩, [125]⟩ := by unfold St.step; rw [if_neg (by simp), hnx]
  have := braces_kind W2 p _ k [125] hW2 e1 hk (by rw [e2]; rfl)
  rw [e2] at this
  exact this
theorem script_tag {p : Pa} {st : St} (h : Before st [94, 123, 125]) : Script p st [.ctype [116, 97, 103]] true := by
  obtain ⟨b1, b2⟩ := h
  refine .caret (st' := ⟨false, ⟨0, []⟩, []⟩) (by rw [b1]; rfl) (fun W hW => ?_) (script_nil (before_new _ _))
  rw [b2] at hW
  refine parseCaret_ok W p _ _ [123] _ _ hW rfl (fun W2 hW2 => ?_)
  exact braces_tag W2 p _ [125] [] 0 hW2 rfl rfl
theorem script_u {p : Pa} {st : St} (h : Before st [64, 123, 117, 125]) : Script p st [.up] true := by
  obtain ⟨b1, b2⟩ := h
  refine .at_ (st' := ⟨false, ⟨5, [125]⟩, []⟩) (by rw [b1]; rfl) (fun W hW => ?_) (script_nil (before_new _ _))
  rw [b2] at hW
  exact parseAt_u W p _ [123] [125] hW rfl rfl rfl
theorem script_up {p : Pa} {st : St} (h : Before st [64, 123, 117, 112, 115, 116, 114, 101, 97, 109, 125]) : Script p st [.up] true := by
  obtain ⟨b1, b2⟩ := h
  refine .at_ (st' := ⟨false, ⟨5, [125]⟩, []⟩) (by rw [b1]; rfl) (fun W hW => ?_) (script_nil (before_new _ _))
  rw [b2] at hW
  exact parseAt_upstream W p _ [123] [125] hW rfl rfl rfl
theorem script_push {p : Pa} {st : St} (h : Before st [64, 123, 112, 117, 115, 104, 125]) : Script p st [.push] true := by
  obtain ⟨b1, b2⟩ := h
  refine .at_ (st' := ⟨false, ⟨5, [125]⟩, []⟩) (by rw [b1]; rfl) (fun W hW => ?_) (script_nil (before_new _ _))
  rw [b2] at hW
  exact parseAt_push W p _ [123] [125] hW rfl rfl rfl
/-- A word that begins with a letter. -/
theorem nx_letter {c : UInt8} {m : List UInt8} (hc : isL c = true) (hm : ∀ x ∈ m, isA x = true) : ∃ lit m', nx (c :: m) = (⟨19, lit⟩, m') ∧ lit ++ m' = c :: m := by
  refine ⟨c :: m.takeWhile isL, m.dropWhile isL, by rw [nx, if_pos hc], ?_⟩
  rw [List.cons_append, List.takeWhile_append_dropWhile]
theorem nx_A {m : List UInt8} (hm : ∀ x ∈ m, isA x = true) : ∃ t s r, nx m = (⟨t, s⟩, r) ∧ (t = 0 ∨ t = 11 ∨ t = 19) := by
  cases m with
  | nil => exact ⟨0, [], [], rfl, .inl rfl⟩
  | cons y m =>
    obtain ⟨k, lit, m', hk, hnx, _, _⟩ := nx_word (m := m) (t := []) (hm y (.head _)) ends_nil
    rw [List.append_nil, List.append_nil] at hnx
    exact ⟨k, lit, m', hnx, .inr hk.symm⟩
theorem script_bad1 {p : Pa} {st : St} {c : UInt8} {m : List UInt8} (hc : isL c = true) (hm : ∀ x ∈ m, isA x = true) (h : Before st (94 :: 123 :: c :: m)) : Script p st [] false := by
  obtain ⟨b1, b2⟩ := h
  rw [nx_sym (by decide)] at b1 b2
  obtain ⟨lit, m', hnx, hcat⟩ := nx_letter hc hm
  obtain ⟨t2, s2, r2, hnx2, ht2⟩ := nx_A (m := m') (fun x hx => by
    have : x ∈ c :: m := by rw [← hcat]; exact List.mem_append_right _ hx
    rcases List.mem_cons.1 this with rfl | h
    · exact isL_A _ hc
    · exact hm x h)
  refine .caretBad (by rw [b1]; rfl) (fun W hW => ?_)
  rw [b2] at hW
  refine parseCaret_bad W p _ [123] hW rfl (fun W2 hW2 => ?_)
  have e : St.step ⟨false, ⟨4, [94]⟩, 123 :: c :: m⟩ = ⟨false, ⟨12, [123]⟩, c :: m⟩ := rfl
  rw [show symTok 94 = 4 from rfl, e] at hW2
  have e1 : St.next ⟨false, ⟨12, [123]⟩, c :: m⟩ = ⟨19, lit⟩ := by unfold St.next; rw [if_neg (by simp), hnx]
  have e2 : St.step ⟨false, ⟨12, [123]⟩, c :: m⟩ = ⟨false, ⟨19, lit⟩, m'⟩ := by unfold St.step; rw [if_neg (by simp), hnx]
  exact braces_bad W2 p _ lit s2 t2 hW2 e1 (by rw [e2]; unfold St.next; rw [if_neg (by simp), hnx2]) ht2
theorem script_bad2 {p : Pa} {st : St} {c : UInt8} {m : List UInt8} (hc : isL c = true) (hm : ∀ x ∈ m, isA x = true) (hlen : m.length ≤ 3999) (h : Before st (64 :: 123 :: c :: m)) : Script p st [] false := by
  obtain ⟨b1, b2⟩ := h
  rw [nx_sym (by decide)] at b1 b2
  obtain ⟨lit, m', hnx, hcat⟩ := nx_letter hc hm
  refine .atBad (by rw [b1]; rfl) (fun W hW => ?_)
  rw [b2] at hW
  have e : St.step ⟨false, ⟨3, [64]⟩, 123 :: c :: m⟩ = ⟨false, ⟨12, [123]⟩, c :: m⟩ := rfl
  have e1 : St.next ⟨false, ⟨12, [123]⟩, c :: m⟩ = ⟨19, lit⟩ := by unfold St.next; rw [if_neg (by simp), hnx]
  have e2 : St.step ⟨false, ⟨12, [123]⟩, c :: m⟩ = ⟨false, ⟨19, lit⟩, m'⟩ := by unfold St.step; rw [if_neg (by simp), hnx]
  rw [show symTok 64 = 3 from rfl] at hW
  refine parseAt_bad W p _ [123] lit m' hW rfl (by rw [e, e1]) (by rw [e, e2]) (fun x hx => ?_) (by rw [← List.length_append, hcat, List.length_cons]; omega)
  have : x ∈ c :: m := by rw [← hcat]; exact List.mem_append_right _ hx
  rcases List.mem_cons.1 this with rfl | h
  · exact isL_A _ hc
  · exact hm x h
end Go.Proofs.YtiibeefadgmicaaDoor.rev
