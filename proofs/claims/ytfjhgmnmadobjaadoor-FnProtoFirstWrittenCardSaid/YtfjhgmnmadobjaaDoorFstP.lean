/- The first line of a conversation: its text, plain; what words are. -/
import Derived.Test.YtfjhgmnmadobjaaDoorMFnProtoFirstWrittenx3
import Derived.Test.YtfjhgmnmadobjaaDoorPFnProtoFirstWrittenx1
import Derived.Test.YtfjhgmnmadobjaaDoorEncS
namespace Go.Proofs.YtfjhgmnmadobjaaDoor.fst
open Go.RowKit Go.Proofs.YtfjhgmnmadobjaaDoorW.PrintWords Go.Proofs.YtfjhgmnmadobjaaDoorW.PrintLast Go.Proofs.YtfjhgmnmadobjaaDoorW.PrintMore Go.Proofs.YtfjhgmnmadobjaaDoor.PFnProtoFirstWritten Go.Proofs.YtfjhgmnmadobjaaDoor.pkt Go.Proofs.YtfjhgmnmadobjaaDoor.buf Go.Proofs.YtfjhgmnmadobjaaDoor.enc
set_option linter.unusedVariables false
set_option linter.unusedSimpArgs false
set_option maxHeartbeats 2000000
set_option maxRecDepth 100000
/-- Something is said, and if it is yes, Q holds. -/
def Yes (Q : Prop) (o : Option Bool) : Prop := ∃ b, o = some b ∧ (b = true → Q)
theorem Yes.no (Q : Prop) : Yes Q (some false) := ⟨false, rfl, fun h => by cases h⟩
theorem Yes.ite {Q : Prop} {c : Prop} [Decidable c] {a b : Option Bool} (h : Yes Q a) (k : Yes Q b) : Yes Q (if c then a else b) := by
  by_cases hc : c
  · rw [if_pos hc]; exact h
  · rw [if_neg hc]; exact k
theorem word_l0 (s : ByteArray) (hs : s.size ≤ 2147483647) : ∀ (d i k : Nat), i + d = s.size → d < k → Yes (1 ≤ s.size ∧ s.size ≤ 60) (spec_IsWord.l0 k s (s.size : Int) (i : Int)) := by
  intro d
  induction d with
  | zero =>
    intro i k hi hk
    obtain ⟨k, rfl⟩ : ∃ m, k = m + 1 := ⟨k - 1, by omega⟩
    rw [spec_IsWord.l0, if_neg (by omega)]
    by_cases h1 : (s.size : Int) ≥ 1
    · rw [if_pos h1]
      exact ⟨_, rfl, fun h => ⟨by omega, by have := of_decide_eq_true h; omega⟩⟩
    · rw [if_neg h1]; exact Yes.no _
  | succ d ih =>
    intro i k hi hk
    obtain ⟨k, rfl⟩ : ∃ m, k = m + 1 := ⟨k - 1, by omega⟩
    have IH := ih (i + 1) k (by omega) (by omega)
    rw [spec_IsWord.l0, if_pos (by omega), if_pos (by omega), if_pos (by omega), show wrap64 ((i : Int) + 1) = ((i + 1 : Nat) : Int) by unfold wrap64; omega]
    repeat (first | exact IH | exact Yes.no _ | refine Yes.ite ?_ ?_)
theorem word_says (s : ByteArray) (k : Nat) (hs : s.size ≤ 2147483647) (hk : 2147483648 ≤ k) : Yes (1 ≤ s.size ∧ s.size ≤ 60) (spec_IsWord.f k s) := word_l0 s hs s.size 0 k (by omega) (by omega)
/-- What the parts of a first line are. -/
structure FstOk (c p h : ByteArray) (l : List ByteArray) : Prop where
  c : 1 ≤ c.size ∧ c.size ≤ 60
  p : 1 ≤ p.size ∧ p.size ≤ 60
  h : h.size ≤ 60
  n : l.length ≤ 9
  l : ∀ e ∈ l, e.size ≤ 60
theorem rdOf_list (l : List ByteArray) (j : Nat) (hj : j < l.length) : rdOf ByteArray.empty l (j : Int) = l[j] := by
  unfold rdOf
  rw [Int.toNat_natCast, List.getD_eq_getElem?_getD, List.getElem?_eq_getElem hj]
  rfl
theorem size_nil {h : ByteArray} (e : h.toList = []) : h = ⟨#[]⟩ := by
  rw [ByteArray.toList_eq] at e
  apply ByteArray.ext
  exact Array.toList_eq_nil_iff.1 e
theorem good_l0 (c p h : ByteArray) (l : List ByteArray) (hc : c.size ≤ 2147483647) (hp : p.size ≤ 2147483647) (hh : h.size ≤ 2147483647) (hl : l.length ≤ 2147483647) (hle : ∀ e ∈ l, e.size ≤ 2147483647) :
    ∀ (d i k : Nat), i + d = l.length → d + 2147483648 < k → (∀ j (hj : j < l.length), j < i → l[j].size ≤ 60) → Yes (FstOk c p h l) (laws_protoGood.l0 k c p h l l (l.length : Int) (i : Int)) := by
  intro d
  induction d with
  | zero =>
    intro i k hi hk hq
    obtain ⟨k, rfl⟩ : ∃ m, k = m + 1 := ⟨k - 1, by omega⟩
    rw [laws_protoGood.l0, if_neg (by omega)]
    have hal : ∀ e ∈ l, e.size ≤ 60 := fun e he => by
      obtain ⟨j, hj, rfl⟩ := List.getElem_of_mem he
      exact hq j hj (by omega)
    obtain ⟨b1, e1, q1⟩ := word_says c k hc (by omega)
    obtain ⟨b2, e2, q2⟩ := word_says p k hp (by omega)
    obtain ⟨b3, e3, q3⟩ := word_says h k hh (by omega)
    rw [e1, e2, e3]
    simp only [Option.bind_some]
    cases b1 with
    | false => exact Yes.no _
    | true =>
      rw [if_pos rfl]
      cases b2 with
      | false => exact Yes.no _
      | true =>
        rw [if_pos rfl]
        by_cases h0 : h.toList = ([] : List UInt8)
        · rw [if_pos h0]
          refine ⟨_, rfl, fun hd => ⟨q1 rfl, q2 rfl, ?_, by have := of_decide_eq_true hd; omega, hal⟩⟩
          rw [size_nil h0]; decide
        · rw [if_neg h0]
          cases b3 with
          | false => exact Yes.no _
          | true =>
            rw [if_pos rfl]
            exact ⟨_, rfl, fun hd => ⟨q1 rfl, q2 rfl, (q3 rfl).2, by have := of_decide_eq_true hd; omega, hal⟩⟩
  | succ d ih =>
    intro i k hi hk hq
    obtain ⟨k, rfl⟩ : ∃ m, k = m + 1 := ⟨k - 1, by omega⟩
    have hlt : i < l.length := by omega
    rw [laws_protoGood.l0, if_pos (by omega), if_pos (by omega), if_pos (by omega), rdOf_list l i hlt]
    obtain ⟨b1, e1, q1⟩ := word_says (l[i]) k (hle _ (List.getElem_mem hlt)) (by omega)
    rw [e1]
    simp only [Option.bind_some]
    cases b1 with
    | false => exact Yes.no _
    | true =>
      rw [if_pos rfl, show wrap64 ((i : Int) + 1) = ((i + 1 : Nat) : Int) by unfold wrap64; omega]
      refine ih (i + 1) k (by omega) (by omega) (fun j hj hji => ?_)
      by_cases hjj : j = i
      · subst hjj; exact (q1 rfl).2
      · exact hq j hj (by omega)
theorem good_says (c p h : ByteArray) (l : List ByteArray) (hc : c.size ≤ 2147483647) (hp : p.size ≤ 2147483647) (hh : h.size ≤ 2147483647) (hl : l.length ≤ 2147483647) (hle : ∀ e ∈ l, e.size ≤ 2147483647) :
    Yes (FstOk c p h l) (laws_protoGood.f 4294967297 c p h l) := good_l0 c p h l hc hp hh hl hle l.length 0 _ (by omega) (by omega) (fun j hj h => by omega)
theorem fits_l0 (l : List ByteArray) (hl : l.length ≤ 2147483647) : ∀ (d i k : Nat), i + d = l.length → d < k → (∀ j (hj : j < l.length), j < i → l[j].size ≤ 2147483647) → Yes (l.length ≤ 2147483647 ∧ ∀ e ∈ l, e.size ≤ 2147483647) (laws_zzFits16.l0 k l (l.length : Int) (i : Int)) := by
  intro d
  induction d with
  | zero =>
    intro i k hi hk hq
    obtain ⟨k, rfl⟩ : ∃ m, k = m + 1 := ⟨k - 1, by omega⟩
    rw [laws_zzFits16.l0, if_neg (by omega)]
    exact ⟨true, rfl, fun _ => ⟨hl, fun e he => by
      obtain ⟨j, hj, rfl⟩ := List.getElem_of_mem he
      exact hq j hj (by omega)⟩⟩
  | succ d ih =>
    intro i k hi hk hq
    obtain ⟨k, rfl⟩ : ∃ m, k = m + 1 := ⟨k - 1, by omega⟩
    have hlt : i < l.length := by omega
    rw [laws_zzFits16.l0, if_pos (by omega), if_pos (by omega), if_pos (by omega), rdOf_list l i hlt]
    by_cases h : ((l[i]).size : Int) > 2147483647
    · rw [if_pos h]; exact Yes.no _
    · rw [if_neg h, show wrap64 ((i : Int) + 1) = ((i + 1 : Nat) : Int) by unfold wrap64; omega]
      refine ih (i + 1) k (by omega) (by omega) (fun j hj hji => ?_)
      by_cases hjj : j = i
      · subst hjj; omega
      · exact hq j hj (by omega)
theorem fits_says (l : List ByteArray) : Yes (l.length ≤ 2147483647 ∧ ∀ e ∈ l, e.size ≤ 2147483647) (laws_zzFits16.f (l.length + 1) l) := by
  unfold laws_zzFits16.f
  by_cases h : (l.length : Int) > 2147483647
  · rw [if_pos h]; exact Yes.no _
  · rw [if_neg h]
    exact fits_l0 l (by omega) l.length 0 _ (by omega) (by omega) (fun j hj h => by omega)
/-- The line's text. -/
def headT (c p : ByteArray) : ByteArray := ((c ++ (⟨#[32]⟩ : ByteArray)) ++ p) ++ (⟨#[0]⟩ : ByteArray)
def hostT (h : ByteArray) : ByteArray := ((⟨#[104, 111, 115, 116, 61]⟩ : ByteArray) ++ h) ++ (⟨#[0]⟩ : ByteArray)
def withHost (r h : ByteArray) : ByteArray := if h.size = 0 then r else r ++ hostT h
def ext (r : ByteArray) (l : List ByteArray) : ByteArray := l.foldl (fun a e => a ++ (e ++ (⟨#[0]⟩ : ByteArray))) r
def withExt (r : ByteArray) (l : List ByteArray) : ByteArray := if l = [] then r else ext (r ++ (⟨#[0]⟩ : ByteArray)) l
def fstT (c p h : ByteArray) (l : List ByteArray) : ByteArray := withExt (withHost (headT c p) h) l
theorem ext_nil (r : ByteArray) : ext r [] = r := rfl
theorem ext_snoc (r : ByteArray) (l : List ByteArray) (e : ByteArray) : ext r (l ++ [e]) = ext r l ++ (e ++ (⟨#[0]⟩ : ByteArray)) := by unfold ext; rw [List.foldl_append]; rfl
theorem ext_take (r : ByteArray) (l : List ByteArray) (k : Nat) (hk : k < l.length) : ext r (l.take (k + 1)) = ext r (l.take k) ++ (l[k] ++ (⟨#[0]⟩ : ByteArray)) := by
  rw [List.take_succ_eq_append_getElem hk, ext_snoc]
theorem ext_size (r : ByteArray) : ∀ l : List ByteArray, (∀ e ∈ l, e.size ≤ 60) → (ext r l).size ≤ r.size + 61 * l.length := by
  intro l
  induction l generalizing r with
  | nil => intro _; exact Nat.le_refl _
  | cons e l ih =>
    intro h
    show (ext (r ++ (e ++ (⟨#[0]⟩ : ByteArray))) l).size ≤ _
    refine Nat.le_trans (ih _ (fun x hx => h x (.tail _ hx))) ?_
    have := h e (.head _)
    rw [ByteArray.size_append, ByteArray.size_append, List.length_cons]
    show r.size + (e.size + 1) + _ ≤ _
    omega
theorem headT_size (c p : ByteArray) : (headT c p).size = c.size + p.size + 2 := by
  unfold headT
  rw [ByteArray.size_append, ByteArray.size_append, ByteArray.size_append]
  show c.size + 1 + p.size + 1 = _
  omega
theorem hostT_size (h : ByteArray) : (hostT h).size = h.size + 6 := by
  unfold hostT
  rw [ByteArray.size_append, ByteArray.size_append]
  show 5 + h.size + 1 = _
  omega
theorem withHost_size (r h : ByteArray) : r.size ≤ (withHost r h).size ∧ (withHost r h).size ≤ r.size + h.size + 6 := by
  unfold withHost
  by_cases e : h.size = 0
  · rw [if_pos e]; omega
  · rw [if_neg e, ByteArray.size_append, hostT_size]; omega
theorem fstT_size {c p h : ByteArray} {l : List ByteArray} (ok : FstOk c p h l) : 0 < (fstT c p h l).size ∧ (fstT c p h l).size ≤ 2000 := by
  obtain ⟨h1, h2⟩ := withHost_size (headT c p) h
  rw [headT_size] at h1 h2
  have hc := ok.c
  have hp := ok.p
  have hh := ok.h
  have hn := ok.n
  unfold fstT withExt
  by_cases e : l = []
  · rw [if_pos e]; omega
  · rw [if_neg e]
    have h3 := ext_size (withHost (headT c p) h ++ (⟨#[0]⟩ : ByteArray)) l ok.l
    have h4 : ∀ (l : List ByteArray) (r : ByteArray), r.size ≤ (ext r l).size := by
      intro l
      induction l with
      | nil => exact fun r => Nat.le_refl _
      | cons e l ih =>
        intro r
        refine Nat.le_trans ?_ (ih (r ++ (e ++ (⟨#[0]⟩ : ByteArray))))
        rw [ByteArray.size_append]; omega
    have h5 := h4 l (withHost (headT c p) h ++ (⟨#[0]⟩ : ByteArray))
    rw [ByteArray.size_append] at h3 h5
    have e1 : (⟨#[0]⟩ : ByteArray).size = 1 := rfl
    rw [e1] at h3 h5
    omega
end Go.Proofs.YtfjhgmnmadobjaaDoor.fst
