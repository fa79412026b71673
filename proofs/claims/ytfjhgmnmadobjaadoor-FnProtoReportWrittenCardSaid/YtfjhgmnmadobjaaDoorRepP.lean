/- A report: its lines, plain; what a good report is. -/
import Derived.Test.YtfjhgmnmadobjaaDoorMFnProtoReportWrittenx1
import Derived.Test.YtfjhgmnmadobjaaDoorMFnProtoReportWrittenx3
import Derived.Test.YtfjhgmnmadobjaaDoorEncS
import Derived.Test.YtfjhgmnmadobjaaDoorPtr
import Derived.WalkSpells
namespace Go.Proofs.YtfjhgmnmadobjaaDoor.rep
open Go.RowKit Go.Proofs.YtfjhgmnmadobjaaDoorW.PrintWords Go.Proofs.YtfjhgmnmadobjaaDoorW.PrintLast Go.Proofs.YtfjhgmnmadobjaaDoorW.PrintMore Go.Proofs.YtfjhgmnmadobjaaDoor.PFnProtoReportWritten Go.Proofs.YtfjhgmnmadobjaaDoor.pkt Go.Proofs.YtfjhgmnmadobjaaDoor.buf Go.Proofs.YtfjhgmnmadobjaaDoor.enc Go.Proofs.YtfjhgmnmadobjaaDoor.ptr
set_option linter.unusedVariables false
set_option linter.unusedSimpArgs false
set_option maxHeartbeats 2000000
set_option maxRecDepth 100000
/-- Something is said, and if it is yes, Q holds. -/
def Yes (Q : Prop) (o : Option Bool) : Prop := ∃ b, o = some b ∧ (b = true → Q)
theorem Yes.no (Q : Prop) : Yes Q (some false) := ⟨false, rfl, fun h => by cases h⟩
theorem Yes.ite {Q : Prop} {c : Prop} [Decidable c] {a b : Option Bool} (h : Yes Q a) (k : Yes Q b) : Yes Q (if c then a else b) := by
  by_cases hc : c
  · rw [if_pos hc]; exact h
  · rw [if_neg hc]; exact k
theorem word_l0 (s : ByteArray) (hs : s.size ≤ 2147483647) : ∀ (d i k : Nat), i + d = s.size → d < k → Yes (1 ≤ s.size ∧ s.size ≤ 60) (spec_IsWord.l0 k s (s.size : Int) (i : Int)) := by
  intro d
  induction d with
  | zero =>
    intro i k hi hk
    obtain ⟨k, rfl⟩ : ∃ m, k = m + 1 := ⟨k - 1, by omega⟩
    rw [spec_IsWord.l0, if_neg (by omega)]
    by_cases h1 : (s.size : Int) ≥ 1
    · rw [if_pos h1]
      exact ⟨_, rfl, fun h => ⟨by omega, by have := of_decide_eq_true h; omega⟩⟩
    · rw [if_neg h1]; exact Yes.no _
  | succ d ih =>
    intro i k hi hk
    obtain ⟨k, rfl⟩ : ∃ m, k = m + 1 := ⟨k - 1, by omega⟩
    have IH := ih (i + 1) k (by omega) (by omega)
    rw [spec_IsWord.l0, if_pos (by omega), if_pos (by omega), if_pos (by omega), show wrap64 ((i : Int) + 1) = ((i + 1 : Nat) : Int) by unfold wrap64; omega]
    repeat (first | exact IH | exact Yes.no _ | refine Yes.ite ?_ ?_)
theorem word_says (s : ByteArray) (k : Nat) (hs : s.size ≤ 2147483647) (hk : 2147483648 ≤ k) : Yes (1 ≤ s.size ∧ s.size ≤ 60) (spec_IsWord.f k s) := word_l0 s hs s.size 0 k (by omega) (by omega)
theorem refName_says (s : ByteArray) (k : Nat) (hs : s.size ≤ 2147483647) (hk : 2147483648 ≤ k) : Yes (1 ≤ s.size ∧ s.size ≤ 60) (spec_isRefName.f k s) := by
  unfold spec_isRefName.f
  by_cases h : (s.size : Int) > 5
  · rw [if_pos h, if_pos (by decide), if_pos (by omega)]
    obtain ⟨b, e, q⟩ := word_says s k hs hk
    rw [e]
    exact Yes.ite ⟨b, rfl, q⟩ (Yes.no _)
  · rw [if_neg h]; exact Yes.no _
/-- A report that may be written. -/
def Ok1 (x : S53) : Prop := x.f0.size ≤ 60 ∧ x.f1.size ≤ 60
structure RepOk (u : ByteArray) (l : List S53) : Prop where
  u : 1 ≤ u.size ∧ u.size ≤ 60
  n : l.length ≤ 30
  l : ∀ x ∈ l, Ok1 x
theorem rd_list (l : List S53) (j : Nat) (hj : j < l.length) : rd_T53 l (j : Int) = l[j] := by
  unfold rd_T53
  rw [Int.toNat_natCast, List.getD_eq_getElem?_getD, List.getElem?_eq_getElem hj]
  rfl
def fuel (d : Nat) : Nat := d * 40 + 2147483700
theorem fuel_succ (d : Nat) : fuel (d + 1) = fuel d + 40 := by unfold fuel; omega
theorem fuel_ge (d : Nat) : 2147483700 ≤ fuel d := by unfold fuel; omega
theorem l1_says (Q : Prop) (l : List S53) (n : Nat) (hn : l.length = n) (hn30 : n ≤ 30) (i : Nat) (hi : i < n) (F : Nat) (IH : ∀ m, F < m → Yes Q (spec_GoodReport.l0 m l l (n : Int) ((i + 1 : Nat) : Int))) (a b : ByteArray) :
    ∀ (e q m : Nat), q + e = i → e + F + 1 < m → Yes Q (spec_GoodReport.l1 m l l (n : Int) (i : Int) (l.take i) (i : Int) (q : Int) a b) := by
  have hlt : (l.take i).length = i := by rw [List.length_take]; omega
  intro e
  induction e with
  | zero =>
    intro q m hq hm
    obtain ⟨m, rfl⟩ : ∃ k, m = k + 1 := ⟨m - 1, by omega⟩
    rw [spec_GoodReport.l1, if_neg (by omega), show wrap64 ((i : Int) + 1) = ((i + 1 : Nat) : Int) by unfold wrap64; omega]
    exact IH m (by omega)
  | succ e ih =>
    intro q m hq hm
    obtain ⟨m, rfl⟩ : ∃ k, m = k + 1 := ⟨m - 1, by omega⟩
    have IH2 := ih (q + 1) m (by omega) (by omega)
    rw [spec_GoodReport.l1, if_pos (by omega), if_pos (by omega), if_pos (by rw [hlt]; omega), show wrap64 ((q : Int) + 1) = ((q + 1 : Nat) : Int) by unfold wrap64; omega]
    exact Yes.ite (Yes.no _) IH2
theorem l0_says (u : ByteArray) (hu : 1 ≤ u.size ∧ u.size ≤ 60) (l : List S53) (n : Nat) (hn : l.length = n) (hn30 : n ≤ 30) (hs : ∀ x ∈ l, x.f0.size ≤ 2147483647 ∧ x.f1.size ≤ 2147483647) :
    ∀ (d i k : Nat), i + d = n → fuel d < k → (∀ j (hj : j < l.length), j < i → Ok1 l[j]) → Yes (RepOk u l) (spec_GoodReport.l0 k l l (n : Int) (i : Int)) := by
  intro d
  induction d with
  | zero =>
    intro i k hi hk hq
    obtain ⟨k, rfl⟩ : ∃ m, k = m + 1 := ⟨k - 1, by omega⟩
    rw [spec_GoodReport.l0, if_neg (by omega)]
    exact ⟨true, rfl, fun _ => ⟨hu, by omega, fun x hx => by
      obtain ⟨j, hj, rfl⟩ := List.getElem_of_mem hx
      exact hq j hj (by omega)⟩⟩
  | succ d ih =>
    intro i k hi hk hq
    have hf := fuel_succ d
    have hg := fuel_ge d
    obtain ⟨k, rfl⟩ : ∃ m, k = m + 1 := ⟨k - 1, by omega⟩
    have hlt : i < l.length := by omega
    have hx := hs _ (List.getElem_mem hlt)
    rw [spec_GoodReport.l0, if_pos (by omega), if_pos (by omega), if_pos (by omega), rd_list l i hlt]
    obtain ⟨b1, e1, q1⟩ := refName_says (l[i]).f0 k hx.1 (by omega)
    obtain ⟨b2, e2, q2⟩ := word_says (l[i]).f1 k hx.2 (by omega)
    rw [e1, e2]
    simp only [Option.bind_some]
    obtain ⟨k, rfl⟩ : ∃ m, k = m + 1 := ⟨k - 1, by omega⟩
    have J : ∀ b a c, (b = false → Ok1 l[i]) → Yes (RepOk u l) (spec_GoodReport.j2 (k + 1) l (i : Int) l (n : Int) (i : Int) b a c) := by
      intro b a c hb
      rw [spec_GoodReport.j2]
      cases b with
      | true => rw [if_pos rfl]; exact Yes.no _
      | false =>
        rw [if_neg (by simp), if_pos (by omega), if_pos (by omega), Option.bind_some, Int.toNat_natCast, show ((l.take i).length : Int) = (i : Int) by rw [List.length_take]; omega]
        refine l1_says (RepOk u l) l n hn hn30 i (by omega) (fuel d) (fun m hm => ih (i + 1) m (by omega) hm (fun j hj hji => ?_)) a c i 0 k (by omega) (by omega)
        by_cases hjj : j = i
        · subst hjj; exact hb rfl
        · exact hq j hj (by omega)
    cases b1 with
    | false => rw [if_neg (by simp)]; exact J true _ _ (fun h => by cases h)
    | true =>
      rw [if_pos rfl]
      exact J (!b2) _ _ (fun h => ⟨(q1 rfl).2, (q2 (by cases b2 <;> simp_all)).2⟩)
theorem good_says (u : ByteArray) (l : List S53) (hu : u.size ≤ 2147483647) (hl : l.length ≤ 2147483647) (hs : ∀ x ∈ l, x.f0.size ≤ 2147483647 ∧ x.f1.size ≤ 2147483647) : Yes (RepOk u l) (spec_GoodReport.f 4294967297 u l) := by
  unfold spec_GoodReport.f
  obtain ⟨b, e, q⟩ := word_says u 4294967297 hu (by omega)
  rw [e, Option.bind_some]
  obtain ⟨k, hk⟩ : ∃ k, 4294967297 = k + 1 := ⟨4294967296, rfl⟩
  rw [hk]
  cases b with
  | false =>
    rw [if_neg (by simp), spec_GoodReport.j0, if_pos rfl]; exact Yes.no _
  | true =>
    rw [if_pos rfl, spec_GoodReport.j0]
    by_cases h : (l.length : Int) > 30
    · rw [if_pos (decide_eq_true h)]; exact Yes.no _
    · rw [if_neg (by simp [h])]
      exact l0_says u (q rfl) l l.length rfl (by omega) hs l.length 0 k (by omega) (by unfold fuel; omega) (fun j hj h => by omega)
theorem fits_l0 (l : List S53) (hl : l.length ≤ 2147483647) : ∀ (d i k : Nat), i + d = l.length → d < k → (∀ j (hj : j < l.length), j < i → l[j].f0.size ≤ 2147483647 ∧ l[j].f1.size ≤ 2147483647) → Yes (l.length ≤ 2147483647 ∧ ∀ x ∈ l, x.f0.size ≤ 2147483647 ∧ x.f1.size ≤ 2147483647) (laws_zzFits38.l0 k l (l.length : Int) (i : Int)) := by
  intro d
  induction d with
  | zero =>
    intro i k hi hk hq
    obtain ⟨k, rfl⟩ : ∃ m, k = m + 1 := ⟨k - 1, by omega⟩
    rw [laws_zzFits38.l0, if_neg (by omega)]
    exact ⟨true, rfl, fun _ => ⟨hl, fun e he => by
      obtain ⟨j, hj, rfl⟩ := List.getElem_of_mem he
      exact hq j hj (by omega)⟩⟩
  | succ d ih =>
    intro i k hi hk hq
    obtain ⟨k, rfl⟩ : ∃ m, k = m + 1 := ⟨k - 1, by omega⟩
    have hlt : i < l.length := by omega
    rw [laws_zzFits38.l0, if_pos (by omega), if_pos (by omega), if_pos (by omega), rd_list l i hlt]
    unfold laws_zzFits39.f
    by_cases h : ((l[i]).f0.size : Int) > 2147483647
    · rw [if_pos h]
      simp only [Option.bind_some]
      rw [if_neg (by simp)]; exact Yes.no _
    · rw [if_neg h]
      by_cases h2 : ((l[i]).f1.size : Int) > 2147483647
      · rw [if_pos h2]
        simp only [Option.bind_some]
        rw [if_neg (by simp)]; exact Yes.no _
      · rw [if_neg h2]
        rw [Option.bind_some, if_pos rfl, show wrap64 ((i : Int) + 1) = ((i + 1 : Nat) : Int) by unfold wrap64; omega]
        refine ih (i + 1) k (by omega) (by omega) (fun j hj hji => ?_)
        by_cases hjj : j = i
        · subst hjj; omega
        · exact hq j hj (by omega)
theorem fits_says (l : List S53) : Yes (l.length ≤ 2147483647 ∧ ∀ x ∈ l, x.f0.size ≤ 2147483647 ∧ x.f1.size ≤ 2147483647) (laws_zzFits38.f (l.length + 1) l) := by
  unfold laws_zzFits38.f
  by_cases h : (l.length : Int) > 2147483647
  · rw [if_pos h]; exact Yes.no _
  · rw [if_neg h]
    exact fits_l0 l (by omega) l.length 0 _ (by omega) (by omega) (fun j hj h => by omega)
/-- The lines' texts. -/
def okT : ByteArray := ⟨#[111, 107]⟩
def lineO (a : ByteArray) : ByteArray := ((⟨#[111, 107, 32]⟩ : ByteArray) ++ a) ++ (⟨#[10]⟩ : ByteArray)
def lineN (a b : ByteArray) : ByteArray := ((((⟨#[110, 103, 32]⟩ : ByteArray) ++ a) ++ (⟨#[32]⟩ : ByteArray)) ++ b) ++ (⟨#[10]⟩ : ByteArray)
def lineU (u : ByteArray) : ByteArray := ((⟨#[117, 110, 112, 97, 99, 107, 32]⟩ : ByteArray) ++ u) ++ (⟨#[10]⟩ : ByteArray)
def stT (x : S53) : ByteArray := if x.f1.toList = [111, 107] then lineO x.f0 else lineN x.f0 x.f1
def stL (l : List S53) : List Int := l.flatMap fun x => pline (Go.Proofs.YtfjhgmnmadobjaaDoorW.PrintWords.bytesOf (stT x))
def repL (u : ByteArray) (l : List S53) : List Int := (pline (Go.Proofs.YtfjhgmnmadobjaaDoorW.PrintWords.bytesOf (lineU u)) ++ stL l) ++ fl
theorem stL_snoc (l : List S53) (x : S53) : stL (l ++ [x]) = stL l ++ pline (Go.Proofs.YtfjhgmnmadobjaaDoorW.PrintWords.bytesOf (stT x)) := by unfold stL; rw [List.flatMap_append]; simp
theorem stL_take (l : List S53) (k : Nat) (hk : k < l.length) : stL (l.take (k + 1)) = stL (l.take k) ++ pline (Go.Proofs.YtfjhgmnmadobjaaDoorW.PrintWords.bytesOf (stT l[k])) := by
  rw [List.take_succ_eq_append_getElem hk, stL_snoc]
theorem stT_size {x : S53} (h : Ok1 x) : 0 < (stT x).size ∧ (stT x).size ≤ 200 := by
  have h1 := h.1
  have h2 := h.2
  unfold stT lineO lineN
  by_cases e : x.f1.toList = [111, 107]
  · rw [if_pos e]
    simp only [ByteArray.size_append]
    show 0 < 3 + x.f0.size + 1 ∧ 3 + x.f0.size + 1 ≤ 200
    omega
  · rw [if_neg e]
    simp only [ByteArray.size_append]
    show 0 < 3 + x.f0.size + 1 + x.f1.size + 1 ∧ 3 + x.f0.size + 1 + x.f1.size + 1 ≤ 200
    omega
theorem lineU_size {u : ByteArray} (h : u.size ≤ 60) : 0 < (lineU u).size ∧ (lineU u).size ≤ 200 := by
  unfold lineU
  simp only [ByteArray.size_append]
  show 0 < 7 + u.size + 1 ∧ 7 + u.size + 1 ≤ 200
  omega
theorem pline_small (s : ByteArray) (h : s.size ≤ 200) : (pline (Go.Proofs.YtfjhgmnmadobjaaDoorW.PrintWords.bytesOf s)).length ≤ 65520 := pline_len _ (by rw [bytesOf_length]; omega)
theorem stL_len : ∀ l : List S53, (∀ x ∈ l, Ok1 x) → (stL l).length ≤ 65520 * l.length := by
  intro l
  induction l with
  | nil => intro _; exact Nat.le_refl _
  | cons x r ih =>
    intro h
    have h1 := ih (fun y hy => h y (.tail _ hy))
    have h2 := pline_small (stT x) (stT_size (h x (.head _))).2
    show (pline (Go.Proofs.YtfjhgmnmadobjaaDoorW.PrintWords.bytesOf (stT x)) ++ stL r).length ≤ _
    rw [List.length_append, List.length_cons]
    omega
end Go.Proofs.YtfjhgmnmadobjaaDoor.rep
