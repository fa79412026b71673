/- What spec's functions tell of patterns and paths, over the printed functions: plain. -/
import Derived.Test.YtbiflpbajgafaaaIgnG
import Derived.Test.YtbiflpbajgafaaaPFnIgnoreRootx1
import Derived.Test.YtbiflpbajgafaaaPFnIgnoreRootx4
import Derived.Test.YtbiflpbajgafaaaPFnIgnoreRootx5
import Derived.Test.YtbiflpbajgafaaaPFnIgnoreRootx6
namespace Go.Proofs.Ytbiflpbajgafaaa.ign
open Go.RowKit Go.Proofs.YtbiflpbajgafaaaW.PrintWords Go.Proofs.YtbiflpbajgafaaaW.PrintLast Go.Proofs.YtbiflpbajgafaaaW.PrintMore Go.Proofs.Ytbiflpbajgafaaa.PFnIgnoreRoot
set_option linter.unusedVariables false
set_option linter.unusedSimpArgs false
set_option maxHeartbeats 2000000
set_option maxRecDepth 100000
theorem bt_list (s : ByteArray) (i : Nat) (h : i < s.data.toList.length) : bt s (i : Int) = (s.data.toList[i].toNat : Int) := by
  have h2 : i < s.size := by rw [← size_list]; exact h
  unfold bt
  rw [Int.toNat_natCast, dif_pos h2, at_list s i h2 h]
def okI (c : Int) : Bool := decide ((97 ≤ c ∧ c ≤ 122) ∨ (65 ≤ c ∧ c ≤ 90) ∨ (48 ≤ c ∧ c ≤ 57) ∨ c = 46 ∨ c = 42 ∨ c = 63)
/-- A pattern of a name, as spec says it. -/
structure GlobOK (s : ByteArray) : Prop where
  chars : ∀ x ∈ s.data.toList, okI (x.toNat : Int) = true
  nodbl : NoDbl s.data.toList
  ne : s.data.toList ≠ []
  size : s.size ≤ 40
theorem glob_l0 (k : Nat) (s : ByteArray) (x3 : Int) (i : Nat) (hi : i < s.size) : spec_IsGlob.l0 (k + 1) s x3 (s.size : Int) (i : Int) = spec_IsGlob.j1 k s x3 (i : Int) (bt s (i : Int)) (s.size : Int) (i : Int) (!(okI (bt s (i : Int)))) := by
  rw [spec_IsGlob.l0, if_pos (by omega), if_pos (by omega), if_pos (by omega)]
  generalize bt s (i : Int) = c
  repeat' split
  all_goals first | (have hq : okI c = true := by (rw [okI, decide_eq_true_iff]; omega)); (rw [hq]; done) | (have hq : okI c = (c == 63) := by (rw [Bool.eq_iff_iff, okI, decide_eq_true_iff, beq_iff_eq]; omega)); (rw [hq]; done)
theorem glob_ev (s : ByteArray) (hs : s.size ≤ 2147483647) : ∀ (d i : Nat), i + d = s.size → ∀ x3 : Int, 0 ≤ x3 → x3 ≤ (i : Int) → (∀ (j : Nat) (h : j < s.data.toList.length), j < i → okI (s.data.toList[j].toNat : Int) = true) → (∀ (j : Nat) (h : j + 1 < s.data.toList.length), j + 1 < i → ¬ (s.data.toList[j] = 42 ∧ s.data.toList[j + 1] = 42)) →
    ∃ b, Ev (fun k => spec_IsGlob.l0 k s x3 (s.size : Int) (i : Int)) b ∧ (b = true → GlobOK s)
  | 0, i, hi, x3, h0, h1, hc, hd => by
    obtain rfl : i = s.size := by omega
    by_cases he : s.toList = []
    · exact ⟨false, ⟨1, fun k hk => by
        obtain ⟨k, rfl⟩ : ∃ m, k = m + 1 := ⟨k - 1, by omega⟩
        show spec_IsGlob.l0 (k + 1) _ _ _ _ = _
        rw [spec_IsGlob.l0, if_neg (by omega), if_pos he]⟩, fun h => by cases h⟩
    · by_cases h40 : (s.size : Int) ≤ 40
      · refine ⟨decide (x3 ≤ 4), ⟨1, fun k hk => by
          obtain ⟨k, rfl⟩ : ∃ m, k = m + 1 := ⟨k - 1, by omega⟩
          show spec_IsGlob.l0 (k + 1) _ _ _ _ = _
          rw [spec_IsGlob.l0, if_neg (by omega), if_neg he, if_pos h40]⟩, fun _ => ⟨?_, ?_, ?_, by omega⟩⟩
        · intro x hx
          obtain ⟨j, hj, rfl⟩ := List.getElem_of_mem hx
          exact hc j hj (by rw [← size_list]; exact hj)
        · intro j hj
          exact hd j hj (by rw [← size_list]; exact hj)
        · rw [← ByteArray.toList_eq]; exact he
      · exact ⟨false, ⟨1, fun k hk => by
          obtain ⟨k, rfl⟩ : ∃ m, k = m + 1 := ⟨k - 1, by omega⟩
          show spec_IsGlob.l0 (k + 1) _ _ _ _ = _
          rw [spec_IsGlob.l0, if_neg (by omega), if_neg he, if_neg h40]⟩, fun h => by cases h⟩
  | d + 1, i, hi, x3, h0, h1, hc, hd => by
    have his : i < s.size := by omega
    have hil : i < s.data.toList.length := by rw [size_list]; exact his
    have hb := bt_list s i hil
    by_cases hok : okI (bt s (i : Int)) = true
    · -- no two stars
      by_cases hdb : 0 < i ∧ bt s (i : Int) = 42 ∧ bt s ((i : Int) - 1) = 42
      · refine ⟨false, ⟨3, fun k hk => ?_⟩, fun h => by cases h⟩
        obtain ⟨k, rfl⟩ : ∃ m, k = m + 3 := ⟨k - 3, by omega⟩
        show spec_IsGlob.l0 (k + 2 + 1) _ _ _ _ = _
        rw [glob_l0 _ _ _ _ his, hok, spec_IsGlob.j1, if_neg (by decide), if_pos (by omega), if_pos hdb.2.1, w64 (by omega) (by omega), if_pos (by omega), if_pos (by omega), spec_IsGlob.j2, if_pos (by rw [hdb.2.2]; rfl)]
      · have hc2 : ∀ (j : Nat) (h : j < s.data.toList.length), j < i + 1 → okI (s.data.toList[j].toNat : Int) = true := by
          intro j h hj
          by_cases hji : j < i
          · exact hc j h hji
          · obtain rfl : j = i := by omega
            rw [← hb]; exact hok
        have hd2 : ∀ (j : Nat) (h : j + 1 < s.data.toList.length), j + 1 < i + 1 → ¬ (s.data.toList[j] = 42 ∧ s.data.toList[j + 1] = 42) := by
          intro j h hj hh
          by_cases hji : j + 1 < i
          · exact hd j h hji hh
          · obtain rfl : i = j + 1 := by omega
            refine hdb ⟨by omega, ?_, ?_⟩
            · rw [hb, hh.2]; rfl
            · rw [show (((j + 1 : Nat) : Int) - 1) = (j : Int) from by omega, bt_list s j (by omega), hh.1]; rfl
        have hstep : ∀ k, ∃ x3' : Int, 0 ≤ x3' ∧ x3' ≤ ((i + 1 : Nat) : Int) ∧ (x3' = if bt s (i : Int) = 42 then x3 + 1 else x3) ∧ spec_IsGlob.l0 (k + 3) s x3 (s.size : Int) (i : Int) = spec_IsGlob.l0 k s x3' (s.size : Int) ((i + 1 : Nat) : Int) := by
          intro k
          have e1 : wrap64 ((i : Int) + 1) = ((i + 1 : Nat) : Int) := by rw [w64 (by omega) (by omega)]; omega
          have hj2 : ∀ b : Bool, b = false → spec_IsGlob.j2 (k + 1) s x3 (bt s (i : Int)) (s.size : Int) (i : Int) b = spec_IsGlob.l0 k s (if bt s (i : Int) = 42 then x3 + 1 else x3) (s.size : Int) ((i + 1 : Nat) : Int) := by
            intro b hb'
            rw [spec_IsGlob.j2, if_neg (by rw [hb']; decide)]
            by_cases h42 : bt s (i : Int) = 42
            · rw [if_pos h42, if_pos h42, w64 (by omega) (by omega), e1]
            · rw [if_neg h42, if_neg h42, e1]
          refine ⟨if bt s (i : Int) = 42 then x3 + 1 else x3, by split <;> omega, by split <;> omega, rfl, ?_⟩
          show spec_IsGlob.l0 (k + 2 + 1) _ _ _ _ = _
          rw [glob_l0 _ _ _ _ his, hok, spec_IsGlob.j1, if_neg (by decide)]
          by_cases hi0 : (i : Int) > 0
          · rw [if_pos hi0]
            by_cases h42 : bt s (i : Int) = 42
            · rw [if_pos h42, w64 (by omega) (by omega), if_pos (by omega), if_pos (by omega)]
              exact hj2 _ (by rw [beq_eq_false_iff_ne]; exact fun h => hdb ⟨by omega, h42, h⟩)
            · rw [if_neg h42]
              exact hj2 _ rfl
          · rw [if_neg hi0]
            exact hj2 _ rfl
        obtain ⟨x3', a0, a1, a2, _⟩ := hstep 0
        obtain ⟨b, hev, hbb⟩ := glob_ev s hs d (i + 1) (by omega) x3' a0 a1 hc2 hd2
        refine ⟨b, ?_, hbb⟩
        obtain ⟨K, hK⟩ := hev
        refine ⟨K + 3, fun k hk => ?_⟩
        obtain ⟨k, rfl⟩ : ∃ m, k = m + 3 := ⟨k - 3, by omega⟩
        obtain ⟨x4, _, _, b2, b3⟩ := hstep k
        show spec_IsGlob.l0 (k + 3) _ _ _ _ = _
        rw [b3, b2, ← a2]
        exact hK k (by omega)
    · refine ⟨false, ⟨2, fun k hk => ?_⟩, fun h => by cases h⟩
      obtain ⟨k, rfl⟩ : ∃ m, k = m + 2 := ⟨k - 2, by omega⟩
      show spec_IsGlob.l0 (k + 1 + 1) _ _ _ _ = _
      rw [glob_l0 _ _ _ _ his, spec_IsGlob.j1, if_pos (by simpa using hok)]
theorem isGlob_ev (s : ByteArray) (hs : s.size ≤ 2147483647) : ∃ b, Ev (fun k => spec_IsGlob.f k s) b ∧ (b = true → GlobOK s) :=
  glob_ev s hs s.size 0 (by omega) 0 (by omega) (by omega) (fun j h hj => by omega) (fun j h hj => by omega)
theorem has_ev (s : ByteArray) (c : Int) (hs : s.size ≤ 2147483647) : ∀ (d i : Nat), i + d = s.size → (∀ (j : Nat) (h : j < s.data.toList.length), j < i → (s.data.toList[j].toNat : Int) ≠ c) →
    ∃ b, Ev (fun k => spec_Has.l0 k s c (s.size : Int) (i : Int)) b ∧ (b = false → ∀ x ∈ s.data.toList, (x.toNat : Int) ≠ c)
  | 0, i, hi, hc => by
    obtain rfl : i = s.size := by omega
    refine ⟨false, ⟨1, fun k hk => by
      obtain ⟨k, rfl⟩ : ∃ m, k = m + 1 := ⟨k - 1, by omega⟩
      show spec_Has.l0 (k + 1) _ _ _ _ = _
      rw [spec_Has.l0, if_neg (by omega)]⟩, fun _ x hx => ?_⟩
    obtain ⟨j, hj, rfl⟩ := List.getElem_of_mem hx
    exact hc j hj (by rw [← size_list]; exact hj)
  | d + 1, i, hi, hc => by
    have his : i < s.size := by omega
    have hil : i < s.data.toList.length := by rw [size_list]; exact his
    have hb := bt_list s i hil
    by_cases he : bt s (i : Int) = c
    · exact ⟨true, ⟨1, fun k hk => by
        obtain ⟨k, rfl⟩ : ∃ m, k = m + 1 := ⟨k - 1, by omega⟩
        show spec_Has.l0 (k + 1) _ _ _ _ = _
        rw [spec_Has.l0, if_pos (by omega), if_pos (by omega), if_pos (by omega), if_pos he]⟩, fun h => by cases h⟩
    · obtain ⟨b, ⟨K, hK⟩, hbb⟩ := has_ev s c hs d (i + 1) (by omega) (fun j h hj => by
        by_cases hji : j < i
        · exact hc j h hji
        · obtain rfl : j = i := by omega
          rw [← hb]; exact he)
      refine ⟨b, ⟨K + 1, fun k hk => ?_⟩, hbb⟩
      obtain ⟨k, rfl⟩ : ∃ m, k = m + 1 := ⟨k - 1, by omega⟩
      show spec_Has.l0 (k + 1) _ _ _ _ = _
      rw [spec_Has.l0, if_pos (by omega), if_pos (by omega), if_pos (by omega), if_neg he, w64 (by omega) (by omega)]
      exact hK k (by omega)
theorem rdOf_eq (l : List ByteArray) (i : Nat) (h : i < l.length) : rdOf ByteArray.empty l (i : Int) = l[i] := by
  unfold rdOf
  rw [Int.toNat_natCast, List.getD_eq_getElem?_getD, List.getElem?_eq_getElem h]; rfl
/-- Patterns of names. -/
structure GlobsOK (l : List ByteArray) : Prop where
  all : ∀ p ∈ l, GlobOK p
  pos : 0 < l.length
  len : l.length ≤ 100
/-- Names of letters, digits and points. -/
structure PathOK (l : List ByteArray) : Prop where
  all : ∀ p ∈ l, GlobOK p
  star : ∀ p ∈ l, ∀ x ∈ p.data.toList, x ≠ 42 ∧ x ≠ 63
  pos : 0 < l.length
  len : l.length ≤ 100
theorem areGlobs_l0 (l : List ByteArray) (hl : l.length ≤ 2147483647) (hs : ∀ p ∈ l, p.size ≤ 2147483647) : ∀ (d i : Nat), i + d = l.length → (∀ (j : Nat) (h : j < l.length), j < i → GlobOK l[j]) →
    ∃ b, Ev (fun k => spec_AreGlobs.l0 k l l (l.length : Int) (i : Int)) b ∧ (b = true → GlobsOK l)
  | 0, i, hi, hc => by
    obtain rfl : i = l.length := by omega
    by_cases hp : (l.length : Int) > 0
    · refine ⟨decide ((l.length : Int) ≤ 100), ⟨1, fun k hk => by
        obtain ⟨k, rfl⟩ : ∃ m, k = m + 1 := ⟨k - 1, by omega⟩
        show spec_AreGlobs.l0 (k + 1) _ _ _ _ = _
        rw [spec_AreGlobs.l0, if_neg (by omega), if_pos hp]⟩, fun h => ⟨fun p hp => ?_, by omega, by have := of_decide_eq_true h; omega⟩⟩
      obtain ⟨j, hj, rfl⟩ := List.getElem_of_mem hp
      exact hc j hj hj
    · exact ⟨false, ⟨1, fun k hk => by
        obtain ⟨k, rfl⟩ : ∃ m, k = m + 1 := ⟨k - 1, by omega⟩
        show spec_AreGlobs.l0 (k + 1) _ _ _ _ = _
        rw [spec_AreGlobs.l0, if_neg (by omega), if_neg hp]⟩, fun h => by cases h⟩
  | d + 1, i, hi, hc => by
    have hil : i < l.length := by omega
    obtain ⟨b, ⟨K, hK⟩, hb⟩ := isGlob_ev l[i] (hs _ (List.getElem_mem hil))
    replace hK : ∀ k, K ≤ k → spec_IsGlob.f k l[i] = some b := hK
    have hrd := rdOf_eq l i hil
    cases b with
    | false =>
      refine ⟨false, ⟨K + 1, fun k hk => ?_⟩, fun h => by cases h⟩
      obtain ⟨k, rfl⟩ : ∃ m, k = m + 1 := ⟨k - 1, by omega⟩
      show spec_AreGlobs.l0 (k + 1) _ _ _ _ = _
      rw [spec_AreGlobs.l0, if_pos (by omega), if_pos (by omega), if_pos (by omega), hrd, hK k (by omega), Option.bind_some, if_neg (by decide)]
    | true =>
      obtain ⟨b2, ⟨K2, hK2⟩, hb2⟩ := areGlobs_l0 l hl hs d (i + 1) (by omega) (fun j h hj => by
        by_cases hji : j < i
        · exact hc j h hji
        · obtain rfl : j = i := by omega
          exact hb rfl)
      refine ⟨b2, ⟨max K K2 + 1, fun k hk => ?_⟩, hb2⟩
      obtain ⟨k, rfl⟩ : ∃ m, k = m + 1 := ⟨k - 1, by omega⟩
      show spec_AreGlobs.l0 (k + 1) _ _ _ _ = _
      rw [spec_AreGlobs.l0, if_pos (by omega), if_pos (by omega), if_pos (by omega), hrd, hK k (by omega), Option.bind_some, if_pos rfl, w64 (by omega) (by omega)]
      exact hK2 k (by omega)
theorem areGlobs_ev (l : List ByteArray) (hl : l.length ≤ 2147483647) (hs : ∀ p ∈ l, p.size ≤ 2147483647) : ∃ b, Ev (fun k => spec_AreGlobs.f k l) b ∧ (b = true → GlobsOK l) :=
  areGlobs_l0 l hl hs l.length 0 (by omega) (fun j h hj => by omega)
theorem isPath_l0 (l : List ByteArray) (hl : l.length ≤ 2147483647) (hs : ∀ p ∈ l, p.size ≤ 2147483647) : ∀ (d i : Nat), i + d = l.length → (∀ (j : Nat) (h : j < l.length), j < i → GlobOK l[j] ∧ ∀ x ∈ l[j].data.toList, x ≠ 42 ∧ x ≠ 63) →
    ∃ b, Ev (fun k => spec_IsPath.l0 k l l (l.length : Int) (i : Int)) b ∧ (b = true → PathOK l)
  | 0, i, hi, hc => by
    obtain rfl : i = l.length := by omega
    by_cases hp : (l.length : Int) > 0
    · refine ⟨decide ((l.length : Int) ≤ 100), ⟨1, fun k hk => by
        obtain ⟨k, rfl⟩ : ∃ m, k = m + 1 := ⟨k - 1, by omega⟩
        show spec_IsPath.l0 (k + 1) _ _ _ _ = _
        rw [spec_IsPath.l0, if_neg (by omega), if_pos hp]⟩, fun h => ⟨fun p hp => ?_, fun p hp => ?_, by omega, by have := of_decide_eq_true h; omega⟩⟩
      · obtain ⟨j, hj, rfl⟩ := List.getElem_of_mem hp
        exact (hc j hj hj).1
      · obtain ⟨j, hj, rfl⟩ := List.getElem_of_mem hp
        exact (hc j hj hj).2
    · exact ⟨false, ⟨1, fun k hk => by
        obtain ⟨k, rfl⟩ : ∃ m, k = m + 1 := ⟨k - 1, by omega⟩
        show spec_IsPath.l0 (k + 1) _ _ _ _ = _
        rw [spec_IsPath.l0, if_neg (by omega), if_neg hp]⟩, fun h => by cases h⟩
  | d + 1, i, hi, hc => by
    have hil : i < l.length := by omega
    have hsi := hs _ (List.getElem_mem hil)
    obtain ⟨b, ⟨K, hK⟩, hb⟩ := isGlob_ev l[i] hsi
    replace hK : ∀ k, K ≤ k → spec_IsGlob.f k l[i] = some b := hK
    have hrd := rdOf_eq l i hil
    cases b with
    | false =>
      refine ⟨false, ⟨K + 1, fun k hk => ?_⟩, fun h => by cases h⟩
      obtain ⟨k, rfl⟩ : ∃ m, k = m + 1 := ⟨k - 1, by omega⟩
      show spec_IsPath.l0 (k + 1) _ _ _ _ = _
      rw [spec_IsPath.l0, if_pos (by omega), if_pos (by omega), if_pos (by omega), hrd, hK k (by omega), Option.bind_some, if_neg (by decide)]
    | true =>
      obtain ⟨b3, ⟨K3, hK3⟩, hb3⟩ := has_ev l[i] 42 hsi l[i].size 0 (by omega) (fun j h hj => by omega)
      obtain ⟨b4, ⟨K4, hK4⟩, hb4⟩ := has_ev l[i] 63 hsi l[i].size 0 (by omega) (fun j h hj => by omega)
      have hK3' : ∀ k, K3 ≤ k → spec_Has.f k l[i] 42 = some b3 := hK3
      have hK4' : ∀ k, K4 ≤ k → spec_Has.f k l[i] 63 = some b4 := hK4
      cases b3 with
      | true =>
        refine ⟨false, ⟨max K K3 + 1, fun k hk => ?_⟩, fun h => by cases h⟩
        obtain ⟨k, rfl⟩ : ∃ m, k = m + 1 := ⟨k - 1, by omega⟩
        show spec_IsPath.l0 (k + 1) _ _ _ _ = _
        rw [spec_IsPath.l0, if_pos (by omega), if_pos (by omega), if_pos (by omega), hrd, hK k (by omega), Option.bind_some, if_pos rfl, hK3' k (by omega), Option.bind_some, if_pos rfl]
      | false =>
        cases b4 with
        | true =>
          refine ⟨false, ⟨max (max K K3) K4 + 1, fun k hk => ?_⟩, fun h => by cases h⟩
          obtain ⟨k, rfl⟩ : ∃ m, k = m + 1 := ⟨k - 1, by omega⟩
          show spec_IsPath.l0 (k + 1) _ _ _ _ = _
          rw [spec_IsPath.l0, if_pos (by omega), if_pos (by omega), if_pos (by omega), hrd, hK k (by omega), Option.bind_some, if_pos rfl, hK3' k (by omega), Option.bind_some, if_neg (by decide), hK4' k (by omega), Option.bind_some, if_pos rfl]
        | false =>
          obtain ⟨b2, ⟨K2, hK2⟩, hb2⟩ := isPath_l0 l hl hs d (i + 1) (by omega) (fun j h hj => by
            by_cases hji : j < i
            · exact hc j h hji
            · obtain rfl : j = i := by omega
              exact ⟨hb rfl, fun x hx => ⟨fun he => hb3 rfl x hx (by rw [he]; rfl), fun he => hb4 rfl x hx (by rw [he]; rfl)⟩⟩)
          refine ⟨b2, ⟨max (max K K3) (max K4 K2) + 1, fun k hk => ?_⟩, hb2⟩
          obtain ⟨k, rfl⟩ : ∃ m, k = m + 1 := ⟨k - 1, by omega⟩
          show spec_IsPath.l0 (k + 1) _ _ _ _ = _
          rw [spec_IsPath.l0, if_pos (by omega), if_pos (by omega), if_pos (by omega), hrd, hK k (by omega), Option.bind_some, if_pos rfl, hK3' k (by omega), Option.bind_some, if_neg (by decide), hK4' k (by omega), Option.bind_some, if_neg (by decide), w64 (by omega) (by omega)]
          exact hK2 k (by omega)
theorem isPath_ev (l : List ByteArray) (hl : l.length ≤ 2147483647) (hs : ∀ p ∈ l, p.size ≤ 2147483647) : ∃ b, Ev (fun k => spec_IsPath.f k l) b ∧ (b = true → PathOK l) :=
  isPath_l0 l hl hs l.length 0 (by omega) (fun j h hj => by omega)
theorem fits_l0 (l : List ByteArray) (hl : l.length ≤ 2147483647) : ∀ (d i : Nat), i + d = l.length → (∀ (j : Nat) (h : j < l.length), j < i → l[j].size ≤ 2147483647) →
    ∃ b, Ev (fun k => laws_zzFits16.l0 k l (l.length : Int) (i : Int)) b ∧ (b = true → ∀ p ∈ l, p.size ≤ 2147483647)
  | 0, i, hi, hc => by
    obtain rfl : i = l.length := by omega
    refine ⟨true, ⟨1, fun k hk => by
      obtain ⟨k, rfl⟩ : ∃ m, k = m + 1 := ⟨k - 1, by omega⟩
      show laws_zzFits16.l0 (k + 1) _ _ _ = _
      rw [laws_zzFits16.l0, if_neg (by omega)]⟩, fun _ p hp => ?_⟩
    obtain ⟨j, hj, rfl⟩ := List.getElem_of_mem hp
    exact hc j hj hj
  | d + 1, i, hi, hc => by
    have hil : i < l.length := by omega
    have hrd := rdOf_eq l i hil
    by_cases hb : (l[i].size : Int) > 2147483647
    · exact ⟨false, ⟨1, fun k hk => by
        obtain ⟨k, rfl⟩ : ∃ m, k = m + 1 := ⟨k - 1, by omega⟩
        show laws_zzFits16.l0 (k + 1) _ _ _ = _
        rw [laws_zzFits16.l0, if_pos (by omega), if_pos (by omega), if_pos (by omega), hrd, if_pos hb]⟩, fun h => by cases h⟩
    · obtain ⟨b2, ⟨K2, hK2⟩, hb2⟩ := fits_l0 l hl d (i + 1) (by omega) (fun j h hj => by
        by_cases hji : j < i
        · exact hc j h hji
        · obtain rfl : j = i := by omega
          omega)
      refine ⟨b2, ⟨K2 + 1, fun k hk => ?_⟩, hb2⟩
      obtain ⟨k, rfl⟩ : ∃ m, k = m + 1 := ⟨k - 1, by omega⟩
      show laws_zzFits16.l0 (k + 1) _ _ _ = _
      rw [laws_zzFits16.l0, if_pos (by omega), if_pos (by omega), if_pos (by omega), hrd, if_neg hb, w64 (by omega) (by omega)]
      exact hK2 k (by omega)
/-- What zzFits16 tells. -/
structure Fits (l : List ByteArray) : Prop where
  len : l.length ≤ 2147483647
  all : ∀ p ∈ l, p.size ≤ 2147483647
theorem fits_ev (l : List ByteArray) : ∃ b, Ev (fun k => laws_zzFits16.f k l) b ∧ (b = true → Fits l) := by
  by_cases h : (l.length : Int) > 2147483647
  · exact ⟨false, ⟨0, fun k _ => by show laws_zzFits16.f k l = _; unfold laws_zzFits16.f; rw [if_pos h]⟩, fun h => by cases h⟩
  · obtain ⟨b, ⟨K, hK⟩, hb⟩ := fits_l0 l (by omega) l.length 0 (by omega) (fun j h hj => by omega)
    exact ⟨b, ⟨K, fun k hk => by show laws_zzFits16.f k l = _; unfold laws_zzFits16.f; rw [if_neg h]; exact hK k hk⟩, fun hh => ⟨by omega, hb hh⟩⟩
theorem joinS_snoc : ∀ (l : List ByteArray) (x : ByteArray), l ≠ [] → joinS (l ++ [x]) = joinS l ++ 47 :: x.data.toList
  | [], x, h => absurd rfl h
  | [a], x, _ => rfl
  | a :: b :: r, x, _ => by
    have ih := joinS_snoc (b :: r) x (by simp)
    rw [List.cons_append, List.cons_append] at *
    rw [joinS, joinS, ih, List.append_assoc, List.cons_append]
theorem joinS_le : ∀ (l : List ByteArray), (∀ p ∈ l, p.size ≤ 40) → (joinS l).length ≤ 41 * l.length
  | [], _ => by simp [joinS]
  | [a], h => by
    have := h a (by simp)
    rw [joinS, size_list, List.length_singleton]
    omega
  | a :: b :: r, h => by
    have h1 := h a (by simp)
    have h2 := joinS_le (b :: r) (fun p hp => h p (List.mem_cons_of_mem _ hp))
    rw [joinS]
    simp only [List.length_append, List.length_cons, size_list] at h2 ⊢
    omega
theorem slashed_l0 (l : List ByteArray) (hl : l.length ≤ 100) (hs : ∀ p ∈ l, p.size ≤ 40) : ∀ (d i : Nat), i + d = l.length → ∀ t : ByteArray, t.data.toList = joinS (l.take i) →
    ∃ r, Ev (fun k => spec_Slashed.l0 k t l (l.length : Int) (i : Int)) r ∧ r.data.toList = joinS l
  | 0, i, hi, t, ht => by
    obtain rfl : i = l.length := by omega
    exact ⟨t, ⟨1, fun k hk => by
      obtain ⟨k, rfl⟩ : ∃ m, k = m + 1 := ⟨k - 1, by omega⟩
      show spec_Slashed.l0 (k + 1) _ _ _ _ = _
      rw [spec_Slashed.l0, if_neg (by omega)]⟩, by rw [ht, List.take_length]⟩
  | d + 1, i, hi, t, ht => by
    have hil : i < l.length := by omega
    have hrd := rdOf_eq l i hil
    have hsi := hs _ (List.getElem_mem hil)
    have htl : t.size ≤ 4100 := by
      rw [← size_list, ht]
      have := joinS_le (l.take i) (fun p hp => hs p (List.mem_of_mem_take hp))
      rw [List.length_take] at this
      omega
    have htk : l.take (i + 1) = l.take i ++ [l[i]] := List.take_succ_eq_append_getElem hil
    by_cases hi0 : (i : Int) > 0
    · obtain ⟨r, ⟨K, hK⟩, hr⟩ := slashed_l0 l hl hs d (i + 1) (by omega) ((t ++ (⟨#[47]⟩ : ByteArray)) ++ l[i]) (by
        rw [htk, joinS_snoc _ _ (by
          intro h
          have := congrArg List.length h
          rw [List.length_take, List.length_nil] at this
          omega), ← ht]
        simp [ByteArray.data_append])
      refine ⟨r, ⟨K + 1, fun k hk => ?_⟩, hr⟩
      obtain ⟨k, rfl⟩ : ∃ m, k = m + 1 := ⟨k - 1, by omega⟩
      show spec_Slashed.l0 (k + 1) _ _ _ _ = _
      rw [spec_Slashed.l0, if_pos (by omega), if_pos (by omega), if_pos (by omega), hrd, if_pos hi0, if_pos (by omega), if_pos (by rw [ByteArray.size_append]; show t.size + 1 + _ ≤ _; omega), w64 (by omega) (by omega)]
      exact hK k (by omega)
    · obtain rfl : i = 0 := by omega
      obtain ⟨r, ⟨K, hK⟩, hr⟩ := slashed_l0 l hl hs d (0 + 1) (by omega) (t ++ l[0]) (by
        rw [htk, ByteArray.data_append, Array.toList_append, ht]
        rfl)
      refine ⟨r, ⟨K + 1, fun k hk => ?_⟩, hr⟩
      obtain ⟨k, rfl⟩ : ∃ m, k = m + 1 := ⟨k - 1, by omega⟩
      show spec_Slashed.l0 (k + 1) _ _ _ _ = _
      rw [spec_Slashed.l0, if_pos (by omega), if_pos (by omega), if_pos (by omega), hrd, if_neg hi0, if_pos (by omega), w64 (by omega) (by omega)]
      exact hK k (by omega)
theorem slashed_ev (l : List ByteArray) (h : GlobsOK l) : ∃ r, Ev (fun k => spec_Slashed.f k l) r ∧ r.data.toList = joinS l :=
  slashed_l0 l h.len (fun p hp => (h.all p hp).size) l.length 0 (by omega) ⟨#[]⟩ rfl
theorem globs_cons (c : UInt8) (p n : List UInt8) : globs (c :: p) n = if c = 42 then anyTail (globs p) n else match n with
    | [] => false
    | d :: r => (c == 63 || c == d) && globs p r := by
  cases n <;> rfl
/-- How many rounds spec.Globs asks for at most. -/
def gfuel : List UInt8 → Nat → Nat
  | [], n => 1
  | _ :: p, n => gfuel p n + n + 3
theorem gfuel_mono : ∀ (p : List UInt8) {n m : Nat}, n ≤ m → gfuel p n ≤ gfuel p m
  | [], _, _, _ => Nat.le_refl _
  | _ :: p, n, m, h => by
    rw [gfuel, gfuel]
    have := gfuel_mono p h
    omega
theorem ext_tail (s : ByteArray) (x : UInt8) (r : List UInt8) (h : s.data.toList = x :: r) : (s.extract 1 s.size).data.toList = r := by
  rw [ext_list, ← size_list, List.take_length, h]; rfl
theorem ext_drop (s : ByteArray) (i : Nat) : (s.extract i s.size).data.toList = s.data.toList.drop i := by
  rw [ext_list, ← size_list, List.take_length]
theorem anyTail_drop (f : List UInt8 → Bool) (n : List UInt8) (i : Nat) (hi : i < n.length) : anyTail f (n.drop i) = (f (n.drop i) || anyTail f (n.drop (i + 1))) := by
  rw [List.drop_eq_getElem_cons hi, anyTail]
theorem u8_int {a b : UInt8} : ((a.toNat : Int) = (b.toNat : Int)) ↔ a = b := ⟨fun h => UInt8.toNat_inj.1 (by omega), fun h => by rw [h]⟩
theorem globs_say : ∀ (pl : List UInt8) (p n : ByteArray), p.data.toList = pl → n.size ≤ 2147483647 → ∀ k, gfuel pl n.size ≤ k → spec_Globs.f k p n = some (globs pl n.data.toList)
  | [], p, n, hp, hn, k, hk => by
    rw [gfuel] at hk
    obtain ⟨k, rfl⟩ : ∃ m, k = m + 1 := ⟨k - 1, by omega⟩
    rw [spec_Globs.f, if_pos (by rw [ByteArray.toList_eq, hp])]
    rw [ByteArray.toList_eq]
    cases n.data.toList <;> rfl
  | x :: pl, p, n, hp, hn, k, hk => by
    rw [gfuel] at hk
    obtain ⟨k, rfl⟩ : ∃ m, k = m + 1 := ⟨k - 1, by omega⟩
    have hps : p.size = pl.length + 1 := by rw [← size_list, hp]; rfl
    have hb0 : bt p 0 = (x.toNat : Int) := by
      have := bt_list p 0 (by rw [hp]; simp)
      rw [show ((0 : Nat) : Int) = 0 from rfl] at this
      rw [this]
      simp only [hp, List.getElem_cons_zero]
    have het := ext_tail p x pl hp
    rw [spec_Globs.f, if_neg (by rw [ByteArray.toList_eq, hp]; simp), if_pos (by omega), hb0]
    by_cases h42 : x = 42
    · subst h42
      rw [if_pos (show (((42 : UInt8).toNat : Nat) : Int) = 42 from rfl), globs_star]
      have loop : ∀ (d i k : Nat), i + d = n.size + 1 → gfuel pl n.size + d + 1 ≤ k → spec_Globs.l0 k p n (i : Int) = some (if i ≤ n.size then anyTail (globs pl) (n.data.toList.drop i) else false) := by
        intro d
        induction d with
        | zero =>
          intro i k hi hk
          obtain ⟨k, rfl⟩ : ∃ m, k = m + 1 := ⟨k - 1, by omega⟩
          rw [spec_Globs.l0, if_neg (by omega), if_neg (by omega)]
        | succ d ih =>
          intro i k hi hk
          obtain ⟨k, rfl⟩ : ∃ m, k = m + 1 := ⟨k - 1, by omega⟩
          rw [spec_Globs.l0, if_pos (by omega), if_pos (by omega), if_pos (by omega), Int.toNat_natCast]
          have hes : (n.extract i n.size).size ≤ n.size := by rw [ByteArray.size_extract]; omega
          rw [globs_say pl (p.extract 1 p.size) (n.extract i n.size) het (by omega) k (Nat.le_trans (gfuel_mono pl hes) (by omega)), Option.bind_some, ext_drop]
          by_cases hin : i < n.size
          · rw [if_pos (show i ≤ n.size by omega), anyTail_drop _ _ _ (by rw [size_list]; exact hin)]
            cases hg : globs pl (n.data.toList.drop i) with
            | true => rw [if_pos rfl, Bool.true_or]
            | false =>
              rw [if_neg (by decide), Bool.false_or, w64 (by omega) (by omega)]
              have := ih (i + 1) k (by omega) (by omega)
              rw [if_pos (show i + 1 ≤ n.size by omega)] at this
              exact this
          · obtain rfl : i = n.size := by omega
            rw [if_pos (Nat.le_refl n.size)]
            have hd0 : n.data.toList.drop n.size = [] := List.drop_of_length_le (by rw [size_list]; exact Nat.le_refl _)
            rw [hd0, anyTail]
            cases hg : globs pl [] with
            | true => rw [if_pos rfl]
            | false =>
              rw [if_neg (by decide), w64 (by omega) (by omega)]
              have := ih (n.size + 1) k (by omega) (by omega)
              rw [if_neg (show ¬ (n.size + 1 ≤ n.size) by omega)] at this
              exact this
      have := loop (n.size + 1) 0 k (by omega) (by omega)
      rw [if_pos (Nat.zero_le n.size), List.drop_zero] at this
      exact this
    · rw [if_neg (show ¬ ((x.toNat : Int) = 42) from fun h => h42 (u8_int (b := 42) |>.1 h))]
      rw [globs_cons, if_neg h42]
      cases hnl : n.data.toList with
      | nil => rw [if_pos (by rw [ByteArray.toList_eq, hnl])]
      | cons d r =>
        have hns : n.size = r.length + 1 := by rw [← size_list, hnl]; rfl
        have hes : (n.extract 1 n.size).size ≤ n.size := by rw [ByteArray.size_extract]; omega
        have hrec := globs_say pl (p.extract 1 p.size) (n.extract 1 n.size) het (by omega) k (Nat.le_trans (gfuel_mono pl hes) (by omega))
        rw [ext_tail n d r hnl] at hrec
        have hbn : bt n 0 = (d.toNat : Int) := by
          have := bt_list n 0 (by rw [hnl]; simp)
          rw [show ((0 : Nat) : Int) = 0 from rfl] at this
          rw [this]
          simp only [hnl, List.getElem_cons_zero]
        rw [if_neg (by rw [ByteArray.toList_eq, hnl]; simp), hbn]
        simp only
        by_cases h63 : x = 63
        · subst h63
          rw [if_pos (show (((63 : UInt8).toNat : Nat) : Int) = 63 from rfl), if_pos (by omega), if_pos (by omega), hrec, Option.bind_some]
          simp
        · rw [if_neg (show ¬ ((x.toNat : Int) = 63) from fun h => h63 (u8_int (b := 63) |>.1 h)), if_pos (by omega)]
          by_cases hxd : x = d
          · rw [if_pos (u8_int.2 hxd), if_pos (by omega), if_pos (by omega), hrec, Option.bind_some, hxd]
            simp
          · rw [if_neg (fun h => hxd (u8_int.1 h))]
            simp [h63, hxd]
theorem globs_ev (p n : ByteArray) (hn : n.size ≤ 2147483647) : Ev (fun k => spec_Globs.f k p n) (globs p.data.toList n.data.toList) := ⟨_, fun k hk => globs_say _ p n rfl hn k hk⟩
end Go.Proofs.Ytbiflpbajgafaaa.ign
