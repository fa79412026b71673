/- Trees: what an entry, a tree in order is, plain. -/
import Derived.Test.YtdelomacpmpgoaaDoorPFnTreeUnsortedx2
import Derived.Test.YtdelomacpmpgoaaDoorMFnTreeUnsortedx4
import Derived.Test.YtdelomacpmpgoaaDoorHashN
import Derived.Test.YtdelomacpmpgoaaDoorOrd
import Derived.WalkSpells
namespace Go.Proofs.YtdelomacpmpgoaaDoor.tree
open Go.RowKit Go.Proofs.YtdelomacpmpgoaaDoorW.PrintWords Go.Proofs.YtdelomacpmpgoaaDoorW.PrintLast Go.Proofs.YtdelomacpmpgoaaDoorW.PrintMore Go.Proofs.YtdelomacpmpgoaaDoor.PFnTreeUnsorted Go.Proofs.YtdelomacpmpgoaaDoor.ord
set_option linter.unusedVariables false
set_option linter.unusedSimpArgs false
set_option maxHeartbeats 2000000
set_option maxRecDepth 100000
def Small (x : S30) : Prop := x.f0.size ≤ 2147483647 ∧ x.f2.size ≤ 2147483647
/-- The name by which an entry is put in order. -/
def key (x : S30) : ByteArray := if x.f1 = 16384 then x.f0 ++ (⟨#[47]⟩ : ByteArray) else x.f0
def kl (x : S30) : List UInt8 := (key x).toList
theorem sortName_says (x : S30) (h : Small x) : spec_sortName.f x.f0 x.f1 x.f2 = some (key x) := by
  unfold spec_sortName.f key
  have := h.1
  by_cases e : x.f1 = 16384
  · rw [if_pos e, if_pos (by omega), if_pos e]
  · rw [if_neg e, if_neg e]
theorem rd_list (l : List S30) (j : Nat) (hj : j < l.length) : rd_T30 l (j : Int) = l[j] := by
  unfold rd_T30
  rw [Int.toNat_natCast, List.getD_eq_getElem?_getD, List.getElem?_eq_getElem hj]
  rfl
theorem fits_l0 (l : List S30) (hl : l.length ≤ 2147483647) : ∀ (d i k : Nat), i + d = l.length → d < k → (∀ j (hj : j < l.length), j < i → Small l[j]) → ∃ b, laws_zzFits20.l0 k l (l.length : Int) (i : Int) = some b ∧ (b = true → ∀ x ∈ l, Small x) := by
  intro d
  induction d with
  | zero =>
    intro i k hi hk hq
    obtain ⟨k, rfl⟩ : ∃ m, k = m + 1 := ⟨k - 1, by omega⟩
    rw [laws_zzFits20.l0, if_neg (by omega)]
    exact ⟨true, rfl, fun _ e he => by
      obtain ⟨j, hj, rfl⟩ := List.getElem_of_mem he
      exact hq j hj (by omega)⟩
  | succ d ih =>
    intro i k hi hk hq
    obtain ⟨k, rfl⟩ : ∃ m, k = m + 1 := ⟨k - 1, by omega⟩
    have hlt : i < l.length := by omega
    rw [laws_zzFits20.l0, if_pos (by omega), if_pos (by omega), if_pos (by omega), rd_list l i hlt]
    unfold laws_zzFits21.f
    by_cases h : ((l[i]).f0.size : Int) > 2147483647
    · rw [if_pos h]
      exact ⟨false, rfl, fun h => by cases h⟩
    · rw [if_neg h]
      by_cases h2 : ((l[i]).f2.size : Int) > 2147483647
      · rw [if_pos h2]
        exact ⟨false, rfl, fun h => by cases h⟩
      · rw [if_neg h2, Option.bind_some, if_pos rfl, show wrap64 ((i : Int) + 1) = ((i + 1 : Nat) : Int) by unfold wrap64; omega]
        refine ih (i + 1) k (by omega) (by omega) (fun j hj hji => ?_)
        by_cases hjj : j = i
        · subst hjj; exact ⟨by omega, by omega⟩
        · exact hq j hj (by omega)
theorem fits_says (l : List S30) : ∃ b, laws_zzFits20.f (l.length + 1) l = some b ∧ (b = true → l.length ≤ 2147483647 ∧ ∀ x ∈ l, Small x) := by
  unfold laws_zzFits20.f
  by_cases h : (l.length : Int) > 2147483647
  · rw [if_pos h]; exact ⟨false, rfl, fun h => by cases h⟩
  · rw [if_neg h]
    obtain ⟨b, h1, h2⟩ := fits_l0 l (by omega) l.length 0 (l.length + 1) (by omega) (by omega) (fun j hj h => by omega)
    exact ⟨b, h1, fun e => ⟨by omega, h2 e⟩⟩
theorem insert_perm {l x3 : List S30} {i j : Nat} (hi : i < l.length) (h : x3.Perm (l.take i)) : ((([] ++ x3.take j) ++ [l[i]]) ++ x3.drop j).Perm (l.take (i + 1)) := by
  rw [List.take_succ_eq_append_getElem hi, List.nil_append, List.append_assoc]
  refine List.Perm.trans ?_ (h.append_right [l[i]])
  refine List.Perm.trans (List.perm_middle (l₁ := x3.take j) (l₂ := x3.drop j) (a := l[i])) ?_
  rw [List.take_append_drop]
  exact (List.perm_append_singleton _ _).symm
def fuel (d : Nat) : Nat := d * 2000 + 10
theorem order_l1 (l : List S30) (hl : l.length ≤ 1000) (hs : ∀ x ∈ l, Small x) (i : Nat) (hi : i < l.length) (F : Nat) (IH : ∀ y, y.Perm (l.take (i + 1)) → ∀ m, F < m → ∃ r, spec_TreeInOrder.l0 m y l (l.length : Int) ((i + 1 : Nat) : Int) = some r ∧ r.Perm l) (x3 : List S30) (hx : x3.Perm (l.take i)) :
    ∀ (j m : Nat), j ≤ x3.length → j + F + 1 < m → ∃ r, spec_TreeInOrder.l1 m x3 (j : Int) l (l.length : Int) (i : Int) l[i].f0 l[i].f1 l[i].f2 = some r ∧ r.Perm l := by
  have hlen : x3.length = i := by rw [hx.length_eq, List.length_take]; omega
  have hsx : ∀ x ∈ x3, Small x := fun x h => hs x (List.mem_of_mem_take (hx.mem_iff.1 h))
  have hk := sortName_says _ (hs _ (List.getElem_mem hi))
  have fill : ∀ (j m : Nat), j ≤ x3.length → F < m → ∃ r, ((some (([] : List (S30)) : List (S30))).bind fun y111 => (if 0 ≤ (j : Int) then (if (j : Int) ≤ (x3.length : Int) then ((some (x3.take (j : Int).toNat : List (S30))).bind fun y114 => (if y111.length + y114.length < 3518437208883 then ((some (y111 ++ y114 : List (S30))).bind fun y118 => (if y118.length < 3518437208883 then ((some (y118 ++ [(⟨l[i].f0, l[i].f1, l[i].f2⟩ : S30)] : List (S30))).bind fun y121 => ((some (x3.drop (j : Int).toNat : List (S30))).bind fun y124 => (if y121.length + y124.length < 3518437208883 then (spec_TreeInOrder.l0 m (y121 ++ y124) l (l.length : Int) (wrap64 ((i : Int) + 1))) else (none)))) else (none))) else (none))) else (none)) else (none))) = some r ∧ r.Perm l := by
    intro j m hj hm
    simp only [Option.bind_some, Int.toNat_natCast]
    have h1 : (x3.take j).length ≤ 1000 := by rw [List.length_take]; omega
    have h2 : (x3.drop j).length ≤ 1000 := by rw [List.length_drop]; omega
    rw [if_pos (by omega), if_pos (by omega), if_pos (by simp only [List.length_nil]; omega), if_pos (by simp only [List.length_append, List.length_nil]; omega), if_pos (by simp only [List.length_append, List.length_nil, List.length_cons]; omega), show wrap64 ((i : Int) + 1) = ((i + 1 : Nat) : Int) by unfold wrap64; omega]
    exact IH _ (insert_perm hi hx) m hm
  intro j
  induction j with
  | zero =>
    intro m hj hm
    obtain ⟨m, rfl⟩ : ∃ k, m = k + 1 := ⟨m - 1, by omega⟩
    rw [spec_TreeInOrder.l1, if_neg (by decide)]
    exact fill 0 m hj (by omega)
  | succ j ih =>
    intro m hj hm
    obtain ⟨m, rfl⟩ : ∃ k, m = k + 1 := ⟨m - 1, by omega⟩
    have hjl : j < x3.length := by omega
    rw [spec_TreeInOrder.l1, if_pos (by omega), hk, Option.bind_some, show wrap64 (((j + 1 : Nat) : Int) - 1) = (j : Int) by unfold wrap64; omega, if_pos (by omega), if_pos (by omega), rd_list x3 j hjl, sortName_says _ (hsx _ (List.getElem_mem hjl)), Option.bind_some]
    by_cases hb : Op.bytesLess (key l[i]).toList (key x3[j]).toList = true
    · rw [if_pos hb]; exact ih m (by omega) (by omega)
    · rw [if_neg hb]; exact fill (j + 1) m (by omega) (by omega)
theorem order_l0 (l : List S30) (hl : l.length ≤ 1000) (hs : ∀ x ∈ l, Small x) : ∀ (d i : Nat), i + d = l.length → ∀ y, y.Perm (l.take i) → ∀ m, fuel d < m → ∃ r, spec_TreeInOrder.l0 m y l (l.length : Int) (i : Int) = some r ∧ r.Perm l := by
  intro d
  induction d with
  | zero =>
    intro i hi y hy m hm
    obtain ⟨m, rfl⟩ : ∃ k, m = k + 1 := ⟨m - 1, by omega⟩
    rw [spec_TreeInOrder.l0, if_neg (by omega)]
    exact ⟨y, rfl, by rwa [List.take_of_length_le (by omega)] at hy⟩
  | succ d ih =>
    intro i hi y hy m hm
    have hf : fuel (d + 1) = fuel d + 2000 := by unfold fuel; omega
    obtain ⟨m, rfl⟩ : ∃ k, m = k + 1 := ⟨m - 1, by omega⟩
    have hlt : i < l.length := by omega
    have hly : y.length = i := by rw [hy.length_eq, List.length_take]; omega
    rw [spec_TreeInOrder.l0, if_pos (by omega), if_pos (by omega), if_pos (by omega), rd_list l i hlt]
    exact order_l1 l hl hs i hlt (fuel d) (ih (i + 1) (by omega)) y hy y.length m (Nat.le_refl _) (by omega)
theorem order_says (l : List S30) (hl : l.length ≤ 1000) (hs : ∀ x ∈ l, Small x) : ∃ r, spec_TreeInOrder.f (fuel 1000 + 1) l = some r ∧ r.Perm l :=
  order_l0 l hl hs l.length 0 (by omega) [] (List.Perm.refl _) _ (by unfold fuel; omega)
/-- What says the same for all that is great enough. -/
def F0 : Nat := 2147483700
theorem has_l0 (s : ByteArray) (c : Int) (hs : s.size ≤ 2147483647) : ∀ (d i k : Nat), i + d = s.size → d < k → ∃ b, spec_Has.l0 k s c (s.size : Int) (i : Int) = some b := by
  intro d
  induction d with
  | zero =>
    intro i k hi hk
    obtain ⟨k, rfl⟩ : ∃ m, k = m + 1 := ⟨k - 1, by omega⟩
    rw [spec_Has.l0, if_neg (by omega)]; exact ⟨_, rfl⟩
  | succ d ih =>
    intro i k hi hk
    obtain ⟨k, rfl⟩ : ∃ m, k = m + 1 := ⟨k - 1, by omega⟩
    rw [spec_Has.l0, if_pos (by omega), if_pos (by omega), if_pos (by omega)]
    by_cases h : bt s (i : Int) = c
    · rw [if_pos h]; exact ⟨_, rfl⟩
    · rw [if_neg h, show wrap64 ((i : Int) + 1) = ((i + 1 : Nat) : Int) by unfold wrap64; omega]
      exact ih (i + 1) k (by omega) (by omega)
theorem hexc_bt {c : UInt8} : hash.hexc c = true ↔ ((c.toNat : Int) ≥ 48 ∧ (c.toNat : Int) ≤ 57) ∨ ((c.toNat : Int) ≥ 97 ∧ (c.toNat : Int) ≤ 102) := by
  unfold hash.hexc
  simp only [Bool.or_eq_true, Bool.and_eq_true, decide_eq_true_eq]
  omega
theorem name_l0 (s : ByteArray) (hs : s.size ≤ 2147483647) : ∀ (d i k : Nat), i + d = s.size → d < k → (∀ (j : Nat) (h : j < s.size), j < i → hash.hexc (s[j]'h) = true) → ∃ b, spec_IsName40.l0 k s (s.size : Int) (i : Int) = some b ∧ (b = true → hash.name40 s = true) := by
  intro d
  induction d with
  | zero =>
    intro i k hi hk hq
    obtain ⟨k, rfl⟩ : ∃ m, k = m + 1 := ⟨k - 1, by omega⟩
    rw [spec_IsName40.l0, if_neg (by omega)]
    exact ⟨_, rfl, fun h => decide_eq_true ⟨by have := beq_iff_eq.1 h; omega, fun j hj => hq j hj (by omega)⟩⟩
  | succ d ih =>
    intro i k hi hk hq
    obtain ⟨k, rfl⟩ : ∃ m, k = m + 1 := ⟨k - 1, by omega⟩
    have hlt : i < s.size := by omega
    have hb : bt s (i : Int) = ((s[i]'hlt).toNat : Int) := (bt_at s (i : Int) (by rw [Int.toNat_natCast]; exact hlt)).symm
    have IH := fun (h : hash.hexc (s[i]'hlt) = true) => ih (i + 1) k (by omega) (by omega) (fun j hj hji => by
      by_cases e : j = i
      · subst e; exact h
      · exact hq j hj (by omega))
    have NO : ∃ b, (some false : Option Bool) = some b ∧ (b = true → hash.name40 s = true) := ⟨false, rfl, fun h => by cases h⟩
    rw [spec_IsName40.l0, if_pos (by omega), if_pos (by omega), if_pos (by omega), hb, show wrap64 ((i : Int) + 1) = ((i + 1 : Nat) : Int) by unfold wrap64; omega]
    have hx := @hexc_bt (s[i]'hlt)
    generalize hash.hexc (s[i]'hlt) = q at hx IH
    generalize ((s[i]'hlt).toNat : Int) = v at hx
    by_cases h1 : v ≥ 48
    · rw [if_pos h1]
      by_cases h2 : v ≤ 57
      · rw [if_pos h2]; exact IH (hx.2 (.inl ⟨h1, h2⟩))
      · rw [if_neg h2]
        by_cases h3 : v ≥ 97
        · rw [if_pos h3]
          by_cases h4 : v ≤ 102
          · rw [if_pos h4]; exact IH (hx.2 (.inr ⟨h3, h4⟩))
          · rw [if_neg h4]; exact NO
        · rw [if_neg h3]; exact NO
    · rw [if_neg h1]
      by_cases h3 : v ≥ 97
      · rw [if_pos h3]
        by_cases h4 : v ≤ 102
        · rw [if_pos h4]; exact IH (hx.2 (.inr ⟨h3, h4⟩))
        · rw [if_neg h4]; exact NO
      · rw [if_neg h3]; exact NO
theorem mode_says (m : Int) : ∃ b, spec_IsMode.f m = some b := by
  unfold spec_IsMode.f
  repeat (first | exact ⟨_, rfl⟩ | split)
theorem entry_says (x : S30) (h : Small x) (k : Nat) (hk : F0 ≤ k) : ∃ b, spec_IsEntry.f k x.f0 x.f1 x.f2 = some b ∧ (b = true → x.f0.size ≤ 4096 ∧ hash.name40 x.f2 = true) := by
  have NO : ∃ b, (some false : Option Bool) = some b ∧ (b = true → x.f0.size ≤ 4096 ∧ hash.name40 x.f2 = true) := ⟨false, rfl, fun h => by cases h⟩
  have h1 := h.1
  have h2 := h.2
  unfold F0 at hk
  unfold spec_IsEntry.f
  by_cases c1 : x.f0.toList = ([] : List UInt8)
  · rw [if_pos c1]; exact NO
  rw [if_neg c1]
  by_cases c2 : (x.f0.size : Int) ≤ 4096
  · rw [if_pos c2]
    obtain ⟨b1, e1⟩ := has_l0 x.f0 0 h1 x.f0.size 0 k (by omega) (by omega)
    obtain ⟨b2, e2⟩ := has_l0 x.f0 47 h1 x.f0.size 0 k (by omega) (by omega)
    obtain ⟨b3, e3⟩ := mode_says x.f1
    obtain ⟨b4, e4, q4⟩ := name_l0 x.f2 h2 x.f2.size 0 k (by omega) (by omega) (fun j hj h => by omega)
    rw [show spec_Has.f k x.f0 0 = some b1 from e1, show spec_Has.f k x.f0 47 = some b2 from e2, e3, show spec_IsName40.f k x.f2 = some b4 from e4]
    simp only [Option.bind_some]
    cases b1 with
    | true => rw [if_pos rfl]; exact NO
    | false =>
      rw [if_neg (by simp)]
      cases b2 with
      | true => rw [if_pos rfl]; exact NO
      | false =>
        rw [if_neg (by simp)]
        cases b3 with
        | false => rw [if_neg (by simp)]; exact NO
        | true =>
          rw [if_pos rfl]
          by_cases c3 : x.f1 = 33204
          · rw [if_pos c3]; exact NO
          · rw [if_neg c3]; exact ⟨b4, rfl, fun h => ⟨by omega, q4 h⟩⟩
  · rw [if_neg c2]; exact NO
/-- An entry: told by the specification. -/
def Ent (x : S30) : Prop := spec_IsEntry.f F0 x.f0 x.f1 x.f2 = some true
theorem entry_more (x : S30) (h : Small x) : ∀ d, spec_IsEntry.f (F0 + d) x.f0 x.f1 x.f2 = spec_IsEntry.f F0 x.f0 x.f1 x.f2 := by
  intro d
  induction d with
  | zero => rfl
  | succ d ih =>
    rw [← ih]
    obtain ⟨b, hb, _⟩ := entry_says x h (F0 + d) (by omega)
    rw [hb]
    exact spec_IsEntry.mono _ _ _ _ _ hb
theorem Ent.of {x : S30} (h : Small x) (k : Nat) (hk : F0 ≤ k) {b : Bool} (hb : spec_IsEntry.f k x.f0 x.f1 x.f2 = some b) : b = true ↔ Ent x := by
  obtain ⟨d, rfl⟩ : ∃ d, k = F0 + d := ⟨k - F0, by omega⟩
  rw [entry_more x h d] at hb
  unfold Ent
  rw [hb]
  simp
theorem Ent.name {x : S30} (h : Small x) (e : Ent x) : x.f0.size ≤ 4096 ∧ hash.name40 x.f2 = true := by
  obtain ⟨b, hb, q⟩ := entry_says x h F0 (Nat.le_refl _)
  unfold Ent at e
  rw [e] at hb
  exact q (Option.some.inj hb).symm
def Asc (l : List S30) (i : Nat) : Prop := ∀ h : i + 1 < l.length, Op.bytesLess (kl l[i]) (kl l[i + 1]) = true
theorem tree_l0 (l : List S30) (hl : l.length ≤ 1000) (hs : ∀ x ∈ l, Small x) : ∀ (d i k : Nat), i + d = l.length → F0 + d < k → (∀ j (hj : j < l.length), j < i → Ent l[j]) → (∀ j, j + 1 < i → Asc l j) →
    ∃ b, spec_IsTree.l0 k l l (l.length : Int) (i : Int) = some b ∧ (b = true → (∀ x ∈ l, Ent x) ∧ ∀ j, Asc l j) ∧ (b = false → (∀ x ∈ l, Ent x) → ∃ j, ∃ h : j + 1 < l.length, Op.bytesLess (kl l[j]) (kl l[j + 1]) = false) := by
  intro d
  induction d with
  | zero =>
    intro i k hi hk he ha
    obtain ⟨k, rfl⟩ : ∃ m, k = m + 1 := ⟨k - 1, by omega⟩
    rw [spec_IsTree.l0, if_neg (by omega)]
    exact ⟨true, rfl, fun _ => ⟨fun x hx => by
      obtain ⟨j, hj, rfl⟩ := List.getElem_of_mem hx
      exact he j hj (by omega), fun j h => ha j (by omega) h⟩, fun h => by cases h⟩
  | succ d ih =>
    intro i k hi hk he ha
    obtain ⟨k, rfl⟩ : ∃ m, k = m + 1 := ⟨k - 1, by omega⟩
    have hlt : i < l.length := by omega
    have hsi := hs _ (List.getElem_mem hlt)
    obtain ⟨b, hb, _⟩ := entry_says l[i] hsi k (by omega)
    have hbe := Ent.of hsi k (by omega) hb
    rw [spec_IsTree.l0, if_pos (by omega), if_pos (by omega), if_pos (by omega), rd_list l i hlt, hb, Option.bind_some]
    cases b with
    | false =>
      rw [if_neg (by simp)]
      exact ⟨false, rfl, (fun h => by cases h), fun _ h => by have := hbe.2 (h _ (List.getElem_mem hlt)); cases this⟩
    | true =>
      have hei := hbe.1 rfl
      have he' : ∀ j (hj : j < l.length), j < i + 1 → Ent l[j] := fun j hj hji => by
        by_cases e : j = i
        · subst e; exact hei
        · exact he j hj (by omega)
      rw [if_pos rfl, show wrap64 ((i : Int) + 1) = ((i + 1 : Nat) : Int) by unfold wrap64; omega]
      by_cases h0 : (i : Int) > 0
      · obtain ⟨p, rfl⟩ : ∃ p, i = p + 1 := ⟨i - 1, by omega⟩
        rw [if_pos h0, show wrap64 (((p + 1 : Nat) : Int) - 1) = (p : Int) by unfold wrap64; omega, if_pos (by omega), if_pos (by omega), rd_list l p (by omega), sortName_says _ (hs _ (List.getElem_mem (show p < l.length by omega))), sortName_says _ hsi]
        simp only [Option.bind_some]
        by_cases hbl : Op.bytesLess (key l[p]).toList (key l[p + 1]).toList = true
        · rw [if_pos hbl]
          refine ih (p + 1 + 1) k (by omega) (by omega) he' (fun j hj => ?_)
          by_cases e : j = p
          · subst e; exact fun _ => hbl
          · exact ha j (by omega)
        · rw [if_neg hbl]
          exact ⟨false, rfl, (fun h => by cases h), fun _ _ => ⟨p, hlt, Bool.eq_false_iff.2 hbl⟩⟩
      · rw [if_neg h0]
        exact ih (i + 1) k (by omega) (by omega) he' (fun j hj => by omega)
theorem tree_says (l : List S30) (hl : l.length ≤ 1000) (hs : ∀ x ∈ l, Small x) :
    ∃ b, spec_IsTree.f (F0 + 1001) l = some b ∧ (b = true → (∀ x ∈ l, Ent x) ∧ ∀ j, Asc l j) ∧ (b = false → (∀ x ∈ l, Ent x) → ∃ j, ∃ h : j + 1 < l.length, Op.bytesLess (kl l[j]) (kl l[j + 1]) = false) := by
  unfold spec_IsTree.f
  rw [if_neg (by omega)]
  exact tree_l0 l hl hs l.length 0 _ (by omega) (by omega) (fun j hj h => by omega) (fun j h => by omega)
/-- A tree that is not in order has two neighbours the wrong way. -/
theorem unsorted (l r : List S30) (hp : r.Perm l) (ha : ∀ j, Asc r j) (h : ∃ j, ∃ h : j + 1 < l.length, Op.bytesLess (kl l[j]) (kl l[j + 1]) = false) : ∃ j, ∃ h : j + 1 < l.length, Op.bytesLess (kl l[j + 1]) (kl l[j]) = true := by
  obtain ⟨j, hj, hn⟩ := h
  exact ⟨j, hj, bl_desc kl r l (fun i hi => ha i hi) hp j hj hn⟩
end Go.Proofs.YtdelomacpmpgoaaDoor.tree
