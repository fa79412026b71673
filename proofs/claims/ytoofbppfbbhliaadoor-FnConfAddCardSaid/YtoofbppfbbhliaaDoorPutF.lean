/- config, plain law: what the specification's functions of fuel say of sections and options. No program in sight. -/
import Derived.Test.YtoofbppfbbhliaaDoorPutE
namespace Go.Proofs.YtoofbppfbbhliaaDoor.confP
open Go.RowKit Go.Proofs.YtoofbppfbbhliaaDoorW.PrintWords Go.Proofs.YtoofbppfbbhliaaDoorW.PrintLast Go.Proofs.YtoofbppfbbhliaaDoorW.PrintMore Go.Proofs.YtoofbppfbbhliaaDoor.PFnConfAdd Go.Proofs.YtoofbppfbbhliaaDoor.ptr
set_option linter.unusedVariables false
set_option linter.unusedSimpArgs false
set_option maxHeartbeats 1000000
set_option maxRecDepth 100000
/-- It comes to an answer, of which something holds where it is yes. -/
def Says (g : Nat → Option Bool) (p : Prop) : Prop := ∃ b, Ev g b ∧ (b = true → p)
theorem Says.no {g : Nat → Option Bool} {p : Prop} (h : ∀ k, g (k + 1) = some false) : Says g p := ⟨false, Ev.step (f := fun _ => some false) h (Ev.now false), fun h => by cases h⟩
theorem Says.step {g f : Nat → Option Bool} {p : Prop} (h : ∀ k, g (k + 1) = f k) (k : Says f p) : Says g p := by
  obtain ⟨b, h1, h2⟩ := k
  exact ⟨b, Ev.step h h1, h2⟩
theorem Says.congr {g f : Nat → Option Bool} {p : Prop} (h : ∀ k, g k = f k) (k : Says f p) : Says g p := by
  obtain ⟨b, h1, h2⟩ := k
  exact ⟨b, Ev.congr h h1, h2⟩
theorem Says.imp {g : Nat → Option Bool} {p q : Prop} (k : Says g p) (h : p → q) : Says g q := by
  obtain ⟨b, h1, h2⟩ := k
  exact ⟨b, h1, fun hb => h (h2 hb)⟩
theorem Says.now {p : Prop} (b : Bool) (h : b = true → p) : Says (fun _ => some b) p := ⟨b, Ev.now b, h⟩
/-- One asks first; a yes goes on, a no is the answer. -/
theorem Says.bind {g : Nat → Option Bool} {f : Nat → Option Bool} {p q : Prop} (h : Says g p) (k : p → Says f q) : Says (fun n => (g n).bind fun t => if t = true then f n else some false) q := by
  obtain ⟨b, h1, h2⟩ := h
  cases b with
  | true =>
    obtain ⟨c, h3, h4⟩ := k (h2 rfl)
    exact ⟨c, Ev.bind (f := fun n t => if t = true then f n else some false) h1 (Ev.congr (fun n => if_pos rfl) h3), h4⟩
  | false => exact ⟨false, Ev.bind (f := fun n t => if t = true then f n else some false) h1 (Ev.congr (fun n => if_neg (by decide)) (Ev.now false)), fun h => by cases h⟩
theorem Says.true_ {g : Nat → Option Bool} {p : Prop} (h : Says g p) : Says (fun n => (g n).bind fun t => if t = true then some true else some false) p := Says.bind h (fun hp => Says.now true (fun _ => hp))
theorem wi {i : Nat} (h : i < 9223372036854775807) : wrap64 ((i : Int) + 1) = ((i + 1 : Nat) : Int) := by rw [w64 (by omega) (by omega)]; omega
/-! ### Words -/
theorem bt_get (s : ByteArray) (j : Nat) (b : UInt8) (h : s.data.toList[j]? = some b) : bt s (j : Int) = b.toNat := by
  obtain ⟨h1, h2⟩ := List.getElem?_eq_some_iff.1 h
  have h3 : j < s.size := by rwa [Array.length_toList] at h1
  unfold bt
  rw [dif_pos (by simpa using h3)]
  simp only [Int.toNat_natCast]
  rw [← h2]; rfl
theorem word_l0 (s : ByteArray) (hs : s.size ≤ 2147483647) : ∀ (m i : Nat), i + m = s.size → (∀ j : Nat, j < i → 97 ≤ bt s j ∧ bt s j ≤ 122) → Says (fun k => spec_IsConfWord.l0 k s (s.size : Int) (i : Int)) (Word s ∧ s.toList ≠ [])
  | 0, i, h, hb => by
    by_cases he : s.toList = []
    · exact Says.no (fun k => by rw [spec_IsConfWord.l0, if_neg (by omega), if_pos he])
    · refine Says.step (f := fun _ => some (decide ((s.size : Int) ≤ 1000))) (fun k => by rw [spec_IsConfWord.l0, if_neg (by omega), if_neg he]) (Says.now _ (fun hd => ⟨⟨fun j b hj => ?_, by have := of_decide_eq_true hd; omega⟩, he⟩))
      have h1 := bt_get s j b hj
      have h2 : j < s.size := by have := (List.getElem?_eq_some_iff.1 hj).1; rwa [Array.length_toList] at this
      have := hb j (by omega)
      omega
  | m + 1, i, h, hb => by
    have e1 : (i : Int) < s.size := by omega
    by_cases h1 : bt s i < 97
    · exact Says.no (fun k => by rw [spec_IsConfWord.l0, if_pos e1, if_pos (by omega), if_pos e1, if_pos h1])
    · by_cases h2 : bt s i > 122
      · exact Says.no (fun k => by rw [spec_IsConfWord.l0, if_pos e1, if_pos (by omega), if_pos e1, if_neg h1, if_pos h2])
      · refine Says.step (f := fun k => spec_IsConfWord.l0 k s (s.size : Int) ((i + 1 : Nat) : Int)) (fun k => by rw [spec_IsConfWord.l0, if_pos e1, if_pos (by omega), if_pos e1, if_neg h1, if_neg h2, wi (by omega)]) (word_l0 s hs m (i + 1) (by omega) (fun j hj => ?_))
        by_cases e : j = i
        · subst e; omega
        · exact hb j (by omega)
theorem word_says (s : ByteArray) (hs : s.size ≤ 2147483647) : Says (fun k => spec_IsConfWord.f k s) (Word s ∧ s.toList ≠ []) := word_l0 s hs s.size 0 (by omega) (fun j hj => by omega)
theorem small_l0 (s : ByteArray) (hs : s.size ≤ 2147483647) : ∀ (m i : Nat), i + m = s.size → Says (fun k => spec_Small.l0 k s (s.size : Int) (i : Int)) True
  | 0, i, h => Says.step (f := fun _ => some (s.toList != [])) (fun k => by rw [spec_Small.l0, if_neg (by omega)]) (Says.now _ (fun _ => trivial))
  | m + 1, i, h => by
    have e1 : (i : Int) < s.size := by omega
    have ih := small_l0 s hs m (i + 1) (by omega)
    have key : ∀ k, spec_Small.l0 (k + 1) s (s.size : Int) (i : Int) = if ((bt s i ≥ 97 ∧ bt s i ≤ 122) ∨ (bt s i ≥ 65 ∧ bt s i ≤ 90) ∨ (bt s i ≥ 48 ∧ bt s i ≤ 57)) then spec_Small.l0 k s (s.size : Int) ((i + 1 : Nat) : Int) else some false := by
      intro k
      rw [spec_Small.l0, if_pos e1, if_pos (by omega), if_pos e1, wi (by omega)]
      generalize spec_Small.l0 k s (s.size : Int) ((i + 1 : Nat) : Int) = R
      generalize bt s i = b
      by_cases a1 : b ≥ 97 <;> by_cases a2 : b ≤ 122 <;> by_cases a3 : b ≥ 65 <;> by_cases a4 : b ≤ 90 <;> by_cases a5 : b ≥ 48 <;> by_cases a6 : b ≤ 57 <;> simp only [a1, a2, a3, a4, a5, a6, if_true, if_false, and_true, and_false, or_true, or_false, true_or, false_or, and_self, or_self]
    by_cases hc : ((bt s i ≥ 97 ∧ bt s i ≤ 122) ∨ (bt s i ≥ 65 ∧ bt s i ≤ 90) ∨ (bt s i ≥ 48 ∧ bt s i ≤ 57))
    · exact Says.step (fun k => (key k).trans (if_pos hc)) ih
    · exact Says.no (fun k => (key k).trans (if_neg hc))
theorem small_says (s : ByteArray) (hs : s.size ≤ 2147483647) : Says (fun k => spec_Small.f k s) True := small_l0 s hs s.size 0 (by omega)
theorem value_l0 (s : ByteArray) (hs : s.size ≤ 2147483647) : ∀ (m i : Nat), i + m = s.size → Says (fun k => spec_IsValue.l0 k s (s.size : Int) (i : Int)) True
  | 0, i, h => by
    by_cases he : s.toList = []
    · exact Says.no (fun k => by rw [spec_IsValue.l0, if_neg (by omega), if_pos he])
    · exact Says.step (f := fun _ => some (decide ((s.size : Int) ≤ 1000))) (fun k => by rw [spec_IsValue.l0, if_neg (by omega), if_neg he]) (Says.now _ (fun _ => trivial))
  | m + 1, i, h => by
    have e1 : (i : Int) < s.size := by omega
    have ih := value_l0 s hs m (i + 1) (by omega)
    obtain ⟨b, h1, _⟩ := small_says (s.extract i (i + 1)) (by rw [ByteArray.size_extract]; omega)
    obtain ⟨c, h2, _⟩ := ih
    have key : ∀ k, spec_IsValue.l0 (k + 1) s (s.size : Int) (i : Int) = (spec_Small.f k (s.extract i (i + 1))).bind fun t => if t = true then spec_IsValue.l0 k s (s.size : Int) ((i + 1 : Nat) : Int) else if bt s i = 46 then spec_IsValue.l0 k s (s.size : Int) ((i + 1 : Nat) : Int) else some false := fun k => by
      rw [spec_IsValue.l0, if_pos e1, if_pos (by omega), wi (by omega), if_pos (by omega), if_pos (by omega)]
      simp only [Int.toNat_natCast]
      rw [if_pos e1]
    by_cases hb : b = true
    · exact ⟨c, Ev.step key (Ev.bind (f := fun k t => if t = true then spec_IsValue.l0 k s (s.size : Int) ((i + 1 : Nat) : Int) else if bt s i = 46 then spec_IsValue.l0 k s (s.size : Int) ((i + 1 : Nat) : Int) else some false) h1 (Ev.congr (fun k => if_pos hb) h2)), fun _ => trivial⟩
    · by_cases hd : bt s i = 46
      · exact ⟨c, Ev.step key (Ev.bind (f := fun k t => if t = true then spec_IsValue.l0 k s (s.size : Int) ((i + 1 : Nat) : Int) else if bt s i = 46 then spec_IsValue.l0 k s (s.size : Int) ((i + 1 : Nat) : Int) else some false) h1 (Ev.congr (fun k => by rw [if_neg hb, if_pos hd]) h2)), fun _ => trivial⟩
      · exact ⟨false, Ev.step key (Ev.bind (f := fun k t => if t = true then spec_IsValue.l0 k s (s.size : Int) ((i + 1 : Nat) : Int) else if bt s i = 46 then spec_IsValue.l0 k s (s.size : Int) ((i + 1 : Nat) : Int) else some false) h1 (Ev.congr (fun k => by rw [if_neg hb, if_neg hd]) (Ev.now false))), fun _ => trivial⟩
theorem value_says (s : ByteArray) (hs : s.size ≤ 2147483647) : Says (fun k => spec_IsValue.f k s) True := value_l0 s hs s.size 0 (by omega)
/-! ### Lengths -/
def FOpts (l : List S112) : Prop := l.length ≤ 2147483647 ∧ ∀ o ∈ l, o.f0.size ≤ 2147483647 ∧ o.f1.size ≤ 2147483647
def FSubs (l : List S115) : Prop := l.length ≤ 2147483647 ∧ ∀ x ∈ l, x.f0.size ≤ 2147483647 ∧ FOpts x.f1
def FSecs (l : List S71) : Prop := l.length ≤ 2147483647 ∧ ∀ s ∈ l, s.f0.size ≤ 2147483647 ∧ FOpts s.f1 ∧ FSubs s.f2
theorem FSecs.fits {l : List S71} (h : FSecs l) : Fits l := ⟨Nat.le_trans h.1 (by decide), fun s hs => ⟨Nat.le_trans (h.2 s hs).2.1.1 (by decide), Nat.le_trans (h.2 s hs).2.2.1 (by decide), fun x hx => Nat.le_trans ((h.2 s hs).2.2.2 x hx).2.1 (by decide)⟩⟩
theorem says_list {α : Type} {l : List α} {p : α → Prop} {r : Prop} {L : Nat → Nat → Option Bool} {e : Nat → α → Option Bool} (step : ∀ (j : Nat) (hj : j < l.length) (k : Nat), L (k + 1) j = (e k l[j]).bind fun t => if t = true then L k (j + 1) else some false)
    (each : ∀ x ∈ l, Says (fun k => e k x) (p x)) (last : Says (fun k => L k l.length) r) : ∀ (m j : Nat), j + m = l.length → Says (fun k => L k j) ((∀ x ∈ l.drop j, p x) ∧ r)
  | 0, j, h => by
    obtain rfl : j = l.length := by omega
    exact last.imp (fun hr => ⟨by rw [List.drop_length]; exact fun x hx => (List.not_mem_nil hx).elim, hr⟩)
  | m + 1, j, h => by
    have hj : j < l.length := by omega
    refine Says.step (step j hj) ((each _ (List.getElem_mem hj)).bind fun hp => (says_list step each last m (j + 1) (by omega)).imp fun hq => ⟨fun x hx => ?_, hq.2⟩)
    rw [List.drop_eq_getElem_cons hj] at hx
    rcases List.mem_cons.1 hx with rfl | hx
    · exact hp
    · exact hq.1 x hx
theorem fits4_says (a b : ByteArray) : Says (fun _ => laws_zzFits4.f a b) (a.size ≤ 2147483647 ∧ b.size ≤ 2147483647) := by
  by_cases h1 : (a.size : Int) > 2147483647
  · exact Says.congr (f := fun _ => some false) (fun _ => by rw [laws_zzFits4.f, if_pos h1]) (Says.now false (fun h => by cases h))
  · by_cases h2 : (b.size : Int) > 2147483647
    · exact Says.congr (f := fun _ => some false) (fun _ => by rw [laws_zzFits4.f, if_neg h1, if_pos h2]) (Says.now false (fun h => by cases h))
    · exact Says.congr (f := fun _ => some true) (fun _ => by rw [laws_zzFits4.f, if_neg h1, if_neg h2]) (Says.now true (fun _ => by omega))
theorem fits3_says (l : List S112) : Says (fun k => laws_zzFits3.f k l) (FOpts l) := by
  by_cases h : (l.length : Int) > 2147483647
  · exact Says.congr (f := fun _ => some false) (fun _ => by rw [laws_zzFits3.f, if_pos h]) (Says.now false (fun h => by cases h))
  · refine Says.congr (f := fun k => laws_zzFits3.l0 k l (l.length : Int) ((0 : Nat) : Int)) (fun _ => by rw [laws_zzFits3.f, if_neg h]; rfl) ((says_list (l := l) (r := True) (L := fun k j => laws_zzFits3.l0 k l (l.length : Int) (j : Int)) (e := fun _ o => laws_zzFits4.f o.f0 o.f1) (p := fun o => o.f0.size ≤ 2147483647 ∧ o.f1.size ≤ 2147483647) (fun j hj k => by
      rw [laws_zzFits3.l0, if_pos (by omega), if_pos (by omega), if_pos (by omega), rdO hj, wi (by omega)]) (fun o _ => fits4_says _ _) (Says.step (f := fun _ => some true) (fun k => by rw [laws_zzFits3.l0, if_neg (by omega)]) (Says.now true (fun _ => trivial))) l.length 0 (by omega)).imp fun hq => ⟨by omega, by simpa using hq.1⟩)
theorem fits6_says (a : ByteArray) (l : List S112) : Says (fun k => laws_zzFits6.f k a l) (a.size ≤ 2147483647 ∧ FOpts l) := by
  by_cases h : (a.size : Int) > 2147483647
  · exact Says.congr (f := fun _ => some false) (fun _ => by rw [laws_zzFits6.f, if_pos h]) (Says.now false (fun h => by cases h))
  · exact Says.congr (fun k => by rw [laws_zzFits6.f, if_neg h]) ((fits3_says l).true_.imp fun hf => ⟨by omega, hf⟩)
theorem fits5_says (l : List S115) : Says (fun k => laws_zzFits5.f k l) (FSubs l) := by
  by_cases h : (l.length : Int) > 2147483647
  · exact Says.congr (f := fun _ => some false) (fun _ => by rw [laws_zzFits5.f, if_pos h]) (Says.now false (fun h => by cases h))
  · refine Says.congr (f := fun k => laws_zzFits5.l0 k l (l.length : Int) ((0 : Nat) : Int)) (fun _ => by rw [laws_zzFits5.f, if_neg h]; rfl) ((says_list (l := l) (r := True) (L := fun k j => laws_zzFits5.l0 k l (l.length : Int) (j : Int)) (e := fun k o => laws_zzFits6.f k o.f0 o.f1) (p := fun o => o.f0.size ≤ 2147483647 ∧ FOpts o.f1) (fun j hj k => by
      rw [laws_zzFits5.l0, if_pos (by omega), if_pos (by omega), if_pos (by omega), rdU hj, wi (by omega)]) (fun o _ => fits6_says _ _) (Says.step (f := fun _ => some true) (fun k => by rw [laws_zzFits5.l0, if_neg (by omega)]) (Says.now true (fun _ => trivial))) l.length 0 (by omega)).imp fun hq => ⟨by omega, by simpa using hq.1⟩)
theorem fits2_says (a : ByteArray) (l : List S112) (u : List S115) : Says (fun k => laws_zzFits2.f k a l u) (a.size ≤ 2147483647 ∧ FOpts l ∧ FSubs u) := by
  by_cases h : (a.size : Int) > 2147483647
  · exact Says.congr (f := fun _ => some false) (fun _ => by rw [laws_zzFits2.f, if_pos h]) (Says.now false (fun h => by cases h))
  · exact Says.congr (fun k => by rw [laws_zzFits2.f, if_neg h]) ((fits3_says l).bind fun hf => (fits5_says u).true_.imp fun hu => ⟨by omega, hf, hu⟩)
theorem fits1_says (l : List S71) : Says (fun k => laws_zzFits1.f k l) (FSecs l) := by
  by_cases h : (l.length : Int) > 2147483647
  · exact Says.congr (f := fun _ => some false) (fun _ => by rw [laws_zzFits1.f, if_pos h]) (Says.now false (fun h => by cases h))
  · refine Says.congr (f := fun k => laws_zzFits1.l0 k l (l.length : Int) ((0 : Nat) : Int)) (fun _ => by rw [laws_zzFits1.f, if_neg h]; rfl) ((says_list (l := l) (r := True) (L := fun k j => laws_zzFits1.l0 k l (l.length : Int) (j : Int)) (e := fun k o => laws_zzFits2.f k o.f0 o.f1 o.f2) (p := fun o => o.f0.size ≤ 2147483647 ∧ FOpts o.f1 ∧ FSubs o.f2) (fun j hj k => by
      rw [laws_zzFits1.l0, if_pos (by omega), if_pos (by omega), if_pos (by omega), rdS hj, wi (by omega)]) (fun o _ => fits2_says _ _ _) (Says.step (f := fun _ => some true) (fun k => by rw [laws_zzFits1.l0, if_neg (by omega)]) (Says.now true (fun _ => trivial))) l.length 0 (by omega)).imp fun hq => ⟨by omega, by simpa using hq.1⟩)
/-! ### Sections -/
theorem opts_says (l : List S112) (hf : FOpts l) : Says (fun k => spec_areOptions.f k l) (∀ o ∈ l, Word o.f0) := by
  refine Says.congr (f := fun k => spec_areOptions.l0 k l l (l.length : Int) ((0 : Nat) : Int)) (fun _ => rfl) ((says_list (l := l) (r := True) (L := fun k j => spec_areOptions.l0 k l l (l.length : Int) (j : Int)) (e := fun k o => (spec_IsConfWord.f k o.f0).bind fun t => if t = true then spec_IsValue.f k o.f1 else some false) (p := fun o => Word o.f0) (fun j hj k => by
      have := hf.1
      rw [spec_areOptions.l0, if_pos (by omega), if_pos (by omega), if_pos (by omega), rdO hj, wi (by omega), Option.bind_assoc]
      refine congrArg (fun g => Option.bind _ g) (funext fun b => ?_)
      cases b <;> rfl) (fun o ho => (word_says _ (hf.2 o ho).1).bind fun hw => (value_says _ (hf.2 o ho).2).imp fun _ => hw.1) (Says.step (f := fun _ => some (decide ((l.length : Int) ≤ 1000))) (fun k => by rw [spec_areOptions.l0, if_neg (by omega)]) (Says.now _ (fun _ => trivial))) l.length 0 (by omega)).imp fun hq => by simpa using hq.1)
theorem rdTake {l : List S71} {i : Nat} {y : List S71} (h : i < y.length) : rd_T71 y (i : Int) = y[i] := rdS h
/-- Parts from one on are right, and each has a name of its own. -/
def SubOK (u : List S115) (i : Nat) : Prop := ∀ (i' : Nat) (h : i' < u.length), i ≤ i' → (∀ o ∈ u[i'].f1, Word o.f0) ∧ ∀ z ∈ u.take i', eqB z.f0 u[i'].f0 = false
def SecOK (l : List S71) (j : Nat) : Prop := ∀ (j' : Nat) (h : j' < l.length), j ≤ j' → Word l[j'].f0 ∧ (∀ o ∈ l[j'].f1, Word o.f0) ∧ SubOK l[j'].f2 0 ∧ ∀ z ∈ l.take j', eqB z.f0 l[j'].f0 = false
theorem eqB_neg {a b : ByteArray} (h : ¬ a.toList = b.toList) : eqB a b = false := beq_eq_false_iff_ne.mpr h
theorem sec3 (l : List S71) (j i : Nat) (s : S71) (x : S115) (y : List S115) (hy : y.length ≤ 2147483647) {q : Prop} (hi : i < 2147483647) (hq : Says (fun k => spec_AreSections.l2 k l l (l.length : Int) (j : Int) s.f2 (s.f2.length : Int) ((i + 1 : Nat) : Int) s.f0 s.f1 s.f2) q) : ∀ (m h : Nat), h + m = y.length →
    Says (fun k => spec_AreSections.l3 k l l (l.length : Int) (j : Int) s.f2 (s.f2.length : Int) (i : Int) y (y.length : Int) (h : Int) s.f0 s.f1 s.f2 x.f0 x.f1) ((∀ z ∈ y.drop h, eqB z.f0 x.f0 = false) ∧ q)
  | 0, h, e => by
    refine Says.step (f := fun k => spec_AreSections.l2 k l l (l.length : Int) (j : Int) s.f2 (s.f2.length : Int) ((i + 1 : Nat) : Int) s.f0 s.f1 s.f2) (fun k => by rw [spec_AreSections.l3, if_neg (by omega), wi (by omega)]) (hq.imp fun hh => ⟨?_, hh⟩)
    rw [List.drop_of_length_le (by omega)]; exact fun z hz => (List.not_mem_nil hz).elim
  | m + 1, h, e => by
    have hh : h < y.length := by omega
    by_cases he : (y[h]).f0.toList = x.f0.toList
    · exact Says.no (fun k => by rw [spec_AreSections.l3, if_pos (by omega), if_pos (by omega), if_pos (by omega), rdU hh, if_pos he])
    · refine Says.step (f := fun k => spec_AreSections.l3 k l l (l.length : Int) (j : Int) s.f2 (s.f2.length : Int) (i : Int) y (y.length : Int) ((h + 1 : Nat) : Int) s.f0 s.f1 s.f2 x.f0 x.f1) (fun k => by rw [spec_AreSections.l3, if_pos (by omega), if_pos (by omega), if_pos (by omega), rdU hh, if_neg he, wi (by omega)]) ((sec3 l j i s x y hy hi hq m (h + 1) (by omega)).imp fun hp => ⟨fun z hz => ?_, hp.2⟩)
      rw [List.drop_eq_getElem_cons hh] at hz
      rcases List.mem_cons.1 hz with rfl | hz
      · exact eqB_neg he
      · exact hp.1 z hz
theorem sec2 (l : List S71) (j : Nat) (hj : j < 2147483647) (s : S71) (hs : FSubs s.f2) {q : Prop} (hq : Says (fun k => spec_AreSections.l0 k l l (l.length : Int) ((j + 1 : Nat) : Int)) q) : ∀ (m i : Nat), i + m = s.f2.length →
    Says (fun k => spec_AreSections.l2 k l l (l.length : Int) (j : Int) s.f2 (s.f2.length : Int) (i : Int) s.f0 s.f1 s.f2) (SubOK s.f2 i ∧ q)
  | 0, i, e => by
    have := hs.1
    refine Says.step (f := fun k => spec_AreSections.l0 k l l (l.length : Int) ((j + 1 : Nat) : Int)) (fun k => by rw [spec_AreSections.l2, if_neg (by omega), wi (by omega)]) (hq.imp fun hh => ⟨fun i' h' hle => by omega, hh⟩)
  | m + 1, i, e => by
    have := hs.1
    have hi : i < s.f2.length := by omega
    have ih := sec2 l j hj s hs hq m (i + 1) (by omega)
    obtain ⟨b1, hb1, hw1⟩ := word_says _ (hs.2 _ (List.getElem_mem hi)).1
    obtain ⟨b2, hb2, hw2⟩ := opts_says _ (hs.2 _ (List.getElem_mem hi)).2
    have key : ∀ k, spec_AreSections.l2 (k + 1) l l (l.length : Int) (j : Int) s.f2 (s.f2.length : Int) (i : Int) s.f0 s.f1 s.f2 = (spec_IsConfWord.f k s.f2[i].f0).bind fun t133 => if t133 = true then (spec_areOptions.f k s.f2[i].f1).bind fun t134 => spec_AreSections.j4 k l (i : Int) l (l.length : Int) (j : Int) s.f2 (s.f2.length : Int) (i : Int) (!t134) s.f0 s.f1 s.f2 s.f2[i].f0 s.f2[i].f1 else spec_AreSections.j4 k l (i : Int) l (l.length : Int) (j : Int) s.f2 (s.f2.length : Int) (i : Int) true s.f0 s.f1 s.f2 s.f2[i].f0 s.f2[i].f1 := fun k => by
      rw [spec_AreSections.l2, if_pos (by omega), if_pos (by omega), if_pos (by omega), rdU hi]
    have no : Ev (fun k => spec_AreSections.j4 k l (i : Int) l (l.length : Int) (j : Int) s.f2 (s.f2.length : Int) (i : Int) true s.f0 s.f1 s.f2 s.f2[i].f0 s.f2[i].f1) false := Ev.step (f := fun _ => some false) (fun k => by rw [spec_AreSections.j4, if_pos rfl]) (Ev.now false)
    cases b1 with
    | false => exact ⟨false, Ev.step key (Ev.bind (f := fun k t133 => if t133 = true then (spec_areOptions.f k s.f2[i].f1).bind fun t134 => spec_AreSections.j4 k l (i : Int) l (l.length : Int) (j : Int) s.f2 (s.f2.length : Int) (i : Int) (!t134) s.f0 s.f1 s.f2 s.f2[i].f0 s.f2[i].f1 else spec_AreSections.j4 k l (i : Int) l (l.length : Int) (j : Int) s.f2 (s.f2.length : Int) (i : Int) true s.f0 s.f1 s.f2 s.f2[i].f0 s.f2[i].f1) hb1 (Ev.congr (fun k => if_neg (by decide)) no)), fun h => by cases h⟩
    | true =>
      cases b2 with
      | false => exact ⟨false, Ev.step key (Ev.bind (f := fun k t133 => if t133 = true then (spec_areOptions.f k s.f2[i].f1).bind fun t134 => spec_AreSections.j4 k l (i : Int) l (l.length : Int) (j : Int) s.f2 (s.f2.length : Int) (i : Int) (!t134) s.f0 s.f1 s.f2 s.f2[i].f0 s.f2[i].f1 else spec_AreSections.j4 k l (i : Int) l (l.length : Int) (j : Int) s.f2 (s.f2.length : Int) (i : Int) true s.f0 s.f1 s.f2 s.f2[i].f0 s.f2[i].f1) hb1 (Ev.congr (fun k => if_pos rfl) (Ev.bind (f := fun k t134 => spec_AreSections.j4 k l (i : Int) l (l.length : Int) (j : Int) s.f2 (s.f2.length : Int) (i : Int) (!t134) s.f0 s.f1 s.f2 s.f2[i].f0 s.f2[i].f1) hb2 no))), fun h => by cases h⟩
      | true =>
        obtain ⟨b3, hb3, hw3⟩ := sec3 l j i s s.f2[i] (s.f2.take i) (by rw [List.length_take]; omega) (by omega) ih (s.f2.take i).length 0 (by omega)
        have yes : Ev (fun k => spec_AreSections.j4 k l (i : Int) l (l.length : Int) (j : Int) s.f2 (s.f2.length : Int) (i : Int) (!true) s.f0 s.f1 s.f2 s.f2[i].f0 s.f2[i].f1) b3 := Ev.step (fun k => by rw [spec_AreSections.j4, if_neg (by decide), if_pos (by omega), if_pos (by omega)]; simp only [Option.bind_some, Int.toNat_natCast]; rfl) hb3
        refine ⟨b3, Ev.step key (Ev.bind (f := fun k t133 => if t133 = true then (spec_areOptions.f k s.f2[i].f1).bind fun t134 => spec_AreSections.j4 k l (i : Int) l (l.length : Int) (j : Int) s.f2 (s.f2.length : Int) (i : Int) (!t134) s.f0 s.f1 s.f2 s.f2[i].f0 s.f2[i].f1 else spec_AreSections.j4 k l (i : Int) l (l.length : Int) (j : Int) s.f2 (s.f2.length : Int) (i : Int) true s.f0 s.f1 s.f2 s.f2[i].f0 s.f2[i].f1) hb1 (Ev.congr (fun k => if_pos rfl) (Ev.bind (f := fun k t134 => spec_AreSections.j4 k l (i : Int) l (l.length : Int) (j : Int) s.f2 (s.f2.length : Int) (i : Int) (!t134) s.f0 s.f1 s.f2 s.f2[i].f0 s.f2[i].f1) hb2 yes))), fun h => ?_⟩
        obtain ⟨h1, h2, h3⟩ := hw3 h
        refine ⟨fun i' h' hle => ?_, h3⟩
        by_cases ei : i' = i
        · subst ei
          exact ⟨hw2 rfl, by simpa using h1⟩
        · exact h2 i' h' (by omega)
theorem sec1 (l : List S71) (j : Nat) (s : S71) (y : List S71) (hy : y.length ≤ 2147483647) {q : Prop} (hq : Says (fun k => spec_AreSections.l2 k l l (l.length : Int) (j : Int) s.f2 (s.f2.length : Int) ((0 : Nat) : Int) s.f0 s.f1 s.f2) q) : ∀ (m h : Nat), h + m = y.length →
    Says (fun k => spec_AreSections.l1 k l l (l.length : Int) (j : Int) y (y.length : Int) (h : Int) s.f0 s.f1 s.f2) ((∀ z ∈ y.drop h, eqB z.f0 s.f0 = false) ∧ q)
  | 0, h, e => by
    refine Says.step (f := fun k => spec_AreSections.l2 k l l (l.length : Int) (j : Int) s.f2 (s.f2.length : Int) ((0 : Nat) : Int) s.f0 s.f1 s.f2) (fun k => by rw [spec_AreSections.l1, if_neg (by omega)]; rfl) (hq.imp fun hh => ⟨?_, hh⟩)
    rw [List.drop_of_length_le (by omega)]; exact fun z hz => (List.not_mem_nil hz).elim
  | m + 1, h, e => by
    have hh : h < y.length := by omega
    by_cases he : (y[h]).f0.toList = s.f0.toList
    · exact Says.no (fun k => by rw [spec_AreSections.l1, if_pos (by omega), if_pos (by omega), if_pos (by omega), rdS hh, if_pos he])
    · refine Says.step (f := fun k => spec_AreSections.l1 k l l (l.length : Int) (j : Int) y (y.length : Int) ((h + 1 : Nat) : Int) s.f0 s.f1 s.f2) (fun k => by rw [spec_AreSections.l1, if_pos (by omega), if_pos (by omega), if_pos (by omega), rdS hh, if_neg he, wi (by omega)]) ((sec1 l j s y hy hq m (h + 1) (by omega)).imp fun hp => ⟨fun z hz => ?_, hp.2⟩)
      rw [List.drop_eq_getElem_cons hh] at hz
      rcases List.mem_cons.1 hz with rfl | hz
      · exact eqB_neg he
      · exact hp.1 z hz
end Go.Proofs.YtoofbppfbbhliaaDoor.confP
