/- index: what a law asks of files, plain law. No program in sight. -/
import Derived.Test.YtoofbppfbbhliaaDoorHash
import Derived.Test.YtoofbppfbbhliaaDoorMFnIdxDropx2
import Derived.Test.YtoofbppfbbhliaaDoorMFnIdxDropx3
import Derived.Test.YtoofbppfbbhliaaDoorPFnIdxDropx5
namespace Go.Proofs.YtoofbppfbbhliaaDoor.idx
open Go.RowKit Go.Proofs.YtoofbppfbbhliaaDoorW.PrintWords Go.Proofs.YtoofbppfbbhliaaDoorW.PrintLast Go.Proofs.YtoofbppfbbhliaaDoorW.PrintMore Go.Proofs.YtoofbppfbbhliaaDoor.PFnIdxDrop
set_option linter.unusedVariables false
set_option linter.unusedSimpArgs false
set_option maxHeartbeats 1000000
set_option maxRecDepth 100000
theorem w64 {n : Int} (h0 : -9223372036854775808 ≤ n) (h1 : n < 9223372036854775808) : wrap64 n = n := by
  unfold wrap64; first | omega | (simp [IntKind.wrap_i64]; omega)
theorem take_snoc {α : Type} {l : List α} {j : Nat} (h : j < l.length) : l.take (j + 1) = l.take j ++ [l[j]] := List.take_succ_eq_append_getElem h
/-- It comes to an answer, of which something holds where it is yes. -/
def Says (g : Nat → Option Bool) (p : Prop) : Prop := ∃ b, Ev g b ∧ (b = true → p)
theorem Says.no {g : Nat → Option Bool} {p : Prop} (h : ∀ k, g (k + 1) = some false) : Says g p := ⟨false, Ev.step (f := fun _ => some false) h (Ev.now false), fun h => by cases h⟩
theorem Says.step {g f : Nat → Option Bool} {p : Prop} (h : ∀ k, g (k + 1) = f k) (k : Says f p) : Says g p := by
  obtain ⟨b, h1, h2⟩ := k
  exact ⟨b, Ev.step h h1, h2⟩
theorem Says.congr {g f : Nat → Option Bool} {p : Prop} (h : ∀ k, g k = f k) (k : Says f p) : Says g p := by
  obtain ⟨b, h1, h2⟩ := k
  exact ⟨b, Ev.congr h h1, h2⟩
theorem Says.imp {g : Nat → Option Bool} {p q : Prop} (k : Says g p) (h : p → q) : Says g q := by
  obtain ⟨b, h1, h2⟩ := k
  exact ⟨b, h1, fun hb => h (h2 hb)⟩
theorem Says.now {p : Prop} (b : Bool) (h : b = true → p) : Says (fun _ => some b) p := ⟨b, Ev.now b, h⟩
/-- One asks first; a yes goes on, a no is the answer. -/
theorem Says.bind {g : Nat → Option Bool} {f : Nat → Option Bool} {p q : Prop} (h : Says g p) (k : p → Says f q) : Says (fun n => (g n).bind fun t => if t = true then f n else some false) q := by
  obtain ⟨b, h1, h2⟩ := h
  cases b with
  | true =>
    obtain ⟨c, h3, h4⟩ := k (h2 rfl)
    exact ⟨c, Ev.bind (f := fun n t => if t = true then f n else some false) h1 (Ev.congr (fun n => if_pos rfl) h3), h4⟩
  | false => exact ⟨false, Ev.bind (f := fun n t => if t = true then f n else some false) h1 (Ev.congr (fun n => if_neg (by decide)) (Ev.now false)), fun h => by cases h⟩
theorem Says.true_ {g : Nat → Option Bool} {p : Prop} (h : Says g p) : Says (fun n => (g n).bind fun t => if t = true then some true else some false) p := Says.bind h (fun hp => Says.now true (fun _ => hp))
theorem wi {i : Nat} (h : i < 9223372036854775807) : wrap64 ((i : Int) + 1) = ((i + 1 : Nat) : Int) := by rw [w64 (by omega) (by omega)]; omega
theorem says_list {α : Type} {l : List α} {p : α → Prop} {r : Prop} {L : Nat → Nat → Option Bool} {e : Nat → α → Option Bool} (step : ∀ (j : Nat) (hj : j < l.length) (k : Nat), L (k + 1) j = (e k l[j]).bind fun t => if t = true then L k (j + 1) else some false)
    (each : ∀ x ∈ l, Says (fun k => e k x) (p x)) (last : Says (fun k => L k l.length) r) : ∀ (m j : Nat), j + m = l.length → Says (fun k => L k j) ((∀ x ∈ l.drop j, p x) ∧ r)
  | 0, j, h => by
    obtain rfl : j = l.length := by omega
    exact last.imp (fun hr => ⟨by rw [List.drop_length]; exact fun x hx => (List.not_mem_nil hx).elim, hr⟩)
  | m + 1, j, h => by
    have hj : j < l.length := by omega
    refine Says.step (step j hj) ((each _ (List.getElem_mem hj)).bind fun hp => (says_list step each last m (j + 1) (by omega)).imp fun hq => ⟨fun x hx => ?_, hq.2⟩)
    rw [List.drop_eq_getElem_cons hj] at hx
    rcases List.mem_cons.1 hx with rfl | hx
    · exact hp
    · exact hq.1 x hx

theorem rdF {l : List S35} {j : Nat} (h : j < l.length) : rd_T35 l (j : Int) = l[j] := by
  show l.getD ((j : Int)).toNat z35 = _
  rw [Int.toNat_natCast, List.getD_eq_getElem?_getD, List.getElem?_eq_getElem h]; rfl
theorem rdT {l : List S32} {j : Nat} (h : j < l.length) : rd_T32 l (j : Int) = l[j] := by
  show l.getD ((j : Int)).toNat z32 = _
  rw [Int.toNat_natCast, List.getD_eq_getElem?_getD, List.getElem?_eq_getElem h]; rfl
theorem bt_nat {s : ByteArray} {i : Nat} (h : i < s.size) : bt s (i : Int) = ((s[i]'h).toNat : Int) := (bt_at s (i : Int) (by simpa using h)).symm
/-! ### Names of objects -/
theorem name40_l0 (s : ByteArray) (hs : s.size ≤ 2147483647) : ∀ (m i : Nat), i + m = s.size → (∀ (j : Nat) (h : j < s.size), j < i → hash.hexc (s[j]'h) = true) → Says (fun k => spec_IsName40.l0 k s (s.size : Int) (i : Int)) (hash.name40 s = true)
  | 0, i, h, hp => Says.step (f := fun _ => some ((s.size : Int) == 40)) (fun k => by rw [spec_IsName40.l0, if_neg (by omega)]) (Says.now _ (fun he => by
      have he : (s.size : Int) = 40 := eq_of_beq he
      unfold hash.name40
      exact decide_eq_true ⟨by omega, fun k hk => hp k hk (by omega)⟩))
  | m + 1, i, h, hp => by
    have e1 : (i : Int) < s.size := by omega
    have hi : i < s.size := by omega
    have key : ∀ k, spec_IsName40.l0 (k + 1) s (s.size : Int) (i : Int) = if ((bt s i ≥ 48 ∧ bt s i ≤ 57) ∨ (bt s i ≥ 97 ∧ bt s i ≤ 102)) then spec_IsName40.l0 k s (s.size : Int) ((i + 1 : Nat) : Int) else some false := by
      intro k
      rw [spec_IsName40.l0, if_pos e1, if_pos (by omega), if_pos e1, wi (by omega)]
      generalize spec_IsName40.l0 k s (s.size : Int) ((i + 1 : Nat) : Int) = R
      generalize bt s i = b
      by_cases a1 : b ≥ 48 <;> by_cases a2 : b ≤ 57 <;> by_cases a3 : b ≥ 97 <;> by_cases a4 : b ≤ 102 <;> simp only [a1, a2, a3, a4, if_true, if_false, and_true, and_false, or_true, or_false, true_or, false_or, and_self, or_self]
    by_cases hc : ((bt s i ≥ 48 ∧ bt s i ≤ 57) ∨ (bt s i ≥ 97 ∧ bt s i ≤ 102))
    · refine Says.step (fun k => (key k).trans (if_pos hc)) (name40_l0 s hs m (i + 1) (by omega) (fun j hj hle => ?_))
      by_cases e : j = i
      · subst e
        rw [bt_nat hi] at hc
        unfold hash.hexc
        generalize (s[j]'hj).toNat = n at hc ⊢
        simp only [Bool.or_eq_true, Bool.and_eq_true, decide_eq_true_eq]
        omega
      · exact hp j hj (by omega)
    · exact Says.no (fun k => (key k).trans (if_neg hc))
theorem name40_says (s : ByteArray) (hs : s.size ≤ 2147483647) : Says (fun k => spec_IsName40.f k s) (hash.name40 s = true) := name40_l0 s hs s.size 0 (by omega) (fun j _ hj => by omega)
/-! ### Names of files -/
theorem small_l0 (s : ByteArray) (hs : s.size ≤ 2147483647) : ∀ (m i : Nat), i + m = s.size → Says (fun k => spec_Small.l0 k s (s.size : Int) (i : Int)) True
  | 0, i, h => Says.step (f := fun _ => some (s.toList != [])) (fun k => by rw [spec_Small.l0, if_neg (by omega)]) (Says.now _ (fun _ => trivial))
  | m + 1, i, h => by
    have e1 : (i : Int) < s.size := by omega
    have ih := small_l0 s hs m (i + 1) (by omega)
    have key : ∀ k, spec_Small.l0 (k + 1) s (s.size : Int) (i : Int) = if ((bt s i ≥ 97 ∧ bt s i ≤ 122) ∨ (bt s i ≥ 65 ∧ bt s i ≤ 90) ∨ (bt s i ≥ 48 ∧ bt s i ≤ 57)) then spec_Small.l0 k s (s.size : Int) ((i + 1 : Nat) : Int) else some false := by
      intro k
      rw [spec_Small.l0, if_pos e1, if_pos (by omega), if_pos e1, wi (by omega)]
      generalize spec_Small.l0 k s (s.size : Int) ((i + 1 : Nat) : Int) = R
      generalize bt s i = b
      by_cases a1 : b ≥ 97 <;> by_cases a2 : b ≤ 122 <;> by_cases a3 : b ≥ 65 <;> by_cases a4 : b ≤ 90 <;> by_cases a5 : b ≥ 48 <;> by_cases a6 : b ≤ 57 <;> simp only [a1, a2, a3, a4, a5, a6, if_true, if_false, and_true, and_false, or_true, or_false, true_or, false_or, and_self, or_self]
    by_cases hc : ((bt s i ≥ 97 ∧ bt s i ≤ 122) ∨ (bt s i ≥ 65 ∧ bt s i ≤ 90) ∨ (bt s i ≥ 48 ∧ bt s i ≤ 57))
    · exact Says.step (fun k => (key k).trans (if_pos hc)) ih
    · exact Says.no (fun k => (key k).trans (if_neg hc))
theorem small_says (s : ByteArray) (hs : s.size ≤ 2147483647) : Says (fun k => spec_Small.f k s) True := small_l0 s hs s.size 0 (by omega)
theorem fname_l0 (s : ByteArray) (hs : s.size ≤ 2147483647) : ∀ (m i : Nat), i + m = s.size → Says (fun k => spec_IsFileName.l0 k s (s.size : Int) (i : Int)) True
  | 0, i, h => by
    by_cases he : s.toList = []
    · exact Says.no (fun k => by rw [spec_IsFileName.l0, if_neg (by omega), if_pos he])
    · exact Says.step (f := fun _ => some (decide ((s.size : Int) < 4000))) (fun k => by rw [spec_IsFileName.l0, if_neg (by omega), if_neg he]) (Says.now _ (fun _ => trivial))
  | m + 1, i, h => by
    have e1 : (i : Int) < s.size := by omega
    have ih := fname_l0 s hs m (i + 1) (by omega)
    have ws : wrap64 ((s.size : Int) - 1) = (s.size : Int) - 1 := w64 (by omega) (by omega)
    have wp : wrap64 ((i : Int) - 1) = (i : Int) - 1 := w64 (by omega) (by omega)
    by_cases h47 : bt s i = 47
    · by_cases h0 : (i : Int) = 0
      · exact Says.no (fun k => by rw [spec_IsFileName.l0, if_pos e1, if_pos (by omega), if_pos e1, if_pos h47, if_pos h0])
      · by_cases h1 : (i : Int) = (s.size : Int) - 1
        · exact Says.no (fun k => by rw [spec_IsFileName.l0, if_pos e1, if_pos (by omega), if_pos e1, if_pos h47, if_neg h0, ws, if_pos h1])
        · by_cases h2 : bt s ((i : Int) - 1) = 47
          · exact Says.no (fun k => by rw [spec_IsFileName.l0, if_pos e1, if_pos (by omega), if_pos e1, if_pos h47, if_neg h0, ws, if_neg h1, wp, if_pos (by omega), if_pos (by omega), if_pos h2])
          · exact Says.step (fun k => by rw [spec_IsFileName.l0, if_pos e1, if_pos (by omega), if_pos e1, if_pos h47, if_neg h0, ws, if_neg h1, wp, if_pos (by omega), if_pos (by omega), if_neg h2, wi (by omega)]) ih
    · obtain ⟨b, h1, _⟩ := small_says (s.extract i (i + 1)) (by rw [ByteArray.size_extract]; omega)
      obtain ⟨c, h2, _⟩ := ih
      have key : ∀ k, spec_IsFileName.l0 (k + 1) s (s.size : Int) (i : Int) = (spec_Small.f k (s.extract i (i + 1))).bind fun t => if t = true then spec_IsFileName.l0 k s (s.size : Int) ((i + 1 : Nat) : Int) else if bt s i = 45 then spec_IsFileName.l0 k s (s.size : Int) ((i + 1 : Nat) : Int) else if bt s i = 95 then spec_IsFileName.l0 k s (s.size : Int) ((i + 1 : Nat) : Int) else some false := fun k => by
        rw [spec_IsFileName.l0, if_pos e1, if_pos (by omega), if_pos e1, if_neg h47, wi (by omega), if_pos (by omega), if_pos (by omega)]
        simp only [Int.toNat_natCast]
      by_cases hb : b = true
      · exact ⟨c, Ev.step key (Ev.bind (f := fun k t => if t = true then spec_IsFileName.l0 k s (s.size : Int) ((i + 1 : Nat) : Int) else if bt s i = 45 then spec_IsFileName.l0 k s (s.size : Int) ((i + 1 : Nat) : Int) else if bt s i = 95 then spec_IsFileName.l0 k s (s.size : Int) ((i + 1 : Nat) : Int) else some false) h1 (Ev.congr (fun k => if_pos hb) h2)), fun _ => trivial⟩
      · by_cases hd : bt s i = 45
        · exact ⟨c, Ev.step key (Ev.bind (f := fun k t => if t = true then spec_IsFileName.l0 k s (s.size : Int) ((i + 1 : Nat) : Int) else if bt s i = 45 then spec_IsFileName.l0 k s (s.size : Int) ((i + 1 : Nat) : Int) else if bt s i = 95 then spec_IsFileName.l0 k s (s.size : Int) ((i + 1 : Nat) : Int) else some false) h1 (Ev.congr (fun k => by rw [if_neg hb, if_pos hd]) h2)), fun _ => trivial⟩
        · by_cases hu : bt s i = 95
          · exact ⟨c, Ev.step key (Ev.bind (f := fun k t => if t = true then spec_IsFileName.l0 k s (s.size : Int) ((i + 1 : Nat) : Int) else if bt s i = 45 then spec_IsFileName.l0 k s (s.size : Int) ((i + 1 : Nat) : Int) else if bt s i = 95 then spec_IsFileName.l0 k s (s.size : Int) ((i + 1 : Nat) : Int) else some false) h1 (Ev.congr (fun k => by rw [if_neg hb, if_neg hd, if_pos hu]) h2)), fun _ => trivial⟩
          · exact ⟨false, Ev.step key (Ev.bind (f := fun k t => if t = true then spec_IsFileName.l0 k s (s.size : Int) ((i + 1 : Nat) : Int) else if bt s i = 45 then spec_IsFileName.l0 k s (s.size : Int) ((i + 1 : Nat) : Int) else if bt s i = 95 then spec_IsFileName.l0 k s (s.size : Int) ((i + 1 : Nat) : Int) else some false) h1 (Ev.congr (fun k => by rw [if_neg hb, if_neg hd, if_neg hu]) (Ev.now false))), fun _ => trivial⟩
theorem fname_says (s : ByteArray) (hs : s.size ≤ 2147483647) : Says (fun k => spec_IsFileName.f k s) True := fname_l0 s hs s.size 0 (by omega)
/-! ### Files -/
def OkStamp (t : S32) : Prop := 1 ≤ t.f0 ∧ t.f0 < 4294967296 ∧ 0 ≤ t.f1 ∧ t.f1 < 1000000000
/-- What is used of a file that is right. -/
structure Good (x : S35) : Prop where
  made : OkStamp x.f0
  changed : OkStamp x.f1
  name : hash.name40 x.f8 = true
  stage : 0 ≤ x.f10 ∧ x.f10 ≤ 3
def FFiles (l : List S35) : Prop := l.length ≤ 2147483647 ∧ ∀ x ∈ l, x.f8.size ≤ 2147483647 ∧ x.f9.size ≤ 2147483647
theorem fits17_says (l : List S35) : Says (fun k => laws_zzFits17.f k l) (FFiles l) := by
  by_cases h : (l.length : Int) > 2147483647
  · exact Says.congr (f := fun _ => some false) (fun _ => by rw [laws_zzFits17.f, if_pos h]) (Says.now false (fun h => by cases h))
  · refine Says.congr (f := fun k => laws_zzFits17.l0 k l (l.length : Int) ((0 : Nat) : Int)) (fun _ => by rw [laws_zzFits17.f, if_neg h]; rfl) ((says_list (l := l) (r := True) (L := fun k j => laws_zzFits17.l0 k l (l.length : Int) (j : Int)) (e := fun k x => laws_zzFits18.f x.f0.f0 x.f0.f1 x.f1.f0 x.f1.f1 x.f2 x.f3 x.f4 x.f5 x.f6 x.f7 x.f8 x.f9 x.f10 x.f11 x.f12) (p := fun x => x.f8.size ≤ 2147483647 ∧ x.f9.size ≤ 2147483647) (fun j hj k => by
      rw [laws_zzFits17.l0, if_pos (by omega), if_pos (by omega), if_pos (by omega), rdF hj, wi (by omega)]) (fun x _ => ?_) (Says.step (f := fun _ => some true) (fun k => by rw [laws_zzFits17.l0, if_neg (by omega)]) (Says.now true (fun _ => trivial))) l.length 0 (by omega)).imp fun hq => ⟨by omega, by simpa using hq.1⟩)
    by_cases h1 : (x.f8.size : Int) > 2147483647
    · exact Says.congr (f := fun _ => some false) (fun _ => by rw [laws_zzFits18.f, if_pos h1]) (Says.now false (fun h => by cases h))
    · by_cases h2 : (x.f9.size : Int) > 2147483647
      · exact Says.congr (f := fun _ => some false) (fun _ => by rw [laws_zzFits18.f, if_neg h1, if_pos h2]) (Says.now false (fun h => by cases h))
      · exact Says.congr (f := fun _ => some true) (fun _ => by rw [laws_zzFits18.f, if_neg h1, if_neg h2]) (Says.now true (fun _ => by omega))
def okStamp (t : S32) : Bool := decide (1 ≤ t.f0) && decide (t.f0 < 4294967296) && decide (0 ≤ t.f1) && decide (t.f1 < 1000000000)
theorem okStamp_iff (t : S32) : okStamp t = true ↔ (1 ≤ t.f0 ∧ t.f0 < 4294967296 ∧ 0 ≤ t.f1 ∧ t.f1 < 1000000000) := by
  unfold okStamp
  simp only [Bool.and_eq_true, decide_eq_true_eq, and_assoc]
theorem stamp_says (t : S32) : Says (fun _ => some (okStamp t)) (OkStamp t) := Says.now _ (fun h => (okStamp_iff t).1 h)
theorem file_says (x : S35) (h8 : x.f8.size ≤ 2147483647) (h9 : x.f9.size ≤ 2147483647) : Says (fun k => spec_IsFile.f k x.f0.f0 x.f0.f1 x.f1.f0 x.f1.f1 x.f2 x.f3 x.f4 x.f5 x.f6 x.f7 x.f8 x.f9 x.f10 x.f11 x.f12) (Good x) := by
  have last : Says (fun k => spec_IsFile.l0 k [x.f0, x.f1] (([x.f0, x.f1] : List S32).length : Int) (([x.f0, x.f1] : List S32).length : Int) x.f0.f0 x.f0.f1 x.f1.f0 x.f1.f1 x.f2 x.f3 x.f4 x.f5 x.f6 x.f7 x.f8 x.f9 x.f10 x.f11 x.f12) (hash.name40 x.f8 = true ∧ 0 ≤ x.f10 ∧ x.f10 ≤ 3) := by
    refine Says.step (f := fun k => (spec_IsFileName.f k x.f9).bind fun t112 => if t112 = true then (spec_IsName40.f k x.f8).bind (fun t113 => if t113 = true then (if x.f10 ≥ 0 then some (decide (x.f10 ≤ 3)) else some false) else some false) else some false) (fun k => by rw [spec_IsFile.l0, if_neg (by omega)]) ?_
    refine (fname_says _ h9).bind fun _ => (name40_says _ h8).bind fun hn => ?_
    by_cases h : x.f10 ≥ 0
    · exact Says.congr (f := fun _ => some (decide (x.f10 ≤ 3))) (fun _ => if_pos h) (Says.now _ (fun hd => ⟨hn, h, of_decide_eq_true hd⟩))
    · exact Says.congr (f := fun _ => some false) (fun _ => if_neg h) (Says.now _ (fun hd => by cases hd))
  refine Says.congr (f := fun k => spec_IsFile.l0 k [x.f0, x.f1] (([x.f0, x.f1] : List S32).length : Int) ((0 : Nat) : Int) x.f0.f0 x.f0.f1 x.f1.f0 x.f1.f1 x.f2 x.f3 x.f4 x.f5 x.f6 x.f7 x.f8 x.f9 x.f10 x.f11 x.f12) (fun _ => rfl) ((says_list (l := [x.f0, x.f1]) (L := fun k j => spec_IsFile.l0 k [x.f0, x.f1] (([x.f0, x.f1] : List S32).length : Int) (j : Int) x.f0.f0 x.f0.f1 x.f1.f0 x.f1.f1 x.f2 x.f3 x.f4 x.f5 x.f6 x.f7 x.f8 x.f9 x.f10 x.f11 x.f12) (e := fun _ t => some (okStamp t)) (p := OkStamp) (fun j hj k => ?_) (fun t _ => stamp_says t) last 2 0 rfl).imp fun hq => ⟨hq.1 _ (by simp), hq.1 _ (by simp), hq.2.1, hq.2.2⟩)
  have hlen : ([x.f0, x.f1] : List S32).length = 2 := rfl
  rw [spec_IsFile.l0, if_pos (by omega), if_pos (by omega), if_pos (by omega), rdT hj, wi (by omega)]
  generalize ([x.f0, x.f1] : List S32)[j] = t
  generalize spec_IsFile.l0 k _ _ ((j + 1 : Nat) : Int) = R
  show _ = if okStamp t = true then _ else _
  by_cases a1 : t.f0 < 1
  · rw [if_pos a1, if_neg (by rw [okStamp_iff]; omega)]
  · by_cases a2 : t.f0 ≥ 4294967296
    · rw [if_neg a1, if_pos a2, if_neg (by rw [okStamp_iff]; omega)]
    · by_cases a3 : t.f1 < 0
      · rw [if_neg a1, if_neg a2, if_pos a3, if_neg (by rw [okStamp_iff]; omega)]
      · by_cases a4 : t.f1 ≥ 1000000000
        · rw [if_neg a1, if_neg a2, if_neg a3, if_pos a4, if_neg (by rw [okStamp_iff]; omega)]
        · rw [if_neg a1, if_neg a2, if_neg a3, if_neg a4, if_pos (by rw [okStamp_iff]; omega)]
theorem plain_says (x : S35) (h8 : x.f8.size ≤ 2147483647) (h9 : x.f9.size ≤ 2147483647) : Says (fun k => spec_IsPlainFile.f k x.f0.f0 x.f0.f1 x.f1.f0 x.f1.f1 x.f2 x.f3 x.f4 x.f5 x.f6 x.f7 x.f8 x.f9 x.f10 x.f11 x.f12) (Good x) := by
  refine (file_says x h8 h9).bind fun hg => ?_
  by_cases h : x.f11 = true
  · exact Says.congr (f := fun _ => some false) (fun _ => if_pos h) (Says.now _ (fun hd => by cases hd))
  · exact Says.congr (f := fun _ => some (!x.f12)) (fun _ => if_neg h) (Says.now _ (fun _ => hg))
/-- Files that are right, by rising names. -/
def Files (l : List S35) : Prop := l.length ≤ 1000 ∧ ∀ (i : Nat) (h : i < l.length), Good l[i] ∧ (∀ h1 : i + 1 < l.length, Op.bytesLess l[i].f9.toList l[i + 1].f9.toList = true)
theorem same_l0 (a : List S35) (hl : a.length ≤ 2147483647) : ∀ (m j k : Nat), j + m = a.length → m < k → spec_SameFiles.l0 k a a (a.length : Int) (j : Int) = some true
  | 0, j, k, h, hk => by
    obtain ⟨k, rfl⟩ : ∃ k', k = k' + 1 := ⟨k - 1, by omega⟩
    rw [spec_SameFiles.l0, if_neg (by omega)]
  | m + 1, j, k, h, hk => by
    obtain ⟨k, rfl⟩ : ∃ k', k = k' + 1 := ⟨k - 1, by omega⟩
    rw [spec_SameFiles.l0, if_pos (by omega), if_pos (by omega), if_pos (by omega), if_pos (by omega), if_neg (by simp only [beq_self_eq_true]; decide), wi (by omega)]
    exact same_l0 a hl m (j + 1) k (by omega) (by omega)
theorem same_f (a : List S35) (hl : a.length ≤ 2147483647) : spec_SameFiles.f (a.length + 1) a a = some true := by
  rw [spec_SameFiles.f, if_pos rfl]
  exact same_l0 a hl a.length 0 (a.length + 1) (by omega) (by omega)
/-! ### One file is taken out -/
def eqB (a b : ByteArray) : Bool := a.toList == b.toList
theorem less_trans : ∀ {a b c : List UInt8}, Op.bytesLess a b = true → Op.bytesLess b c = true → Op.bytesLess a c = true
  | [], [], _, h, _ => by simp [Op.bytesLess] at h
  | _ :: _, [], _, h, _ => by simp [Op.bytesLess] at h
  | _, _ :: _, [], _, h => by simp [Op.bytesLess] at h
  | [], _ :: _, _ :: _, _, _ => by simp [Op.bytesLess]
  | a :: x, b :: y, c :: z, h1, h2 => by
    simp only [Op.bytesLess, Bool.or_eq_true, Bool.and_eq_true, decide_eq_true_eq, beq_iff_eq] at h1 h2 ⊢
    rcases h1 with h1 | ⟨rfl, h1⟩
    · rcases h2 with h2 | ⟨rfl, h2⟩
      · exact Or.inl (UInt8.lt_trans h1 h2)
      · exact Or.inl h1
    · rcases h2 with h2 | ⟨rfl, h2⟩
      · exact Or.inl h2
      · exact Or.inr ⟨rfl, less_trans h1 h2⟩
theorem less_ne : ∀ {a : List UInt8}, Op.bytesLess a a = false
  | [] => rfl
  | a :: x => by
    have := @less_ne x
    simp [Op.bytesLess, this]
theorem take_drop_filter {α : Type} {p : α → Bool} {l : List α} {j : Nat} (hj : j < l.length) (h0 : p l[j] = true) (h1 : ∀ o ∈ l.take j, p o = false) (h2 : ∀ o ∈ l.drop (j + 1), p o = false) : l.take j ++ l.drop (j + 1) = l.filter fun x => !p x := by
  have e : l = l.take j ++ (l[j] :: l.drop (j + 1)) := by rw [← List.drop_eq_getElem_cons hj, List.take_append_drop]
  conv => rhs; rw [e]
  rw [List.filter_append, List.filter_cons, if_neg (by simp [h0]), List.filter_eq_self.2 (fun a ha => by simp [h1 a ha]), List.filter_eq_self.2 (fun a ha => by simp [h2 a ha])]
theorem none_filter {α : Type} {p : α → Bool} {l : List α} (h : ∀ o ∈ l, p o = false) : (l.filter fun x => !p x) = l := List.filter_eq_self.2 (fun a ha => by simp [h a ha])
theorem some_filter {α : Type} {p : α → Bool} {l : List α} {j : Nat} (hj : j < l.length) (h0 : p l[j] = true) : (l.filter fun x => !p x).length < l.length :=
  List.length_filter_lt_length_iff_exists.2 ⟨l[j], List.getElem_mem hj, by simp [h0]⟩
theorem rises {l : List S35} (h : Files l) : ∀ (d i : Nat) (hi : i + d + 1 < l.length), Op.bytesLess (l[i]'(by omega)).f9.toList (l[i + d + 1]).f9.toList = true
  | 0, i, hi => (h.2 i (by omega)).2 hi
  | d + 1, i, hi => less_trans (rises h d i (by omega)) ((h.2 (i + d + 1) (by omega)).2 hi)
/-- The files that have another name. -/
def others (l : List S35) (name : ByteArray) : List S35 := l.filter fun x => !eqB x.f9 name
theorem drop_others {l : List S35} (h : Files l) {name : ByteArray} {j : Nat} (hj : j < l.length) (h0 : eqB l[j].f9 name = true) (h1 : ∀ o ∈ l.take j, eqB o.f9 name = false) : l.take j ++ l.drop (j + 1) = others l name := by
  refine take_drop_filter (p := fun x : S35 => eqB x.f9 name) hj h0 h1 (fun o ho => ?_)
  obtain ⟨d, hd, rfl⟩ := List.getElem_of_mem ho
  rw [List.length_drop] at hd
  rw [List.getElem_drop]
  have hr := rises h d j (by omega)
  have ei : j + 1 + d = j + d + 1 := by omega
  cases hb : eqB l[j + 1 + d].f9 name with
  | false => rfl
  | true =>
    have e1 : l[j].f9.toList = name.toList := eq_of_beq h0
    have e2 : l[j + 1 + d].f9.toList = name.toList := eq_of_beq hb
    simp only [ei] at e2
    rw [e1, e2, less_ne] at hr
    cases hr
end Go.Proofs.YtoofbppfbbhliaaDoor.idx
