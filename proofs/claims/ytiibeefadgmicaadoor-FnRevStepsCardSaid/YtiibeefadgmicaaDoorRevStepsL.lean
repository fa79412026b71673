/- Revisions: the texts of steps back; the law FnRevSteps. -/
import Derived.Test.YtiibeefadgmicaaDoorRevOpenL
import Derived.Test.YtiibeefadgmicaaDoorNFnRevStepsx2
import Derived.Laws.Runes
import Derived.WalkSpells
namespace Go.Proofs.YtiibeefadgmicaaDoor.rev
open Go.RowKit Go.Proofs.YtiibeefadgmicaaDoorW.PrintWords Go.Proofs.YtiibeefadgmicaaDoorW.PrintLast Go.Proofs.YtiibeefadgmicaaDoorW.PrintMore Go.Proofs.YtiibeefadgmicaaDoor.PFnRevSteps
set_option linter.unusedVariables false
set_option linter.unusedSimpArgs false
set_option maxHeartbeats 2000000
set_option maxRecDepth 100000
theorem encode_digit (d : Nat) (hd : d < 10) : Utf8.encode ((48 : Int) + (d : Int)) = ⟨#[UInt8.ofNat (48 + d)]⟩ := by
  match d, hd with
  | 0, _ => rfl
  | 1, _ => rfl
  | 2, _ => rfl
  | 3, _ => rfl
  | 4, _ => rfl
  | 5, _ => rfl
  | 6, _ => rfl
  | 7, _ => rfl
  | 8, _ => rfl
  | 9, _ => rfl
theorem dec_sz {n : Nat} (h : n < 4611686018427387904) : (txt (Lib.decDigits n)).size ≤ 19 := by
  rw [txt_size]; exact dec_len 18 n (by omega)
theorem decimal_any : ∀ (n : Nat), n < 4611686018427387904 → ∀ w : World, Calls Tryd.prog 18 #[.int .i64 (n : Int)] w fun e w' => e = .returned (.string (txt (Lib.decDigits n))) ∧ w = w' := by
  intro n
  induction n using Nat.strongRecOn with
  | _ n ih =>
    intro hn w
    have n0 : (0 : Int) ≤ (n : Int) := by omega
    by_cases h : n < 10
    · have hen := encode_digit n h
      obtain ⟨s, hs⟩ : ∃ s : ByteArray, (⟨#[UInt8.ofNat (48 + n)]⟩ : ByteArray) = s := ⟨_, rfl⟩
      have HS := Aside0.mk (show txt (Lib.decDigits n) = s from by rw [Lib.decDigits, dif_pos h, ← hs]; rfl)
      rw [hs] at hen
      have c0 : decide ((n : Int) < 10) = true := decide_eq_true (by omega)
      have c1 : decide (n < 10) = true := decide_eq_true h
      have n1 : (n : Int) < 10 := by omega
      clear hs ih
      go_enter Tryd.func18, Tryd.ntmps18
      go_wp2_with fail
      go_ret
      exact ⟨by rw [HS.out]; rfl, rfl⟩
    · obtain ⟨r, hr⟩ : ∃ r, n % 10 = r := ⟨_, rfl⟩
      obtain ⟨q, hq⟩ : ∃ q, n / 10 = q := ⟨_, rfl⟩
      have hr8 : r < 10 := by omega
      have em : (n : Int) % 10 = (r : Int) := by omega
      have eq : (n : Int) / 10 = (q : Int) := by omega
      have m0 : (0 : Int) ≤ (r : Int) := by omega
      have m1 : (r : Int) < 10 := by omega
      have IH := Aside0.mk (ih q (by omega) (by omega))
      have hen := encode_digit r hr8
      have hlq := dec_sz (n := q) (by omega)
      obtain ⟨t, ht⟩ : ∃ t : ByteArray, txt (Lib.decDigits q) = t := ⟨_, rfl⟩
      obtain ⟨s, hs⟩ : ∃ s : ByteArray, (⟨#[UInt8.ofNat (48 + r)]⟩ : ByteArray) = s := ⟨_, rfl⟩
      have HS := Aside0.mk (show txt (Lib.decDigits n) = t ++ s from by
        rw [← ht, ← hs, Lib.decDigits, dif_neg h, hr, hq]
        exact (txt_append _ [UInt8.ofNat (48 + r)]).symm)
      have hsz : s.size = 1 := by rw [← hs]; rfl
      have s1 : s.size ≤ 1 := by omega
      rw [hs] at hen
      rw [ht] at hlq IH
      have c0 : decide ((n : Int) < 10) = false := decide_eq_false (by omega)
      have c1 : decide (n < 10) = false := decide_eq_false h
      clear hs ht ih hr hq hsz
      go_enter Tryd.func18, Tryd.ntmps18
      go_wp2_with fail
      refine (IH.out _).mono ?_
      rintro e w1 ⟨rfl, rfl⟩
      go_wp2_with fail
      go_ret
      exact ⟨by rw [HS.out]; rfl, rfl⟩
/-- A row of parts that is all steps. -/
def AllSteps (l : List S29) : Prop := ∀ (j : Nat) (h : j < l.length), ∃ s : Stp, s.ok ∧ l[j] = told s.rev
theorem str_eq {s : ByteArray} {l : List UInt8} (h : (s.toList == l) = true) : s = txt l := by
  rw [beq_iff_eq, ByteArray.toList_eq] at h
  rw [← h, txt_list]
theorem steps_l0 (l : List S29) (hl : l.length ≤ 2147483647) : ∀ (d i k : Nat), i + d = l.length → d < k → ∃ b, spec_AreSteps.l0 k l l (l.length : Int) (i : Int) = some b ∧ (b = true → l.length ≤ 100 ∧ ∀ (j : Nat) (h : j < l.length), i ≤ j → ∃ s : Stp, s.ok ∧ l[j] = told s.rev) := by
  intro d
  induction d with
  | zero =>
    intro i k hi hk
    obtain ⟨k, rfl⟩ : ∃ m, k = m + 1 := ⟨k - 1, by omega⟩
    rw [spec_AreSteps.l0, if_neg (by omega)]
    exact ⟨_, rfl, fun h => ⟨by have := of_decide_eq_true h; omega, fun j h hij => by omega⟩⟩
  | succ d ih =>
    intro i k hi hk
    obtain ⟨k, rfl⟩ : ∃ m, k = m + 1 := ⟨k - 1, by omega⟩
    have hlt : i < l.length := by omega
    obtain ⟨b, h1, h2⟩ := ih (i + 1) k (by omega) (by omega)
    have hw : wrap64 ((i : Int) + 1) = ((i + 1 : Nat) : Int) := by rw [w64_id (by omega) (by omega)]; rfl
    rw [spec_AreSteps.l0, if_pos (by omega), if_pos (by omega), if_pos (by omega), rd_list l i hlt, hw, h1]
    obtain ⟨x, hx⟩ : ∃ x, l[i] = x := ⟨_, rfl⟩
    rw [hx]
    have step : (∃ s : Stp, s.ok ∧ x = told s.rev) → (b = true → l.length ≤ 100 ∧ ∀ (j : Nat) (h : j < l.length), i ≤ j → ∃ s : Stp, s.ok ∧ l[j] = told s.rev) := fun hs hb => by
      obtain ⟨q1, q2⟩ := h2 hb
      refine ⟨q1, fun j h hij => ?_⟩
      by_cases e : j = i
      · subst e
        rw [hx]
        exact hs
      · exact q2 j h (by omega)
    obtain ⟨f0, f1, f2, f3⟩ := x
    by_cases cT : (f0.toList == ([84, 105, 108, 100, 101, 80, 97, 116, 104] : List UInt8) && (f1.toList == ([] : List UInt8) && !f3)) = true
    · rw [if_pos cT]
      by_cases c1 : f2 < 0
      · exact ⟨false, by rw [if_pos c1], fun h => by cases h⟩
      · rw [if_neg c1]
        by_cases c2 : f2 > 1000000
        · exact ⟨false, by rw [if_pos c2], fun h => by cases h⟩
        · rw [if_neg c2]
          simp only [Bool.and_eq_true, Bool.not_eq_true'] at cT
          obtain ⟨t0, t1, t3⟩ := cT
          refine ⟨b, rfl, step ⟨.t f2.toNat, show f2.toNat ≤ 1000000 by omega, ?_⟩⟩
          rw [str_eq t0, str_eq t1, t3]
          show _ = S29.mk _ _ ((f2.toNat : Nat) : Int) _
          rw [show ((f2.toNat : Nat) : Int) = f2 by omega]
          rfl
    · rw [if_neg cT]
      by_cases cC : (f0.toList == ([67, 97, 114, 101, 116, 80, 97, 116, 104] : List UInt8) && (f1.toList == ([] : List UInt8) && !f3)) = true
      · rw [if_pos cC]
        by_cases c1 : f2 < 0
        · exact ⟨false, by rw [if_pos c1], fun h => by cases h⟩
        · rw [if_neg c1]
          by_cases c2 : f2 > 2
          · exact ⟨false, by rw [if_pos c2], fun h => by cases h⟩
          · rw [if_neg c2]
            simp only [Bool.and_eq_true, Bool.not_eq_true'] at cC
            obtain ⟨t0, t1, t3⟩ := cC
            refine ⟨b, rfl, step ⟨.c f2.toNat, show f2.toNat ≤ 2 by omega, ?_⟩⟩
            rw [str_eq t0, str_eq t1, t3]
            show _ = S29.mk _ _ ((f2.toNat : Nat) : Int) _
            rw [show ((f2.toNat : Nat) : Int) = f2 by omega]
            rfl
      · exact ⟨false, by rw [if_neg cC], fun h => by cases h⟩
theorem list_of {l : List S29} (h : ∀ (j : Nat) (h : j < l.length), ∃ s : Stp, s.ok ∧ l[j] = told s.rev) : ∃ sl : List Stp, l = sl.map (fun s => told s.rev) ∧ ∀ s ∈ sl, s.ok := by
  induction l with
  | nil => exact ⟨[], rfl, fun s hs => by cases hs⟩
  | cons x r ih =>
    obtain ⟨s, h1, h2⟩ := h 0 (by simp)
    obtain ⟨sl, h3, h4⟩ := ih (fun j hj => by
      obtain ⟨s, q1, q2⟩ := h (j + 1) (by simpa using hj)
      exact ⟨s, q1, by simpa using q2⟩)
    refine ⟨s :: sl, ?_, fun t ht => ?_⟩
    · rw [List.map_cons, ← h3, ← h2]
      rfl
    · rcases List.mem_cons.1 ht with rfl | ht
      · exact h1
      · exact h4 t ht
theorem steps_says (l : List S29) (hl : l.length ≤ 2147483647) : ∃ b, spec_AreSteps.f (l.length + 1) l = some b ∧ (b = true → l.length ≤ 100 ∧ ∃ sl : List Stp, l = sl.map (fun s => told s.rev) ∧ ∀ s ∈ sl, s.ok) := by
  obtain ⟨b, h1, h2⟩ := steps_l0 l hl l.length 0 (l.length + 1) (by omega) (by omega)
  exact ⟨b, h1, fun h => ⟨(h2 h).1, list_of (fun j hj => (h2 h).2 j hj (Nat.zero_le _))⟩⟩
theorem fits_l0 (l : List S29) (hl : l.length ≤ 2147483647) : ∀ (d i k : Nat), i + d = l.length → d < k → ∃ b, laws_zzFits42.l0 k l (l.length : Int) (i : Int) = some b := by
  intro d
  induction d with
  | zero =>
    intro i k hi hk
    obtain ⟨k, rfl⟩ : ∃ m, k = m + 1 := ⟨k - 1, by omega⟩
    rw [laws_zzFits42.l0, if_neg (by omega)]
    exact ⟨true, rfl⟩
  | succ d ih =>
    intro i k hi hk
    obtain ⟨k, rfl⟩ : ∃ m, k = m + 1 := ⟨k - 1, by omega⟩
    have hlt : i < l.length := by omega
    obtain ⟨b, h1⟩ := ih (i + 1) k (by omega) (by omega)
    have hw : wrap64 ((i : Int) + 1) = ((i + 1 : Nat) : Int) := by rw [w64_id (by omega) (by omega)]; rfl
    rw [laws_zzFits42.l0, if_pos (by omega), if_pos (by omega), if_pos (by omega), rd_list l i hlt, hw, h1]
    unfold laws_zzFits43.f
    by_cases c1 : ((l[i]).f0.size : Int) > 2147483647
    · exact ⟨false, by rw [if_pos c1]; rfl⟩
    · rw [if_neg c1]
      by_cases c2 : ((l[i]).f1.size : Int) > 2147483647
      · exact ⟨false, by rw [if_pos c2]; rfl⟩
      · exact ⟨b, by rw [if_neg c2]; rfl⟩
theorem fits_says (l : List S29) : ∃ b, laws_zzFits42.f (l.length + 1) l = some b ∧ (b = true → l.length ≤ 2147483647) := by
  unfold laws_zzFits42.f
  by_cases h : (l.length : Int) > 2147483647
  · exact ⟨false, by rw [if_pos h], fun h => by cases h⟩
  · rw [if_neg h]
    obtain ⟨b, h1⟩ := fits_l0 l (by omega) l.length 0 (l.length + 1) (by omega) (by omega)
    exact ⟨b, h1, fun _ => by omega⟩
theorem stepsT_app (a b : List Stp) : stepsT (a ++ b) = stepsT a ++ stepsT b := by
  induction a with
  | nil => rfl
  | cons s r ih => rw [List.cons_append, stepsT, stepsT, ih, List.append_assoc]
theorem step_len {s : Stp} (h : s.ok) : s.text.length ≤ 8 := by
  cases s with
  | t n => have := dec_len 6 n (by have : n ≤ 1000000 := h; omega); show (Lib.decDigits n).length + 1 ≤ 8; omega
  | c n => have := dec_len 6 n (by have : n ≤ 2 := h; omega); show (Lib.decDigits n).length + 1 ≤ 8; omega
theorem steps_len : ∀ (l : List Stp), (∀ s ∈ l, s.ok) → (stepsT l).length ≤ 8 * l.length
  | [], _ => Nat.zero_le _
  | s :: r, h => by
    have h1 := step_len (h s (.head _))
    have h2 := steps_len r (fun t ht => h t (.tail _ ht))
    rw [stepsT, List.length_append, List.length_cons]
    omega
theorem stepsText_any (w : World) (A : Option Addr) (n c : Nat) (l : List S29) (sl : List Stp) (hsl : l = sl.map (fun s => told s.rev)) (hok : ∀ s ∈ sl, s.ok) (hn : l.length = n) (h100 : n ≤ 100) (hc : n ≤ c) (hC : k29.C w A n l) :
    Calls Tryd.prog 12 #[.slice A n c] w fun e w' => e = .returned (.string (txt (stepsT sl))) ∧ Below w.heap.size w w' := by
  have HC := Aside0.mk hC
  have HOK := Aside0.mk hok
  have HSL := Aside0.mk hsl
  have HN := Aside0.mk hn
  have HM : Aside0 (sl.length = n) := ⟨by rw [← hn, hsl, List.length_map]⟩
  clear hC hok hsl hn
  go_enter Tryd.func12, Tryd.ntmps12
  go_wp2_with fail
  go_loopg [3, 5, 8] (n + 1) (fun kq v3 v5 v8 w' => ∃ i : Nat, v8 = .int .i64 (i : Int) ∧ v3 = .string (txt (stepsT (sl.take i))) ∧ i ≤ n ∧ Aside0 (kq + i = n + 1) ∧ Aside0 (Below w.heap.size w w'))
  case atStart => exact ⟨0, rfl, rfl, Nat.zero_le _, ⟨rfl⟩, ⟨Below.refl _ _⟩⟩
  case round =>
    obtain ⟨i, rfl, rfl, hin, HK, HB⟩ := hrel
    by_cases hlt : i < n
    · obtain ⟨ad, hA, p0, p1, p2, p3⟩ := at_T29 (Kd.C_below HC.out HB.out) (i : Int) (by omega) (by omega)
      subst hA
      have hil : i < l.length := by rw [HN.out]; exact hlt
      have his : i < sl.length := by rw [HM.out]; exact hlt
      rw [rd_list l i hil, Int.toNat_natCast] at p0 p1 p2 p3
      obtain ⟨s, hs⟩ : ∃ s, sl[i] = s := ⟨_, rfl⟩
      have hli : l[i] = told s.rev := by
        have := HSL.out
        subst this
        rw [List.getElem_map, hs]
      rw [hli] at p0 p1 p2 p3
      have hsok := HOK.out s (by rw [← hs]; exact List.getElem_mem _)
      have HTK := Aside0.mk (show stepsT (sl.take (i + 1)) = stepsT (sl.take i) ++ s.text by rw [List.take_succ_eq_append_getElem his, stepsT_app, hs, stepsT, stepsT, List.append_nil])
      have hlen := steps_len (sl.take i) (fun t ht => HOK.out t (List.mem_of_mem_take ht))
      rw [List.length_take] at hlen
      have hln : (stepsT (sl.take i)).length ≤ 800 := by omega
      obtain ⟨q, hq⟩ : ∃ q, ad.add (i * 4) = q := ⟨_, rfl⟩
      rw [hq] at p0 p1 p2 p3
      have c1 : decide ((i : Int) < (n : Int)) = true := decide_eq_true (by omega)
      have c2 : decide (i < n) = true := decide_eq_true hlt
      have v1 : (0 : Int) ≤ (i : Int) := by omega
      have v2 : (i : Int) < (n : Int) := by omega
      have w1' : wrap64 ((i : Int) + 1) = (i : Int) + 1 := w64 (by omega) (by omega)
      have tz := txt_size (stepsT (sl.take i))
      obtain ⟨tt, htt⟩ : ∃ tt, txt (stepsT (sl.take i)) = tt := ⟨_, rfl⟩
      have HTT := Aside0.mk htt
      rw [htt] at tz ⊢
      have tl : tt.size ≤ 800 := by omega
      have y0 : (tt.size : Int) ≤ 8388608 := by omega
      clear htt tz hlen hln hs hli
      cases gk with
      | zero => exact absurd HK.out (by omega)
      | succ k1 =>
        cases s with
        | t m =>
          have hm : m ≤ 1000000 := hsok
          simp only [Stp.rev, told] at p0 p1 p2 p3
          have HD := Aside0.mk (decimal_any m (by omega))
          have hdz := dec_sz (n := m) (by omega)
          obtain ⟨dd, hdd⟩ : ∃ dd, txt (Lib.decDigits m) = dd := ⟨_, rfl⟩
          have HTD := Aside0.mk (show txt (stepsT (sl.take (i + 1))) = tt ++ ((⟨#[126]⟩ : ByteArray) ++ dd) from by rw [HTK.out, ← txt_append, HTT.out, ← hdd]; rfl)
          rw [hdd] at HD hdz
          have y1 : (dd.size : Int) ≤ 8388608 := by omega
          have y2 : (1 : Int) + (dd.size : Int) ≤ 8388608 := by omega
          have y3 : (tt.size : Int) + (1 + (dd.size : Int)) ≤ 8388608 := by omega
          clear hdd hsok hm hdz tl
          go_wp2_with fail
          refine (HD.out _).mono ?_
          rintro e w3 ⟨rfl, rfl⟩
          clear HD
          go_wp2_with fail
          go_roundg k1
          case measure => omega
          case rel => exact ⟨i + 1, by first | rfl | (go_num), by rw [HTD.out], by omega, ⟨by have := HK.out; omega⟩, ⟨below_alloc HB.out _⟩⟩
        | c m =>
          have hm : m ≤ 2 := hsok
          simp only [Stp.rev, told] at p0 p1 p2 p3
          have HD := Aside0.mk (decimal_any m (by omega))
          have hdz := dec_sz (n := m) (by omega)
          obtain ⟨dd, hdd⟩ : ∃ dd, txt (Lib.decDigits m) = dd := ⟨_, rfl⟩
          have HTD := Aside0.mk (show txt (stepsT (sl.take (i + 1))) = tt ++ ((⟨#[94]⟩ : ByteArray) ++ dd) from by rw [HTK.out, ← txt_append, HTT.out, ← hdd]; rfl)
          rw [hdd] at HD hdz
          have y1 : (dd.size : Int) ≤ 8388608 := by omega
          have y2 : (1 : Int) + (dd.size : Int) ≤ 8388608 := by omega
          have y3 : (tt.size : Int) + (1 + (dd.size : Int)) ≤ 8388608 := by omega
          clear hdd hsok hm hdz tl
          go_wp2_with fail
          refine (HD.out _).mono ?_
          rintro e w3 ⟨rfl, rfl⟩
          clear HD
          go_wp2_with fail
          go_roundg k1
          case measure => omega
          case rel => exact ⟨i + 1, by first | rfl | (go_num), by rw [HTD.out], by omega, ⟨by have := HK.out; omega⟩, ⟨below_alloc HB.out _⟩⟩
    · have hieq : i = n := by omega
      subst hieq
      have c1 : decide ((i : Int) < (i : Int)) = false := decide_eq_false (by omega)
      have c2 : decide (i < i) = false := decide_eq_false (by omega)
      have ht : sl.take i = sl := List.take_of_length_le (by rw [HM.out]; exact Nat.le_refl _)
      go_wp2_with fail
      go_ret
      exact ⟨by first | rfl | (rw [ht]; done) | simp [ht], HB.out⟩
theorem lit_reps {w : World} {base : Nat} {ok : Nat → Prop} (y : S29) : Reps (k29.M w base ok) k29.sz [y] [.string y.f0, .string y.f1, .int .i64 y.f2, .bool y.f3] := by
  refine ⟨rfl, fun j p hj => ?_⟩
  cases j with
  | succ j => cases hj
  | zero =>
    injection hj with hj
    subst hj
    exact k29_mkM _ _ _ y
theorem steps_good {sl : List Stp} (h : ∀ s ∈ sl, s.ok) : Good (stepsT sl) := by
  induction sl with
  | nil => exact fun x hx => by cases hx
  | cons s r ih =>
    refine fun x hx => (List.mem_append.1 hx).elim (fun hx => ?_) (ih (fun t ht => h t (.tail _ ht)) x)
    cases s with
    | t m =>
      rcases List.mem_cons.1 hx with rfl | hx
      · exact .inr (by decide)
      · exact .inl (isD_A _ ((dec_all m).1 x hx))
    | c m =>
      rcases List.mem_cons.1 hx with rfl | hx
      · exact .inr (by decide)
      · exact .inl (isD_A _ ((dec_all m).1 x hx))
theorem steps_law (w : World) (ea : Addr) (name : ByteArray) (A : Option Addr) (n c : Nat) (l : List S29) (hC : k29.C w A l.length l) (hn : l.length = n) (hc : n ≤ c) (hT : Tabs w ea) :
    Calls Tryd.prog 4 #[.string name, .slice A n c] w fun e w' => e = .returned (.bool true) ∧ Below w.heap.size w w' := by
  subst hn
  have HT := Aside0.mk hT
  have HC := Aside0.mk hC
  clear hT hC
  by_cases h0 : name.size ≤ 2147483647
  · have c0 : decide ((2147483647 : Int) < (name.size : Int)) = false := decide_eq_false (by omega)
    have c00 : decide (2147483647 < name.size) = false := decide_eq_false (by omega)
    obtain ⟨bf, hbf, hqf⟩ := fits_says l
    have HF := Aside0.mk (fun W (hb : Below w.heap.size w W) => laws_zzFits42.calls _ A c l bf W (Kd.C_below HC.out hb) hc hbf)
    clear hbf
    cases bf with
    | false =>
      clear hqf
      go_enter Tryd.func4, Tryd.ntmps4
      go_wp2_with fail
      refine (HF.out _ (Below.refl _ _)).mono ?_
      rintro e w1 ⟨rfl, hb1⟩
      have HB1 := Aside0.mk hb1
      clear hb1
      go_wp2_with fail
      go_ret
      exact ⟨rfl, HB1.out⟩
    | true =>
      have hl31 := hqf rfl
      clear hqf
      obtain ⟨b0, hb0, hq0⟩ := isName_says name h0
      obtain ⟨b1, hb1, hq1⟩ := steps_says l hl31
      have HN0 := Aside0.mk (fun W => spec_IsRevName.calls _ name b0 W hb0)
      have HA := Aside0.mk (fun W (hb : Below w.heap.size w W) => spec_AreSteps.calls _ A c l b1 W (Kd.C_below HC.out hb) hc hb1)
      clear hb0 hb1
      cases b0 with
      | false =>
        clear hq0 hq1
        go_enter Tryd.func4, Tryd.ntmps4
        go_wp2_with fail
        refine (HF.out _ (Below.refl _ _)).mono ?_
        rintro e w1 ⟨rfl, hb1⟩
        have HB1 := Aside0.mk hb1
        clear hb1
        go_wp2_with fail
        refine (HN0.out _).mono ?_
        rintro e w2 ⟨rfl, hd⟩
        have HB2 := Aside0.mk (below_step HB1.out (drawn_below hd))
        clear hd
        go_wp2_with fail
        go_ret
        exact ⟨rfl, HB2.out⟩
      | true =>
        have hn0 := hq0 rfl
        clear hq0
        cases b1 with
        | false =>
          clear hq1
          go_enter Tryd.func4, Tryd.ntmps4
          go_wp2_with fail
          refine (HF.out _ (Below.refl _ _)).mono ?_
          rintro e w1 ⟨rfl, hb1⟩
          have HB1 := Aside0.mk hb1
          clear hb1
          go_wp2_with fail
          refine (HN0.out _).mono ?_
          rintro e w2 ⟨rfl, hd⟩
          have HB2 := Aside0.mk (below_step HB1.out (drawn_below hd))
          clear hd
          go_wp2_with fail
          refine (HA.out _ HB2.out).mono ?_
          rintro e w3 ⟨rfl, hb3⟩
          have HB3 := Aside0.mk (below_step HB2.out hb3)
          clear hb3
          go_wp2_with fail
          go_ret
          exact ⟨rfl, HB3.out⟩
        | true =>
          obtain ⟨h100, sl, hsl, hok⟩ := hq1 rfl
          clear hq1
          have hsll : sl.length = l.length := by rw [hsl, List.length_map]
          have z0 : name.size ≤ 1000 := by have := hn0.len; rwa [sz_list] at this
          have hst := steps_len sl hok
          have e1 : name ++ txt (stepsT sl) = txt (name.data.toList ++ stepsT sl) := by rw [← txt_append, txt_list]
          have hrl : ([Rev.ref name.data.toList] ++ sl.map Stp.rev).map told = told (.ref name.data.toList) :: l := by
            rw [hsl]
            simp [List.map_map]
          have HIS := Aside0.mk (fun (W : World) (A9 : Option Addr) (c9 : Nat) (hT : Tabs W ea) (hc9 : l.length + 1 ≤ c9) (h9 : k29.C W A9 (l.length + 1) (told (.ref name.data.toList) :: l)) => show Calls Tryd.prog 11 #[.string (name ++ txt (stepsT sl)), .slice A9 (l.length + 1) c9] W _ from by
            rw [e1]
            exact rvIs_any W ea _ (.ref name.data.toList :: sl.map Stp.rev) A9 (l.length + 1) c9 (by rw [List.length_append]; have := List.length_pos_iff.2 hn0.ne; omega) (good_app (good_of hn0.a) (steps_good hok)) hT (fun p => script_name hn0.ne hn0.a (Nat.le_trans hn0.len (by decide)) (steps_ends sl) (steps_first sl) (script_steps sl _ hok (before_back _)))
              ⟨_, _, rfl, .inl (fun x hx => by
                obtain ⟨s, _, rfl⟩ := List.mem_map.1 hx
                cases s with
                | t m => exact .inl ⟨_, rfl⟩
                | c m => exact .inr (.inl ⟨_, rfl⟩))⟩ (by rw [List.length_cons, List.length_map, hsll]; omega) (by rw [List.length_cons, List.length_map, hsll]) hc9 (by rw [show ((Rev.ref name.data.toList :: sl.map Stp.rev).map told) = told (.ref name.data.toList) :: l from hrl]; exact h9))
          have HST := Aside0.mk (fun W (hb : Below w.heap.size w W) => stepsText_any W A l.length c l sl hsl hok rfl h100 hc (Kd.C_below HC.out hb))
          have HRF := Aside0.mk (rvRef_any name.data.toList)
          have tz := txt_size (stepsT sl)
          obtain ⟨tt, htt⟩ : ∃ tt, txt (stepsT sl) = tt := ⟨_, rfl⟩
          rw [htt] at HST HIS tz
          rw [txt_list] at HRF
          have y0 : (name.size : Int) ≤ 8388608 := by omega
          have y1 : (name.size : Int) + (tt.size : Int) ≤ 8388608 := by omega
          obtain ⟨y, hy⟩ : ∃ y, told (.ref name.data.toList) = y := ⟨_, rfl⟩
          rw [hy] at HRF HIS
          have HROOM : Aside0 (([y].length + l.length) * 48 ≤ 140737488355328) := ⟨by simp; omega⟩
          clear e1 hrl hst htt hy hn0 z0 hsll hsl hok h0 tz
          go_enter Tryd.func4, Tryd.ntmps4
          go_wp2_with fail
          refine (HF.out _ (Below.refl _ _)).mono ?_
          rintro e w1 ⟨rfl, hb1⟩
          have HB1 := Aside0.mk hb1
          clear hb1
          go_wp2_with fail
          refine (HN0.out _).mono ?_
          rintro e w2 ⟨rfl, hd⟩
          have HB2 := Aside0.mk (below_step HB1.out (drawn_below hd))
          clear hd
          go_wp2_with fail
          refine (HA.out _ HB2.out).mono ?_
          rintro e w3 ⟨rfl, hb3⟩
          have HB3 := Aside0.mk (below_step HB2.out hb3)
          clear hb3
          go_wp2_with fail
          refine (HST.out _ HB3.out).mono ?_
          rintro e w4 ⟨rfl, hb4⟩
          have HB4 := Aside0.mk (below_step HB3.out hb4)
          clear hb4
          go_wp2_with fail
          refine (HRF.out _).mono ?_
          rintro e w5 ⟨rfl, hb5⟩
          have HB5 := Aside0.mk (below_step HB4.out hb5)
          unfold s29
          clear hb5 HF HN0 HA HST HRF
          go_wp2_with (first | ((with_reducible refine gate_dst (N := 27) rfl ?_); go_must (refine Kd.R_lit k29 w.heap.size 29 ?hg (N := 27) ?hd (w0 := w) (xs := [y]) (inner := [.string y.f0, .string y.f1, .int .i64 y.f2, .bool y.f3]) (ok := fun _ => True) (okp := fun _ => True) ?hr (lit_reps y) (fun _ hk => hk) trivial HB5.out HB5.out.size (by simp only [List.length_cons, List.length_nil]; omega) ?_); (case hd => rfl); (case hg => rfl); (case hr => first | (go_simp; done) | (go_simp; rfl)); intro v6 w6 hR6 hb6 hg_ hnew_; clear hg_ hnew_; have HR6 := Aside0.mk hR6; have HB6 := Aside0.mk hb6; clear hR6 hb6) | ((with_reducible refine gate_builtin (b := .append) (xs := #[.tmp 27, .tmp 28]) rfl ?_); at_builtin; go_must (refine Kd.R_append_rows k29 (Rr := k29.K w6) (w0 := w) w.heap.size rfl (.tmp 27) (.tmp 28) 24 29 (.agg #[.string ⟨#[]⟩, .string ⟨#[]⟩, .int .i64 0, .bool false]) 48 rfl Tryd.underlying24 info29 rfl (by decide) (by decide) v6 [y] l A l.length c (fun _ => True) (fun _ => False) rfl rfl HR6.out (Kd.C_below HC.out HB6.out) (fun x cs h => by rw [k29_open h]; exact k29_mkM _ _ _ x) (fun _ hk => hk.elim) (fun _ _ => trivial) HB6.out HB6.out.size HROOM.out ?_); intro v7 w7 ho hb hg hat; clear hg hat; obtain ⟨A9, c9, hv9, hc9, h9⟩ := Kd.R_reads ho; subst hv9; have HB7 := Aside0.mk hb; have H9 := Aside0.mk h9; have HC9 := Aside0.mk hc9; clear ho hb h9 hc9) | fail)
          refine (HIS.out _ A9 c9 (HT.out.below HB7.out) HC9.out H9.out).mono ?_
          rintro e w8 ⟨rfl, hb8⟩
          have HB8 := Aside0.mk (below_step HB7.out hb8)
          clear hb8
          go_wp2_with fail
          go_ret
          exact ⟨rfl, HB8.out⟩
  · have c0 : decide ((2147483647 : Int) < (name.size : Int)) = true := decide_eq_true (by omega)
    have c00 : decide (2147483647 < name.size) = true := decide_eq_true (by omega)
    clear h0
    go_enter Tryd.func4, Tryd.ntmps4
    go_wp2
    go_ret
    exact ⟨rfl, Below.refl _ _⟩
end Go.Proofs.YtiibeefadgmicaaDoor.rev
