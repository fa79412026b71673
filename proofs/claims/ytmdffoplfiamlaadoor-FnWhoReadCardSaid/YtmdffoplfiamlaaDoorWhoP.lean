/- Signatures: plain part: what spec.IsWho says of a name, an address, a time and a zone. -/
import Derived.Test.YtmdffoplfiamlaaDoorWhoF
namespace Go.Proofs.YtmdffoplfiamlaaDoor.who
open Go.RowKit Go.Lib Go.Proofs.YtmdffoplfiamlaaDoorW.PrintWords Go.Proofs.YtmdffoplfiamlaaDoorW.PrintLast Go.Proofs.YtmdffoplfiamlaaDoorW.PrintMore Go.Proofs.YtmdffoplfiamlaaDoor.PFnWhoRead
set_option linter.unusedVariables false
set_option linter.unusedSimpArgs false
set_option maxHeartbeats 2000000
set_option maxRecDepth 100000
def hasB (s : ByteArray) (c : Int) : Bool := s.data.toList.any fun b => (b.toNat : Int) == c
theorem sz_list (s : ByteArray) : s.data.toList.length = s.size := Array.length_toList
theorem bt_list (s : ByteArray) (i : Nat) (h : i < s.data.toList.length) : bt s (i : Int) = ((s.data.toList[i]).toNat : Int) := by
  unfold bt
  rw [dif_pos (by rw [Int.toNat_natCast, ← sz_list]; exact h)]
  rfl
theorem has_l0 (s : ByteArray) (c : Int) (hs : s.size ≤ 2147483647) : ∀ (d i k : Nat), i + d = s.size → d < k → spec_Has.l0 k s c (s.size : Int) (i : Int) = some ((s.data.toList.drop i).any fun b => (b.toNat : Int) == c) := by
  intro d
  induction d with
  | zero =>
    intro i k hi hk
    obtain ⟨k, rfl⟩ : ∃ m, k = m + 1 := ⟨k - 1, by omega⟩
    rw [spec_Has.l0, if_neg (by omega), List.drop_of_length_le (by rw [sz_list]; omega)]
    rfl
  | succ d ih =>
    intro i k hi hk
    obtain ⟨k, rfl⟩ : ∃ m, k = m + 1 := ⟨k - 1, by omega⟩
    have hlt : i < s.data.toList.length := by rw [sz_list]; omega
    rw [spec_Has.l0, if_pos (by omega), if_pos (by omega), if_pos (by omega), bt_list s i hlt, List.drop_eq_getElem_cons hlt, List.any_cons]
    by_cases hc : ((s.data.toList[i]).toNat : Int) = c
    · rw [if_pos hc, beq_iff_eq.2 hc, Bool.true_or]
    · rw [if_neg hc, beq_eq_false_iff_ne.2 hc, Bool.false_or, w64_id (by omega) (by omega)]
      exact ih (i + 1) k (by omega) (by omega)
theorem has_says (s : ByteArray) (c : Int) (k : Nat) (hs : s.size ≤ 2147483647) (hk : s.size < k) : spec_Has.f k s c = some (hasB s c) := by
  unfold spec_Has.f hasB
  have := has_l0 s c hs s.size 0 k (by omega) hk
  rw [List.drop_zero] at this
  exact this
theorem hasB_no {s : ByteArray} {v : UInt8} (h : hasB s (v.toNat : Int) = false) : v ∉ s.data.toList := fun hm => by
  have : hasB s (v.toNat : Int) = true := List.any_eq_true.2 ⟨v, hm, beq_self_eq_true _⟩
  rw [h] at this
  cases this
theorem j0_says (s : ByteArray) (x : Bool) (k : Nat) (hs : s.size ≤ 4096) (hk : s.size + 1 < k) : ∃ b, spec_IsPlain.j0 k s x = some b ∧ (b = true → x = false ∧ 60 ∉ s.data.toList ∧ 62 ∉ s.data.toList) := by
  obtain ⟨k, rfl⟩ : ∃ m, k = m + 1 := ⟨k - 1, by omega⟩
  rw [spec_IsPlain.j0]
  cases x with
  | true => exact ⟨false, if_pos rfl, fun h => by cases h⟩
  | false =>
    rw [if_neg (by simp), has_says s 60 k (by omega) (by omega), has_says s 62 k (by omega) (by omega), has_says s 10 k (by omega) (by omega), has_says s 0 k (by omega) (by omega)]
    simp only [Option.bind_some]
    cases h1 : hasB s 60 with
    | true => exact ⟨false, if_pos rfl, fun h => by cases h⟩
    | false =>
      cases h2 : hasB s 62 with
      | true => exact ⟨false, by simp, fun h => by cases h⟩
      | false => cases h3 : hasB s 10 with
        | true => exact ⟨false, by simp, fun h => by cases h⟩
        | false => exact ⟨!hasB s 0, by simp, fun _ => ⟨trivial, hasB_no (v := 60) h1, hasB_no (v := 62) h2⟩⟩
theorem plain_says (s : ByteArray) (k : Nat) (hs : s.size ≤ 2147483647) (hk : 4098 ≤ k) : ∃ b, spec_IsPlain.f k s = some b ∧ (b = true → s.size ≤ 4096 ∧ NameOk s.data.toList) := by
  unfold spec_IsPlain.f
  by_cases h0 : (s.size : Int) > 4096
  · exact ⟨false, if_pos h0, fun h => by cases h⟩
  · rw [if_neg h0]
    have hs2 : s.size ≤ 4096 := by omega
    have hl := sz_list s
    by_cases h1 : s.toList = []
    · rw [if_pos h1]
      obtain ⟨b, hb, hq⟩ := j0_says s false k hs2 (by omega)
      refine ⟨b, hb, fun h => ⟨hs2, (hq h).2.1, (hq h).2.2, fun v hv => ?_, fun v hv => ?_⟩⟩
      · rw [← ByteArray.toList_eq, h1] at hv; cases hv
      · rw [← ByteArray.toList_eq, h1] at hv; cases hv
    · rw [if_neg h1]
      rw [ByteArray.toList_eq] at h1
      have hpos : 0 < s.data.toList.length := List.length_pos_iff.2 h1
      have hp2 : 0 < s.size := by omega
      rw [if_pos (by omega)]
      have e0 := bt_list s 0 hpos
      have e1 := bt_list s (s.size - 1) (by omega)
      have ec : ((s.size - 1 : Nat) : Int) = (s.size : Int) - 1 := by omega
      by_cases h2 : bt s 0 = 32
      · rw [if_pos h2]
        obtain ⟨b, hb, hq⟩ := j0_says s true k hs2 (by omega)
        exact ⟨b, hb, fun h => by have := (hq h).1; cases this⟩
      · rw [if_neg h2, w64_id (x := (s.size : Int) - 1) (by omega) (by omega), if_pos (by omega), if_pos (by omega)]
        obtain ⟨b, hb, hq⟩ := j0_says s (bt s ((s.size : Int) - 1) == 32) k hs2 (by omega)
        refine ⟨b, hb, fun h => ⟨hs2, (hq h).2.1, (hq h).2.2, fun v hv => ?_, fun v hv => ?_⟩⟩
        · rw [List.head?_eq_getElem?, List.getElem?_eq_getElem hpos] at hv
          injection hv with hv
          intro e
          apply h2
          rw [show (0 : Int) = ((0 : Nat) : Int) from rfl, e0, hv, e]
          rfl
        · rw [List.getLast?_eq_getElem?, List.getElem?_eq_getElem (by omega)] at hv
          injection hv with hv
          intro e
          have hx := beq_eq_false_iff_ne.1 (hq h).1
          apply hx
          rw [← ec, e1]
          have hidx : s.data.toList[s.size - 1]'(by omega) = v := by rw [← hv]; congr 1
          rw [hidx, e]
          rfl
/-- What spec.IsWho says. -/
structure WhoOk (N E : ByteArray) (t z : Int) : Prop where
  n : N.size ≤ 4096 ∧ NameOk N.data.toList
  e : E.size ≤ 4096 ∧ NameOk E.data.toList
  t0 : 0 ≤ t
  t1 : t < 1099511627776
  zm : z % 60 = 0
  z0 : -360000 < z
  z1 : z < 360000
  zs : 0 ≤ z ∨ z ≤ -3600
theorem who_says (N E : ByteArray) (t z : Int) (hN : N.size ≤ 2147483647) (hE : E.size ≤ 2147483647) : ∃ b, spec_IsWho.f 4100 N E t z = some b ∧ (b = true → WhoOk N E t z) := by
  obtain ⟨b1, h1, q1⟩ := plain_says N 4100 hN (by omega)
  obtain ⟨b2, h2, q2⟩ := plain_says E 4100 hE (by omega)
  unfold spec_IsWho.f
  rw [h1, h2]
  simp only [Option.bind_some]
  cases b1 with
  | false => exact ⟨false, by simp, fun h => by cases h⟩
  | true =>
    cases b2 with
    | false => exact ⟨false, by simp, fun h => by cases h⟩
    | true =>
      rw [if_pos rfl, if_pos rfl]
      by_cases h3 : t < 0
      · exact ⟨false, if_pos h3, fun h => by cases h⟩
      · rw [if_neg h3]
        by_cases h4 : t ≥ 1099511627776
        · exact ⟨false, if_pos h4, fun h => by cases h⟩
        · rw [if_neg h4]
          by_cases h5 : Int.tmod z 60 = 0
          · rw [if_pos h5]
            by_cases h6 : z > -360000
            · rw [if_pos h6]
              by_cases h7 : z < 360000
              · rw [if_pos h7]
                have hm : z % 60 = 0 := by
                  have := Int.dvd_of_tmod_eq_zero h5
                  exact Int.emod_eq_zero_of_dvd this
                by_cases h8 : z ≥ 0
                · exact ⟨true, if_pos h8, fun _ => ⟨q1 rfl, q2 rfl, by omega, by omega, hm, by omega, h7, .inl h8⟩⟩
                · refine ⟨decide (z ≤ -3600), if_neg h8, fun h => ⟨q1 rfl, q2 rfl, by omega, by omega, hm, by omega, h7, .inr (of_decide_eq_true h)⟩⟩
              · exact ⟨false, if_neg h7, fun h => by cases h⟩
            · exact ⟨false, if_neg h6, fun h => by cases h⟩
          · exact ⟨false, if_neg h5, fun h => by cases h⟩
theorem dec_not {l : List UInt8} (h : Dec l) {v : UInt8} (hv : v.toNat < 48 ∨ 57 < v.toNat) : v ∉ l := fun hm => by
  have := h v hm
  omega
theorem secOk (t : Nat) (h : t < 1099511627776) : SecOk (decDigits t) t := by
  obtain ⟨h1, h2, h3⟩ := decDigits_dec t
  exact ⟨h, Nat.le_trans (decDigits_len 18 t (by omega)) (by decide), dec_not h1 (by decide), dec_not h1 (by decide), dec_not h1 (by decide), by rw [int_plain _ h3 h1 (by rw [h2]; omega), h2]⟩
theorem zoneOk (neg : Bool) (a : Nat) (ha : a < 360000) (hm : a % 60 = 0) (hs : neg = true → 3600 ≤ a) : ZoneOk (zoneD neg a) (if neg then -(a : Int) else (a : Int)) := by
  obtain ⟨h1, h2, h3⟩ := twoD_dec (n := a / 3600) (by omega)
  obtain ⟨m1, m2, m3⟩ := twoD_dec (n := a / 60 % 60) (by omega)
  have hx : ∀ v : UInt8, v.toNat < 43 ∨ 57 < v.toNat → v ∉ zoneD neg a := by
    intro v hv
    unfold zoneD
    simp only [List.mem_cons, List.mem_append, not_or]
    refine ⟨fun e => ?_, dec_not h1 (by omega), dec_not m1 (by omega)⟩
    have : v.toNat = 43 ∨ v.toNat = 45 := by
      cases neg
      · left; rw [e]; rfl
      · right; rw [e]; rfl
    omega
  refine ⟨rfl, hx 60 (by decide), hx 62 (by decide), ?_⟩
  have t2 : (zoneD neg a).drop 3 = twoD (a / 60 % 60) := rfl
  cases neg with
  | false =>
    have t1 : (zoneD false a).take 3 = 43 :: twoD (a / 3600) := rfl
    refine ⟨_, _, by rw [t1]; exact int_plus _ h3 h1 (by omega), by rw [t2]; exact int_plain _ m3 m1 (by omega), ?_⟩
    rw [h2, m2]
    show _ ∧ _ ∧ _ ∧ _ ∧ (_ ∧ ((a : Int) = _) ∨ _ ∧ ((a : Int) = _))
    omega
  | true =>
    have t1 : (zoneD true a).take 3 = 45 :: twoD (a / 3600) := rfl
    have := hs rfl
    refine ⟨_, _, by rw [t1]; exact int_minus _ h3 h1 (by omega), by rw [t2]; exact int_plain _ m3 m1 (by omega), ?_⟩
    rw [h2, m2]
    show _ ∧ _ ∧ _ ∧ _ ∧ (_ ∧ (-(a : Int) = _) ∨ _ ∧ (-(a : Int) = _))
    omega
/-- A zone, its text, and what spec.ZoneText makes of it. -/
theorem zone_any {N E : ByteArray} {t zi : Int} (h : WhoOk N E t zi) : ∃ z, ZoneOk z zi ∧ ∀ w : World, Calls Tryd.prog 32 #[.int .i64 zi] w fun e w' => e = .returned (.string (txt z)) ∧ Below w.heap.size w w' := by
  have hm := h.zm
  have h0 := h.z0
  have h1 := h.z1
  by_cases hz : 0 ≤ zi
  · obtain ⟨a, rfl⟩ : ∃ a : Nat, zi = (a : Int) := ⟨zi.toNat, by omega⟩
    exact ⟨zoneD false a, zoneOk false a (by omega) (by omega) (fun h => by cases h), zone_pos a (Nat.zero_le _) (by omega)⟩
  · have hzs := h.zs
    obtain ⟨a, rfl⟩ : ∃ a : Nat, zi = -(a : Int) := ⟨(-zi).toNat, by omega⟩
    exact ⟨zoneD true a, zoneOk true a (by omega) (by omega) (fun _ => by omega), zone_neg a (by omega) (by omega)⟩
/-- The whole text as a list. -/
theorem whoT_list (N E : ByteArray) (n : Nat) (z : List UInt8) : (whoT N E n z).data.toList = N.data.toList ++ 32 :: 60 :: (E.data.toList ++ 62 :: 32 :: (decDigits n ++ 32 :: z)) := by
  unfold whoT txt
  simp only [ByteArray.data_append, Array.toList_append]
  simp
end Go.Proofs.YtmdffoplfiamlaaDoor.who
