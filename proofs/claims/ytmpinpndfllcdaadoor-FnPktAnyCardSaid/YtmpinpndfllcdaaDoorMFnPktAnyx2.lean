/- Contracts of functions of the specification, as a printer of the kit wrote them, some steps mended. -/
import Derived.Test.YtmpinpndfllcdaaDoorPFnPktAnyx0
namespace Go.Proofs.YtmpinpndfllcdaaDoor.PFnPktAny
open Go.RowKit Go.Proofs.YtmpinpndfllcdaaDoorW.PrintWords Go.Proofs.YtmpinpndfllcdaaDoorW.PrintLast Go.Proofs.YtmpinpndfllcdaaDoorW.PrintMore
attribute [local go_sem] max2_int min2_int max_two min_two max_three min_three max_four min_four   -- for this text's walks alone
set_option linter.unusedVariables false
set_option linter.unusedSimpArgs false

-- NOT PRINTED: function 43 (utf8_decodeRuneInStringSlow)

-- NOT PRINTED: function 38 (utf8_DecodeRuneInString)

/-! ### utf8_RuneStart: function 44 -/
def utf8_RuneStart.f (a0 : Int) : Option (Bool) := some ((Go.bits .and .u8 a0 192) != 128)
set_option maxHeartbeats 8000000 in
set_option maxRecDepth 100000 in
theorem utf8_RuneStart.calls (a0 : Int) (r : Bool) (w : World) (h : utf8_RuneStart.f a0 = some r) :
    Calls Tryd.prog 44 #[.int .u8 a0] w fun e w' => e = .returned (.bool r) ∧ Drawn0 w w' := by
  have H : (some ((Go.bits .and .u8 a0 192) != 128)) = some r := h
  clear h
  obtain rfl := Option.some.inj H
  go_enter Tryd.func44, Tryd.ntmps44
  go_wp2
  go_ret
  exact ⟨by first | rfl | (simp; done) | (simp [*]; done), by repeat (first | exact Drawn0.refl _ | apply Drawn0.step)⟩

-- NOT PRINTED: function 42 (utf8_DecodeLastRuneInString)

-- NOT PRINTED: function 37 (strings_lastIndexFunc)

-- NOT PRINTED: function 33 (strings_TrimRightFunc)

-- NOT PRINTED: function 39 (strings_indexFunc)

-- NOT PRINTED: function 35 (strings_TrimLeftFunc)

-- NOT PRINTED: function 31 (strings_TrimFunc)

-- NOT PRINTED: function 40 (unicode_is16)

-- NOT PRINTED: function 41 (unicode_is32)

-- NOT PRINTED: function 36 (unicode_isExcludingLatin)

-- NOT PRINTED: function 32 (unicode_IsSpace)

-- NOT PRINTED: function 26 (strings_TrimSpace)

-- NOT PRINTED: function 17 (pktline_Scanner_Scan)

-- NOT PRINTED: function 18 (pktline_Scanner_Bytes)

-- NOT PRINTED: function 19 (pktline_Scanner_Err)

-- NOT PRINTED: function 6 (impl_ReadLines)

/-! ### laws_deltaSmall: function 7 -/
def laws_deltaSmall.l0 : Nat → List (List Int) → Int → Int → Option (Bool)
  | 0, _, _, _ => none
  | k + 1, x5, x6, x7 => if x7 < x6 then (if 0 ≤ x7 then (if x7 < (x5.length : Int) then (if ((rd_L1 x5 x7).length : Int) > 1000000 then (some false) else (laws_deltaSmall.l0 k x5 x6 (wrap64 (x7 + 1)))) else (none)) else (none)) else (some true)
def laws_deltaSmall.f (k : Nat) (l0 : List (List Int)) : Option (Bool) := laws_deltaSmall.l0 k l0 (l0.length : Int) 0
theorem laws_deltaSmall.mono_l : ∀ k, (∀ y0 y1 y2, LeO (laws_deltaSmall.l0 k y0 y1 y2) (laws_deltaSmall.l0 (k + 1) y0 y1 y2))
  | 0 => fun _ _ _ r h => by simp [laws_deltaSmall.l0] at h
  | k + 1 => by
    have ih0 := laws_deltaSmall.mono_l k
    · intro y0 y1 y2
      unfold laws_deltaSmall.l0
      repeat' first
      | (with_reducible exact ih0 _ _ _)
      | (with_reducible exact LeO.refl _)
      | (with_reducible exact LeO.none _)
      | (with_reducible refine LeO.ite ?_ ?_)
      | (with_reducible refine LeO.bind ?_ (fun _ => ?_))
      | exact ih0 _ _ _
      | exact LeO.none _
      | refine LeO.ite ?_ ?_
      | refine LeO.bind ?_ (fun _ => ?_)
theorem laws_deltaSmall.mono : ∀ a0 k, LeO (laws_deltaSmall.f k a0) (laws_deltaSmall.f (k + 1) a0) := by
  intro a0 k
  have ih0 := laws_deltaSmall.mono_l k
  unfold laws_deltaSmall.f
  repeat' first
      | (with_reducible exact ih0 _ _ _)
      | (with_reducible exact LeO.refl _)
      | (with_reducible exact LeO.none _)
      | (with_reducible refine LeO.ite ?_ ?_)
      | (with_reducible refine LeO.bind ?_ (fun _ => ?_))
      | exact ih0 _ _ _
      | exact LeO.none _
      | refine LeO.ite ?_ ?_
      | refine LeO.bind ?_ (fun _ => ?_)
set_option maxHeartbeats 8000000 in
set_option maxRecDepth 100000 in
theorem laws_deltaSmall.calls (k : Nat) (A0 : Option Addr) (c0 : Nat) (l0 : List (List Int)) (r : Bool) (w : World) (hr0 : Kd.C (Kd.slice 5 (Kd.int .u8)) w A0 l0.length l0) (hc0 : l0.length ≤ c0) (h : laws_deltaSmall.f k l0 = some r) :
    Calls Tryd.prog 7 #[.slice A0 l0.length c0] w fun e w' => e = .returned (.bool r) ∧ Drawn0 w w' := by
  have HR0 := Aside0.mk hr0
  have HC0 := Aside0.mk hc0
  clear hr0 hc0
  have H : (laws_deltaSmall.l0 k l0 (l0.length : Int) 0) = some r := h
  clear h
  have H' := Aside0.mk H
  clear H
  go_enter Tryd.func7, Tryd.ntmps7
  go_wp2
  go_loopg [7] k (fun kq v7 w' => ∃ (x7_1 : Int), v7 = .int .i64 x7_1 ∧ Aside0 (laws_deltaSmall.l0 kq l0 (l0.length : Int) x7_1 = some r) ∧ Aside0 (kq ≤ k) ∧ Drawn0 w w')
  case atStart => exact ⟨(0), (by first | rfl | (simp; done) | (simp [*]; done)), H', ⟨Nat.le_refl _⟩, by repeat (first | exact Drawn0.refl _ | apply Drawn0.step)⟩
  case round =>
    clear H'
    obtain ⟨x7_1, rfl, HA, HK1, ⟨m1, rfl⟩⟩ := hrel
    cases gk with
    | zero => exact absurd HA.out (by simp [laws_deltaSmall.l0])
    | succ k1 =>
      have H := HA.out
      clear HA
      simp only [laws_deltaSmall.l0] at H
      by_cases c2 : x7_1 < (l0.length : Int)
      · rw [if_pos c2] at H
        have c2b0 : decide (x7_1 < (l0.length : Int)) = true := decide_eq_true c2
        clear c2
        by_cases c3 : 0 ≤ x7_1
        · rw [if_pos c3] at H
          have c3b0 : decide (0 ≤ x7_1) = true := decide_eq_true c3
          clear c3
          by_cases c4 : x7_1 < (l0.length : Int)
          · rw [if_pos c4] at H
            have c4b0 : decide (x7_1 < (l0.length : Int)) = true := decide_eq_true c4
            clear c4
            by_cases c5 : ((rd_L1 l0 x7_1).length : Int) > 1000000
            · rw [if_pos c5] at H
              have c5b0 : decide (1000000 < ((rd_L1 l0 x7_1).length : Int)) = true := decide_eq_true c5
              have c5b1 : decide (1000000 < (rd_L1 l0 x7_1).length) = true := decide_eq_true (by omega)
              clear c5
              obtain rfl := Option.some.inj H
              have p139 : 0 ≤ (x7_1 : Int) := of_decide_eq_true (by first | (with_reducible assumption) | assumption)
              have q139 : x7_1 < (l0.length : Int) := of_decide_eq_true (by first | (with_reducible assumption) | assumption)
              obtain ⟨ad139, A139_0, c139_0, e139, hx139_0, hl139_0, hi139_0⟩ := at_L1 HR0.out x7_1 p139 q139
              cases e139
              have HR139_0 := Aside0.mk hi139_0
              have HC139_0 := Aside0.mk hl139_0
              clear hi139_0 hl139_0
              replace p139 := eq_true p139
              replace q139 := eq_true q139
              go_wp2
              go_ret
              exact ⟨by first | rfl | (simp; done) | (simp [*]; done), by repeat (first | exact Drawn0.refl _ | apply Drawn0.step)⟩
            · rw [if_neg c5] at H
              have c5b0 : decide (1000000 < ((rd_L1 l0 x7_1).length : Int)) = false := decide_eq_false c5
              have c5b1 : decide (1000000 < (rd_L1 l0 x7_1).length) = false := decide_eq_false (by omega)
              clear c5
              have H' := Aside0.mk H
              clear H
              have p139 : 0 ≤ (x7_1 : Int) := of_decide_eq_true (by first | (with_reducible assumption) | assumption)
              have q139 : x7_1 < (l0.length : Int) := of_decide_eq_true (by first | (with_reducible assumption) | assumption)
              obtain ⟨ad139, A139_0, c139_0, e139, hx139_0, hl139_0, hi139_0⟩ := at_L1 HR0.out x7_1 p139 q139
              cases e139
              have HR139_0 := Aside0.mk hi139_0
              have HC139_0 := Aside0.mk hl139_0
              clear hi139_0 hl139_0
              replace p139 := eq_true p139
              replace q139 := eq_true q139
              go_wp2
              go_roundg k1
              case measure => have := HK1.out; omega
              case rel => exact ⟨(wrap64 (x7_1 + 1)), (by first | rfl | (simp; done) | (simp [*]; done)), H', ⟨by have := HK1.out; omega⟩, by repeat (first | exact Drawn0.refl _ | apply Drawn0.step)⟩
          · rw [if_neg c4] at H
            exact absurd H (by simp)
        · rw [if_neg c3] at H
          exact absurd H (by simp)
      · rw [if_neg c2] at H
        have c2b0 : decide (x7_1 < (l0.length : Int)) = false := decide_eq_false c2
        clear c2
        obtain rfl := Option.some.inj H
        go_wp2
        go_ret
        exact ⟨by first | rfl | (simp; done) | (simp [*]; done), by repeat (first | exact Drawn0.refl _ | apply Drawn0.step)⟩

-- NOT PRINTED: function 8 (laws_pktWorks)

/-! ### spec_SameLines: function 9 -/
def spec_SameLines.l0 : Nat → List (List Int) → List (List Int) → Int → Int → Option (Bool)
  | 0, _, _, _, _ => none
  | k + 1, x0, x1, x12, x13 => if x13 < x12 then (if 0 ≤ x13 then (if x13 < (x0.length : Int) then (if x13 < (x1.length : Int) then (if (strOfNums (rd_L1 x0 x13)).toList = (strOfNums (rd_L1 x1 x13)).toList then (spec_SameLines.l0 k x0 x1 x12 (wrap64 (x13 + 1))) else (some false)) else (none)) else (none)) else (none)) else (some true)
def spec_SameLines.f (k : Nat) (l0 : List (List Int)) (l1 : List (List Int)) : Option (Bool) := if (l0.length : Int) = (l1.length : Int) then (spec_SameLines.l0 k l0 l1 (l0.length : Int) 0) else (some false)
theorem spec_SameLines.mono_l : ∀ k, (∀ y0 y1 y2 y3, LeO (spec_SameLines.l0 k y0 y1 y2 y3) (spec_SameLines.l0 (k + 1) y0 y1 y2 y3))
  | 0 => fun _ _ _ _ r h => by simp [spec_SameLines.l0] at h
  | k + 1 => by
    have ih0 := spec_SameLines.mono_l k
    · intro y0 y1 y2 y3
      unfold spec_SameLines.l0
      repeat' first
      | (with_reducible exact ih0 _ _ _ _)
      | (with_reducible exact LeO.refl _)
      | (with_reducible exact LeO.none _)
      | (with_reducible refine LeO.ite ?_ ?_)
      | (with_reducible refine LeO.bind ?_ (fun _ => ?_))
      | exact ih0 _ _ _ _
      | exact LeO.none _
      | refine LeO.ite ?_ ?_
      | refine LeO.bind ?_ (fun _ => ?_)
theorem spec_SameLines.mono : ∀ a0 a1 k, LeO (spec_SameLines.f k a0 a1) (spec_SameLines.f (k + 1) a0 a1) := by
  intro a0 a1 k
  have ih0 := spec_SameLines.mono_l k
  unfold spec_SameLines.f
  repeat' first
      | (with_reducible exact ih0 _ _ _ _)
      | (with_reducible exact LeO.refl _)
      | (with_reducible exact LeO.none _)
      | (with_reducible refine LeO.ite ?_ ?_)
      | (with_reducible refine LeO.bind ?_ (fun _ => ?_))
      | exact ih0 _ _ _ _
      | exact LeO.none _
      | refine LeO.ite ?_ ?_
      | refine LeO.bind ?_ (fun _ => ?_)
set_option maxHeartbeats 8000000 in
set_option maxRecDepth 100000 in
theorem spec_SameLines.calls (k : Nat) (A0 : Option Addr) (c0 : Nat) (l0 : List (List Int)) (A1 : Option Addr) (c1 : Nat) (l1 : List (List Int)) (r : Bool) (w : World) (hr0 : Kd.C (Kd.slice 5 (Kd.int .u8)) w A0 l0.length l0) (hc0 : l0.length ≤ c0) (hr1 : Kd.C (Kd.slice 5 (Kd.int .u8)) w A1 l1.length l1) (hc1 : l1.length ≤ c1) (h : spec_SameLines.f k l0 l1 = some r) :
    Calls Tryd.prog 9 #[.slice A0 l0.length c0, .slice A1 l1.length c1] w fun e w' => e = .returned (.bool r) ∧ Drawn0 w w' := by
  have HR0 := Aside0.mk hr0
  have HC0 := Aside0.mk hc0
  clear hr0 hc0
  have HR1 := Aside0.mk hr1
  have HC1 := Aside0.mk hc1
  clear hr1 hc1
  have H : (if (l0.length : Int) = (l1.length : Int) then (spec_SameLines.l0 k l0 l1 (l0.length : Int) 0) else (some false)) = some r := h
  clear h
  by_cases c3 : (l0.length : Int) = (l1.length : Int)
  · rw [if_pos c3] at H
    have c3b0 : ((l0.length : Int) == (l1.length : Int)) = true := beq_iff_eq.mpr c3
    have c3b1 : ((l0.length : Int) != (l1.length : Int)) = false := bne_eq_false_iff_eq.mpr c3
    have c3b2 : (l0.length == l1.length) = true := by first | simpa using c3 | (simp at c3 ⊢; omega)
    clear c3
    have H' := Aside0.mk H
    clear H
    go_enter Tryd.func9, Tryd.ntmps9
    go_wp2
    repeat (go_quiet (fail); try go_wp2)
    go_loopg [13] k (fun kq v13 w' => ∃ (x13_1 : Int), v13 = .int .i64 x13_1 ∧ Aside0 (spec_SameLines.l0 kq l0 l1 (l0.length : Int) x13_1 = some r) ∧ Aside0 (kq ≤ k) ∧ Drawn0 w w')
    case atStart => exact ⟨(0), (by first | rfl | (simp; done) | (simp [*]; done)), H', ⟨Nat.le_refl _⟩, by repeat (first | exact Drawn0.refl _ | apply Drawn0.step)⟩
    case round =>
      clear H'
      try clear c1
      try clear p2
      try clear c3
      try clear c3b0
      try clear c3b1
      try clear c3b2
      obtain ⟨x13_1, rfl, HA, HK1, ⟨m1, rfl⟩⟩ := hrel
      cases gk with
      | zero => exact absurd HA.out (by simp [spec_SameLines.l0])
      | succ k1 =>
        have H := HA.out
        clear HA
        simp only [spec_SameLines.l0] at H
        by_cases c4 : x13_1 < (l0.length : Int)
        · rw [if_pos c4] at H
          have c4b0 : decide (x13_1 < (l0.length : Int)) = true := decide_eq_true c4
          clear c4
          by_cases c5 : 0 ≤ x13_1
          · rw [if_pos c5] at H
            have c5b0 : decide (0 ≤ x13_1) = true := decide_eq_true c5
            clear c5
            by_cases c6 : x13_1 < (l0.length : Int)
            · rw [if_pos c6] at H
              have c6b0 : decide (x13_1 < (l0.length : Int)) = true := decide_eq_true c6
              clear c6
              by_cases c7 : x13_1 < (l1.length : Int)
              · rw [if_pos c7] at H
                have c7b0 : decide (x13_1 < (l1.length : Int)) = true := decide_eq_true c7
                clear c7
                by_cases c8 : (strOfNums (rd_L1 l0 x13_1)).toList = (strOfNums (rd_L1 l1 x13_1)).toList
                · rw [if_pos c8] at H
                  have c8b0 : ((strOfNums (rd_L1 l0 x13_1)).toList == (strOfNums (rd_L1 l1 x13_1)).toList) = true := beq_iff_eq.mpr c8
                  have c8b1 : ((strOfNums (rd_L1 l0 x13_1)).toList != (strOfNums (rd_L1 l1 x13_1)).toList) = false := bne_eq_false_iff_eq.mpr c8
                  clear c8
                  have H' := Aside0.mk H
                  clear H
                  have p143 : 0 ≤ (x13_1 : Int) := of_decide_eq_true (by first | (with_reducible assumption) | assumption)
                  have q143 : x13_1 < (l0.length : Int) := of_decide_eq_true (by first | (with_reducible assumption) | assumption)
                  obtain ⟨ad143, A143_0, c143_0, e143, hx143_0, hl143_0, hi143_0⟩ := at_L1 HR0.out x13_1 p143 q143
                  cases e143
                  have HR143_0 := Aside0.mk hi143_0
                  have HC143_0 := Aside0.mk hl143_0
                  clear hi143_0 hl143_0
                  replace p143 := eq_true p143
                  replace q143 := eq_true q143
                  have hcv9 := fun m_ : Nat => Kd.C_string (P := Tryd.prog) (A := A143_0) (c := c143_0) Tryd.underlying22 Tryd.underlying5 Tryd.underlying9 (Kd.C_drewN HR143_0.out m_)
                  have p144 : 0 ≤ (x13_1 : Int) := of_decide_eq_true (by first | (with_reducible assumption) | assumption)
                  have q144 : x13_1 < (l1.length : Int) := of_decide_eq_true (by first | (with_reducible assumption) | assumption)
                  obtain ⟨ad144, A144_0, c144_0, e144, hx144_0, hl144_0, hi144_0⟩ := at_L1 HR1.out x13_1 p144 q144
                  cases e144
                  have HR144_0 := Aside0.mk hi144_0
                  have HC144_0 := Aside0.mk hl144_0
                  clear hi144_0 hl144_0
                  replace p144 := eq_true p144
                  replace q144 := eq_true q144
                  have hcv10 := fun m_ : Nat => Kd.C_string (P := Tryd.prog) (A := A144_0) (c := c144_0) Tryd.underlying22 Tryd.underlying5 Tryd.underlying9 (Kd.C_drewN HR144_0.out m_)
                  go_wp2
                  repeat (go_quiet (fail); try go_wp2)
                  go_roundg k1
                  case measure => have := HK1.out; omega
                  case rel => exact ⟨(wrap64 (x13_1 + 1)), (by first | rfl | (simp; done) | (simp [*]; done)), H', ⟨by have := HK1.out; omega⟩, by repeat (first | exact Drawn0.refl _ | apply Drawn0.step)⟩
                · rw [if_neg c8] at H
                  have c8b0 : ((strOfNums (rd_L1 l0 x13_1)).toList == (strOfNums (rd_L1 l1 x13_1)).toList) = false := beq_eq_false_iff_ne.mpr c8
                  have c8b1 : ((strOfNums (rd_L1 l0 x13_1)).toList != (strOfNums (rd_L1 l1 x13_1)).toList) = true := bne_iff_ne.mpr c8
                  obtain rfl := Option.some.inj H
                  have p143 : 0 ≤ (x13_1 : Int) := of_decide_eq_true (by first | (with_reducible assumption) | assumption)
                  have q143 : x13_1 < (l0.length : Int) := of_decide_eq_true (by first | (with_reducible assumption) | assumption)
                  obtain ⟨ad143, A143_0, c143_0, e143, hx143_0, hl143_0, hi143_0⟩ := at_L1 HR0.out x13_1 p143 q143
                  cases e143
                  have HR143_0 := Aside0.mk hi143_0
                  have HC143_0 := Aside0.mk hl143_0
                  clear hi143_0 hl143_0
                  replace p143 := eq_true p143
                  replace q143 := eq_true q143
                  have hcv11 := fun m_ : Nat => Kd.C_string (P := Tryd.prog) (A := A143_0) (c := c143_0) Tryd.underlying22 Tryd.underlying5 Tryd.underlying9 (Kd.C_drewN HR143_0.out m_)
                  have p144 : 0 ≤ (x13_1 : Int) := of_decide_eq_true (by first | (with_reducible assumption) | assumption)
                  have q144 : x13_1 < (l1.length : Int) := of_decide_eq_true (by first | (with_reducible assumption) | assumption)
                  obtain ⟨ad144, A144_0, c144_0, e144, hx144_0, hl144_0, hi144_0⟩ := at_L1 HR1.out x13_1 p144 q144
                  cases e144
                  have HR144_0 := Aside0.mk hi144_0
                  have HC144_0 := Aside0.mk hl144_0
                  clear hi144_0 hl144_0
                  replace p144 := eq_true p144
                  replace q144 := eq_true q144
                  have hcv12 := fun m_ : Nat => Kd.C_string (P := Tryd.prog) (A := A144_0) (c := c144_0) Tryd.underlying22 Tryd.underlying5 Tryd.underlying9 (Kd.C_drewN HR144_0.out m_)
                  go_wp2
                  repeat (go_quiet (fail); try go_wp2)
                  go_ret
                  exact ⟨by first | rfl | (simp; done) | (simp [*]; done), by repeat (first | exact Drawn0.refl _ | apply Drawn0.step)⟩
              · rw [if_neg c7] at H
                exact absurd H (by simp)
            · rw [if_neg c6] at H
              exact absurd H (by simp)
          · rw [if_neg c5] at H
            exact absurd H (by simp)
        · rw [if_neg c4] at H
          have c4b0 : decide (x13_1 < (l0.length : Int)) = false := decide_eq_false c4
          clear c4
          obtain rfl := Option.some.inj H
          go_wp2
          repeat (go_quiet (fail); try go_wp2)
          go_ret
          exact ⟨by first | rfl | (simp; done) | (simp [*]; done), by repeat (first | exact Drawn0.refl _ | apply Drawn0.step)⟩
  · rw [if_neg c3] at H
    have c3b0 : ((l0.length : Int) == (l1.length : Int)) = false := beq_eq_false_iff_ne.mpr c3
    have c3b1 : ((l0.length : Int) != (l1.length : Int)) = true := bne_iff_ne.mpr c3
    have c3b2 : (l0.length == l1.length) = false := by first | simpa using c3 | (simp at c3 ⊢; omega)
    obtain rfl := Option.some.inj H
    go_enter Tryd.func9, Tryd.ntmps9
    go_wp2
    repeat (go_quiet (fail); try go_wp2)
    go_ret
    exact ⟨by first | rfl | (simp; done) | (simp [*]; done), by repeat (first | exact Drawn0.refl _ | apply Drawn0.step)⟩

-- NOT PRINTED: function 3 (laws_FnPktAny)

end Go.Proofs.YtmpinpndfllcdaaDoor.PFnPktAny
