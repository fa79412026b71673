-- PRINTED BY print.sh 35421559b90ae4d0a3588c463048766b98c2df88dd9212a6774a882060cdf62d: not written by this session
import Derived.Test.YtbiflpbajgafaaaPFnIgnoreRootx0
namespace Go.Proofs.Ytbiflpbajgafaaa.PFnIgnoreRoot
open Go.RowKit Go.Proofs.YtbiflpbajgafaaaW.PrintWords Go.Proofs.YtbiflpbajgafaaaW.PrintLast Go.Proofs.YtbiflpbajgafaaaW.PrintMore
attribute [local go_sem] max2_int min2_int max_two min_two max_three min_three max_four min_four   -- for this text's walks alone
set_option linter.unusedVariables false
set_option linter.unusedSimpArgs false

/-! ### spec_IsGlob: function 7 -/
mutual
def spec_IsGlob.l0 : Nat → ByteArray → Int → Int → Int → Option (Bool)
  | 0, _, _, _, _ => none
  | k + 1, x0, x3, x7, x8 => if x8 < x7 then (if 0 ≤ x8 then (if x8 < (x0.size : Int) then (if (bt x0 x8) ≥ 97 then (if (bt x0 x8) ≤ 122 then (spec_IsGlob.j1 k x0 x3 x8 (bt x0 x8) x7 x8 (!true)) else (if (bt x0 x8) ≥ 65 then (if (bt x0 x8) ≤ 90 then (spec_IsGlob.j1 k x0 x3 x8 (bt x0 x8) x7 x8 (!true)) else (if (bt x0 x8) ≥ 48 then (if (bt x0 x8) ≤ 57 then (spec_IsGlob.j1 k x0 x3 x8 (bt x0 x8) x7 x8 (!true)) else (if (bt x0 x8) = 46 then (spec_IsGlob.j1 k x0 x3 x8 (bt x0 x8) x7 x8 (!true)) else (if (bt x0 x8) = 42 then (spec_IsGlob.j1 k x0 x3 x8 (bt x0 x8) x7 x8 (!true)) else (spec_IsGlob.j1 k x0 x3 x8 (bt x0 x8) x7 x8 (!((bt x0 x8) == 63)))))) else (if (bt x0 x8) = 46 then (spec_IsGlob.j1 k x0 x3 x8 (bt x0 x8) x7 x8 (!true)) else (if (bt x0 x8) = 42 then (spec_IsGlob.j1 k x0 x3 x8 (bt x0 x8) x7 x8 (!true)) else (spec_IsGlob.j1 k x0 x3 x8 (bt x0 x8) x7 x8 (!((bt x0 x8) == 63))))))) else (if (bt x0 x8) ≥ 48 then (if (bt x0 x8) ≤ 57 then (spec_IsGlob.j1 k x0 x3 x8 (bt x0 x8) x7 x8 (!true)) else (if (bt x0 x8) = 46 then (spec_IsGlob.j1 k x0 x3 x8 (bt x0 x8) x7 x8 (!true)) else (if (bt x0 x8) = 42 then (spec_IsGlob.j1 k x0 x3 x8 (bt x0 x8) x7 x8 (!true)) else (spec_IsGlob.j1 k x0 x3 x8 (bt x0 x8) x7 x8 (!((bt x0 x8) == 63)))))) else (if (bt x0 x8) = 46 then (spec_IsGlob.j1 k x0 x3 x8 (bt x0 x8) x7 x8 (!true)) else (if (bt x0 x8) = 42 then (spec_IsGlob.j1 k x0 x3 x8 (bt x0 x8) x7 x8 (!true)) else (spec_IsGlob.j1 k x0 x3 x8 (bt x0 x8) x7 x8 (!((bt x0 x8) == 63)))))))) else (if (bt x0 x8) ≥ 65 then (if (bt x0 x8) ≤ 90 then (spec_IsGlob.j1 k x0 x3 x8 (bt x0 x8) x7 x8 (!true)) else (if (bt x0 x8) ≥ 48 then (if (bt x0 x8) ≤ 57 then (spec_IsGlob.j1 k x0 x3 x8 (bt x0 x8) x7 x8 (!true)) else (if (bt x0 x8) = 46 then (spec_IsGlob.j1 k x0 x3 x8 (bt x0 x8) x7 x8 (!true)) else (if (bt x0 x8) = 42 then (spec_IsGlob.j1 k x0 x3 x8 (bt x0 x8) x7 x8 (!true)) else (spec_IsGlob.j1 k x0 x3 x8 (bt x0 x8) x7 x8 (!((bt x0 x8) == 63)))))) else (if (bt x0 x8) = 46 then (spec_IsGlob.j1 k x0 x3 x8 (bt x0 x8) x7 x8 (!true)) else (if (bt x0 x8) = 42 then (spec_IsGlob.j1 k x0 x3 x8 (bt x0 x8) x7 x8 (!true)) else (spec_IsGlob.j1 k x0 x3 x8 (bt x0 x8) x7 x8 (!((bt x0 x8) == 63))))))) else (if (bt x0 x8) ≥ 48 then (if (bt x0 x8) ≤ 57 then (spec_IsGlob.j1 k x0 x3 x8 (bt x0 x8) x7 x8 (!true)) else (if (bt x0 x8) = 46 then (spec_IsGlob.j1 k x0 x3 x8 (bt x0 x8) x7 x8 (!true)) else (if (bt x0 x8) = 42 then (spec_IsGlob.j1 k x0 x3 x8 (bt x0 x8) x7 x8 (!true)) else (spec_IsGlob.j1 k x0 x3 x8 (bt x0 x8) x7 x8 (!((bt x0 x8) == 63)))))) else (if (bt x0 x8) = 46 then (spec_IsGlob.j1 k x0 x3 x8 (bt x0 x8) x7 x8 (!true)) else (if (bt x0 x8) = 42 then (spec_IsGlob.j1 k x0 x3 x8 (bt x0 x8) x7 x8 (!true)) else (spec_IsGlob.j1 k x0 x3 x8 (bt x0 x8) x7 x8 (!((bt x0 x8) == 63)))))))) else (none)) else (none)) else (if x0.toList = ([] : List UInt8) then (some false) else (if (x0.size : Int) ≤ 40 then (some (decide (x3 ≤ 4))) else (some false)))
def spec_IsGlob.j1 : Nat → ByteArray → Int → Int → Int → Int → Int → Bool → Option (Bool)
  | 0, _, _, _, _, _, _, _ => none
  | k + 1, x0, x3, x4, x5, x7, x8, x48 => if x48 = true then (some false) else (if x4 > 0 then (if x5 = 42 then (if 0 ≤ (wrap64 (x4 - 1)) then (if (wrap64 (x4 - 1)) < (x0.size : Int) then (spec_IsGlob.j2 k x0 x3 x5 x7 x8 ((bt x0 (wrap64 (x4 - 1))) == 42)) else (none)) else (none)) else (spec_IsGlob.j2 k x0 x3 x5 x7 x8 false)) else (spec_IsGlob.j2 k x0 x3 x5 x7 x8 false))
def spec_IsGlob.j2 : Nat → ByteArray → Int → Int → Int → Int → Bool → Option (Bool)
  | 0, _, _, _, _, _, _ => none
  | k + 1, x0, x3, x5, x7, x8, x61 => if x61 = true then (some false) else (if x5 = 42 then (spec_IsGlob.l0 k x0 (wrap64 (x3 + 1)) x7 (wrap64 (x8 + 1))) else (spec_IsGlob.l0 k x0 x3 x7 (wrap64 (x8 + 1))))
end
def spec_IsGlob.f (k : Nat) (a0 : ByteArray) : Option (Bool) := spec_IsGlob.l0 k a0 0 (a0.size : Int) 0
theorem spec_IsGlob.mono_l : ∀ k, (∀ y0 y1 y2 y3, LeO (spec_IsGlob.l0 k y0 y1 y2 y3) (spec_IsGlob.l0 (k + 1) y0 y1 y2 y3)) ∧ (∀ y0 y1 y2 y3 y4 y5 y6, LeO (spec_IsGlob.j1 k y0 y1 y2 y3 y4 y5 y6) (spec_IsGlob.j1 (k + 1) y0 y1 y2 y3 y4 y5 y6)) ∧ (∀ y0 y1 y2 y3 y4 y5, LeO (spec_IsGlob.j2 k y0 y1 y2 y3 y4 y5) (spec_IsGlob.j2 (k + 1) y0 y1 y2 y3 y4 y5))
  | 0 => ⟨fun _ _ _ _ r h => by simp [spec_IsGlob.l0] at h, fun _ _ _ _ _ _ _ r h => by simp [spec_IsGlob.j1] at h, fun _ _ _ _ _ _ r h => by simp [spec_IsGlob.j2] at h⟩
  | k + 1 => by
    obtain ⟨ih0, ih1, ih2⟩ := spec_IsGlob.mono_l k
    refine ⟨?_, ?_, ?_⟩
    · intro y0 y1 y2 y3
      unfold spec_IsGlob.l0
      repeat' first
      | (with_reducible exact ih0 _ _ _ _)
      | (with_reducible exact ih1 _ _ _ _ _ _ _)
      | (with_reducible exact ih2 _ _ _ _ _ _)
      | (with_reducible exact LeO.refl _)
      | (with_reducible exact LeO.none _)
      | (with_reducible refine LeO.ite ?_ ?_)
      | (with_reducible refine LeO.bind ?_ (fun _ => ?_))
      | exact ih0 _ _ _ _
      | exact ih1 _ _ _ _ _ _ _
      | exact ih2 _ _ _ _ _ _
      | exact LeO.none _
      | refine LeO.ite ?_ ?_
      | refine LeO.bind ?_ (fun _ => ?_)
    · intro y0 y1 y2 y3 y4 y5 y6
      unfold spec_IsGlob.j1
      repeat' first
      | (with_reducible exact ih0 _ _ _ _)
      | (with_reducible exact ih1 _ _ _ _ _ _ _)
      | (with_reducible exact ih2 _ _ _ _ _ _)
      | (with_reducible exact LeO.refl _)
      | (with_reducible exact LeO.none _)
      | (with_reducible refine LeO.ite ?_ ?_)
      | (with_reducible refine LeO.bind ?_ (fun _ => ?_))
      | exact ih0 _ _ _ _
      | exact ih1 _ _ _ _ _ _ _
      | exact ih2 _ _ _ _ _ _
      | exact LeO.none _
      | refine LeO.ite ?_ ?_
      | refine LeO.bind ?_ (fun _ => ?_)
    · intro y0 y1 y2 y3 y4 y5
      unfold spec_IsGlob.j2
      repeat' first
      | (with_reducible exact ih0 _ _ _ _)
      | (with_reducible exact ih1 _ _ _ _ _ _ _)
      | (with_reducible exact ih2 _ _ _ _ _ _)
      | (with_reducible exact LeO.refl _)
      | (with_reducible exact LeO.none _)
      | (with_reducible refine LeO.ite ?_ ?_)
      | (with_reducible refine LeO.bind ?_ (fun _ => ?_))
      | exact ih0 _ _ _ _
      | exact ih1 _ _ _ _ _ _ _
      | exact ih2 _ _ _ _ _ _
      | exact LeO.none _
      | refine LeO.ite ?_ ?_
      | refine LeO.bind ?_ (fun _ => ?_)
theorem spec_IsGlob.mono : ∀ a0 k, LeO (spec_IsGlob.f k a0) (spec_IsGlob.f (k + 1) a0) := by
  intro a0 k
  obtain ⟨ih0, ih1, ih2⟩ := spec_IsGlob.mono_l k
  unfold spec_IsGlob.f
  repeat' first
      | (with_reducible exact ih0 _ _ _ _)
      | (with_reducible exact ih1 _ _ _ _ _ _ _)
      | (with_reducible exact ih2 _ _ _ _ _ _)
      | (with_reducible exact LeO.refl _)
      | (with_reducible exact LeO.none _)
      | (with_reducible refine LeO.ite ?_ ?_)
      | (with_reducible refine LeO.bind ?_ (fun _ => ?_))
      | exact ih0 _ _ _ _
      | exact ih1 _ _ _ _ _ _ _
      | exact ih2 _ _ _ _ _ _
      | exact LeO.none _
      | refine LeO.ite ?_ ?_
      | refine LeO.bind ?_ (fun _ => ?_)
set_option maxHeartbeats 8000000 in
set_option maxRecDepth 100000 in
theorem spec_IsGlob.calls (k : Nat) (a0 : ByteArray) (r : Bool) (w : World) (h : spec_IsGlob.f k a0 = some r) :
    Calls Try.prog 7 #[.string a0] w fun e w' => e = .returned (.bool r) ∧ Drawn0 w w' := by
  have H : (spec_IsGlob.l0 k a0 0 (a0.size : Int) 0) = some r := h
  clear h
  have H' := Aside0.mk H
  clear H
  go_enter Try.func7, Try.ntmps7
  go_wp2
  go_loopg [3, 8] k (fun kq v3 v8 w' => ∃ (x3_1 : Int) (x8_1 : Int), v3 = .int .i64 x3_1 ∧ v8 = .int .i64 x8_1 ∧ Aside0 (spec_IsGlob.l0 kq a0 x3_1 (a0.size : Int) x8_1 = some r) ∧ Aside0 (kq ≤ k) ∧ Drawn0 w w')
  case atStart => exact ⟨(0), (0), (by first | rfl | (simp; done) | (simp [*]; done)), (by first | rfl | (simp; done) | (simp [*]; done)), H', ⟨Nat.le_refl _⟩, by repeat (first | exact Drawn0.refl _ | apply Drawn0.step)⟩
  case round =>
    clear H'
    obtain ⟨x3_1, x8_1, rfl, rfl, HA, HK1, ⟨m1, rfl⟩⟩ := hrel
    cases gk with
    | zero => exact absurd HA.out (by simp [spec_IsGlob.l0])
    | succ k1 =>
      have H := HA.out
      clear HA
      simp only [spec_IsGlob.l0] at H
      by_cases c2 : x8_1 < (a0.size : Int)
      · rw [if_pos c2] at H
        have c2b0 : decide (x8_1 < (a0.size : Int)) = true := decide_eq_true c2
        clear c2
        by_cases c3 : 0 ≤ x8_1
        · rw [if_pos c3] at H
          have c3b0 : decide (0 ≤ x8_1) = true := decide_eq_true c3
          clear c3
          by_cases c4 : x8_1 < (a0.size : Int)
          · rw [if_pos c4] at H
            have c4b0 : decide (x8_1 < (a0.size : Int)) = true := decide_eq_true c4
            clear c4
            have HC6 := Aside0.mk H
            clear H
            have p5 : 0 ≤ (x8_1 : Int) := of_decide_eq_true (by first | (with_reducible assumption) | assumption)
            have q5 : x8_1 < (a0.size : Int) := of_decide_eq_true (by first | (with_reducible assumption) | assumption)
            have hx5 := bt_at a0 x8_1
            replace p5 := eq_true p5
            replace q5 := eq_true q5
            go_upto_region 6 with (fail)
            go_cut [48] (fun v48 wc => ∃ (kq : Nat) (x48_5 : Bool), v48 = .bool x48_5 ∧ Aside0 (spec_IsGlob.j1 kq a0 x3_1 x8_1 (bt a0 x8_1) (a0.size : Int) x8_1 x48_5 = some r) ∧ Aside0 (kq ≤ k1) ∧ Drawn0 w wc)
            case first =>
              have H := HC6.out
              clear HC6
              by_cases c7 : (bt a0 x8_1) ≥ 97
              · rw [if_pos c7] at H
                have c7b0 : decide (97 ≤ (bt a0 x8_1)) = true := decide_eq_true c7
                clear c7
                (first | rw [c7b0] | (simp only [i64_w, i32_w]; rw [c7b0]) | skip)
                by_cases c8 : (bt a0 x8_1) ≤ 122
                · rw [if_pos c8] at H
                  have c8b0 : decide ((bt a0 x8_1) ≤ 122) = true := decide_eq_true c8
                  clear c8
                  have H' := Aside0.mk H
                  clear H
                  go_wp2
                  go_meet
                  case rel => exact ⟨_, (!true), (by first | rfl | (simp; done) | (simp [*]; done)), H', ⟨by have := HK1.out; first | omega | exact Nat.le_refl _⟩, by repeat (first | exact Drawn0.refl _ | apply Drawn0.step)⟩
                · rw [if_neg c8] at H
                  have c8b0 : decide ((bt a0 x8_1) ≤ 122) = false := decide_eq_false c8
                  clear c8
                  by_cases c9 : (bt a0 x8_1) ≥ 65
                  · rw [if_pos c9] at H
                    have c9b0 : decide (65 ≤ (bt a0 x8_1)) = true := decide_eq_true c9
                    clear c9
                    by_cases c10 : (bt a0 x8_1) ≤ 90
                    · rw [if_pos c10] at H
                      have c10b0 : decide ((bt a0 x8_1) ≤ 90) = true := decide_eq_true c10
                      clear c10
                      have H' := Aside0.mk H
                      clear H
                      go_wp2
                      go_meet
                      case rel => exact ⟨_, (!true), (by first | rfl | (simp; done) | (simp [*]; done)), H', ⟨by have := HK1.out; first | omega | exact Nat.le_refl _⟩, by repeat (first | exact Drawn0.refl _ | apply Drawn0.step)⟩
                    · rw [if_neg c10] at H
                      have c10b0 : decide ((bt a0 x8_1) ≤ 90) = false := decide_eq_false c10
                      clear c10
                      by_cases c11 : (bt a0 x8_1) ≥ 48
                      · rw [if_pos c11] at H
                        have c11b0 : decide (48 ≤ (bt a0 x8_1)) = true := decide_eq_true c11
                        clear c11
                        by_cases c12 : (bt a0 x8_1) ≤ 57
                        · rw [if_pos c12] at H
                          have c12b0 : decide ((bt a0 x8_1) ≤ 57) = true := decide_eq_true c12
                          clear c12
                          have H' := Aside0.mk H
                          clear H
                          go_wp2
                          go_meet
                          case rel => exact ⟨_, (!true), (by first | rfl | (simp; done) | (simp [*]; done)), H', ⟨by have := HK1.out; first | omega | exact Nat.le_refl _⟩, by repeat (first | exact Drawn0.refl _ | apply Drawn0.step)⟩
                        · rw [if_neg c12] at H
                          have c12b0 : decide ((bt a0 x8_1) ≤ 57) = false := decide_eq_false c12
                          clear c12
                          by_cases c13 : (bt a0 x8_1) = 46
                          · rw [if_pos c13] at H
                            have c13b0 : ((bt a0 x8_1) == 46) = true := beq_iff_eq.mpr c13
                            have c13b1 : ((bt a0 x8_1) != 46) = false := bne_eq_false_iff_eq.mpr c13
                            clear c13
                            have H' := Aside0.mk H
                            clear H
                            go_wp2
                            go_meet
                            case rel => exact ⟨_, (!true), (by first | rfl | (simp; done) | (simp [*]; done)), H', ⟨by have := HK1.out; first | omega | exact Nat.le_refl _⟩, by repeat (first | exact Drawn0.refl _ | apply Drawn0.step)⟩
                          · rw [if_neg c13] at H
                            have c13b0 : ((bt a0 x8_1) == 46) = false := beq_eq_false_iff_ne.mpr c13
                            have c13b1 : ((bt a0 x8_1) != 46) = true := bne_iff_ne.mpr c13
                            by_cases c14 : (bt a0 x8_1) = 42
                            · rw [if_pos c14] at H
                              have c14b0 : ((bt a0 x8_1) == 42) = true := beq_iff_eq.mpr c14
                              have c14b1 : ((bt a0 x8_1) != 42) = false := bne_eq_false_iff_eq.mpr c14
                              clear c14
                              have H' := Aside0.mk H
                              clear H
                              go_wp2
                              go_meet
                              case rel => exact ⟨_, (!true), (by first | rfl | (simp; done) | (simp [*]; done)), H', ⟨by have := HK1.out; first | omega | exact Nat.le_refl _⟩, by repeat (first | exact Drawn0.refl _ | apply Drawn0.step)⟩
                            · rw [if_neg c14] at H
                              have c14b0 : ((bt a0 x8_1) == 42) = false := beq_eq_false_iff_ne.mpr c14
                              have c14b1 : ((bt a0 x8_1) != 42) = true := bne_iff_ne.mpr c14
                              have H' := Aside0.mk H
                              clear H
                              go_wp2
                              go_meet
                              case rel => exact ⟨_, (!((bt a0 x8_1) == 63)), (by first | rfl | (simp; done) | (simp [*]; done)), H', ⟨by have := HK1.out; first | omega | exact Nat.le_refl _⟩, by repeat (first | exact Drawn0.refl _ | apply Drawn0.step)⟩
                      · rw [if_neg c11] at H
                        have c11b0 : decide (48 ≤ (bt a0 x8_1)) = false := decide_eq_false c11
                        clear c11
                        by_cases c15 : (bt a0 x8_1) = 46
                        · rw [if_pos c15] at H
                          have c15b0 : ((bt a0 x8_1) == 46) = true := beq_iff_eq.mpr c15
                          have c15b1 : ((bt a0 x8_1) != 46) = false := bne_eq_false_iff_eq.mpr c15
                          clear c15
                          have H' := Aside0.mk H
                          clear H
                          go_wp2
                          go_meet
                          case rel => exact ⟨_, (!true), (by first | rfl | (simp; done) | (simp [*]; done)), H', ⟨by have := HK1.out; first | omega | exact Nat.le_refl _⟩, by repeat (first | exact Drawn0.refl _ | apply Drawn0.step)⟩
                        · rw [if_neg c15] at H
                          have c15b0 : ((bt a0 x8_1) == 46) = false := beq_eq_false_iff_ne.mpr c15
                          have c15b1 : ((bt a0 x8_1) != 46) = true := bne_iff_ne.mpr c15
                          by_cases c16 : (bt a0 x8_1) = 42
                          · rw [if_pos c16] at H
                            have c16b0 : ((bt a0 x8_1) == 42) = true := beq_iff_eq.mpr c16
                            have c16b1 : ((bt a0 x8_1) != 42) = false := bne_eq_false_iff_eq.mpr c16
                            clear c16
                            have H' := Aside0.mk H
                            clear H
                            go_wp2
                            go_meet
                            case rel => exact ⟨_, (!true), (by first | rfl | (simp; done) | (simp [*]; done)), H', ⟨by have := HK1.out; first | omega | exact Nat.le_refl _⟩, by repeat (first | exact Drawn0.refl _ | apply Drawn0.step)⟩
                          · rw [if_neg c16] at H
                            have c16b0 : ((bt a0 x8_1) == 42) = false := beq_eq_false_iff_ne.mpr c16
                            have c16b1 : ((bt a0 x8_1) != 42) = true := bne_iff_ne.mpr c16
                            have H' := Aside0.mk H
                            clear H
                            go_wp2
                            go_meet
                            case rel => exact ⟨_, (!((bt a0 x8_1) == 63)), (by first | rfl | (simp; done) | (simp [*]; done)), H', ⟨by have := HK1.out; first | omega | exact Nat.le_refl _⟩, by repeat (first | exact Drawn0.refl _ | apply Drawn0.step)⟩
                  · rw [if_neg c9] at H
                    have c9b0 : decide (65 ≤ (bt a0 x8_1)) = false := decide_eq_false c9
                    clear c9
                    by_cases c17 : (bt a0 x8_1) ≥ 48
                    · rw [if_pos c17] at H
                      have c17b0 : decide (48 ≤ (bt a0 x8_1)) = true := decide_eq_true c17
                      clear c17
                      by_cases c18 : (bt a0 x8_1) ≤ 57
                      · rw [if_pos c18] at H
                        have c18b0 : decide ((bt a0 x8_1) ≤ 57) = true := decide_eq_true c18
                        clear c18
                        have H' := Aside0.mk H
                        clear H
                        go_wp2
                        go_meet
                        case rel => exact ⟨_, (!true), (by first | rfl | (simp; done) | (simp [*]; done)), H', ⟨by have := HK1.out; first | omega | exact Nat.le_refl _⟩, by repeat (first | exact Drawn0.refl _ | apply Drawn0.step)⟩
                      · rw [if_neg c18] at H
                        have c18b0 : decide ((bt a0 x8_1) ≤ 57) = false := decide_eq_false c18
                        clear c18
                        by_cases c19 : (bt a0 x8_1) = 46
                        · rw [if_pos c19] at H
                          have c19b0 : ((bt a0 x8_1) == 46) = true := beq_iff_eq.mpr c19
                          have c19b1 : ((bt a0 x8_1) != 46) = false := bne_eq_false_iff_eq.mpr c19
                          clear c19
                          have H' := Aside0.mk H
                          clear H
                          go_wp2
                          go_meet
                          case rel => exact ⟨_, (!true), (by first | rfl | (simp; done) | (simp [*]; done)), H', ⟨by have := HK1.out; first | omega | exact Nat.le_refl _⟩, by repeat (first | exact Drawn0.refl _ | apply Drawn0.step)⟩
                        · rw [if_neg c19] at H
                          have c19b0 : ((bt a0 x8_1) == 46) = false := beq_eq_false_iff_ne.mpr c19
                          have c19b1 : ((bt a0 x8_1) != 46) = true := bne_iff_ne.mpr c19
                          by_cases c20 : (bt a0 x8_1) = 42
                          · rw [if_pos c20] at H
                            have c20b0 : ((bt a0 x8_1) == 42) = true := beq_iff_eq.mpr c20
                            have c20b1 : ((bt a0 x8_1) != 42) = false := bne_eq_false_iff_eq.mpr c20
                            clear c20
                            have H' := Aside0.mk H
                            clear H
                            go_wp2
                            go_meet
                            case rel => exact ⟨_, (!true), (by first | rfl | (simp; done) | (simp [*]; done)), H', ⟨by have := HK1.out; first | omega | exact Nat.le_refl _⟩, by repeat (first | exact Drawn0.refl _ | apply Drawn0.step)⟩
                          · rw [if_neg c20] at H
                            have c20b0 : ((bt a0 x8_1) == 42) = false := beq_eq_false_iff_ne.mpr c20
                            have c20b1 : ((bt a0 x8_1) != 42) = true := bne_iff_ne.mpr c20
                            have H' := Aside0.mk H
                            clear H
                            go_wp2
                            go_meet
                            case rel => exact ⟨_, (!((bt a0 x8_1) == 63)), (by first | rfl | (simp; done) | (simp [*]; done)), H', ⟨by have := HK1.out; first | omega | exact Nat.le_refl _⟩, by repeat (first | exact Drawn0.refl _ | apply Drawn0.step)⟩
                    · rw [if_neg c17] at H
                      have c17b0 : decide (48 ≤ (bt a0 x8_1)) = false := decide_eq_false c17
                      clear c17
                      by_cases c21 : (bt a0 x8_1) = 46
                      · rw [if_pos c21] at H
                        have c21b0 : ((bt a0 x8_1) == 46) = true := beq_iff_eq.mpr c21
                        have c21b1 : ((bt a0 x8_1) != 46) = false := bne_eq_false_iff_eq.mpr c21
                        clear c21
                        have H' := Aside0.mk H
                        clear H
                        go_wp2
                        go_meet
                        case rel => exact ⟨_, (!true), (by first | rfl | (simp; done) | (simp [*]; done)), H', ⟨by have := HK1.out; first | omega | exact Nat.le_refl _⟩, by repeat (first | exact Drawn0.refl _ | apply Drawn0.step)⟩
                      · rw [if_neg c21] at H
                        have c21b0 : ((bt a0 x8_1) == 46) = false := beq_eq_false_iff_ne.mpr c21
                        have c21b1 : ((bt a0 x8_1) != 46) = true := bne_iff_ne.mpr c21
                        by_cases c22 : (bt a0 x8_1) = 42
                        · rw [if_pos c22] at H
                          have c22b0 : ((bt a0 x8_1) == 42) = true := beq_iff_eq.mpr c22
                          have c22b1 : ((bt a0 x8_1) != 42) = false := bne_eq_false_iff_eq.mpr c22
                          clear c22
                          have H' := Aside0.mk H
                          clear H
                          go_wp2
                          go_meet
                          case rel => exact ⟨_, (!true), (by first | rfl | (simp; done) | (simp [*]; done)), H', ⟨by have := HK1.out; first | omega | exact Nat.le_refl _⟩, by repeat (first | exact Drawn0.refl _ | apply Drawn0.step)⟩
                        · rw [if_neg c22] at H
                          have c22b0 : ((bt a0 x8_1) == 42) = false := beq_eq_false_iff_ne.mpr c22
                          have c22b1 : ((bt a0 x8_1) != 42) = true := bne_iff_ne.mpr c22
                          have H' := Aside0.mk H
                          clear H
                          go_wp2
                          go_meet
                          case rel => exact ⟨_, (!((bt a0 x8_1) == 63)), (by first | rfl | (simp; done) | (simp [*]; done)), H', ⟨by have := HK1.out; first | omega | exact Nat.le_refl _⟩, by repeat (first | exact Drawn0.refl _ | apply Drawn0.step)⟩
              · rw [if_neg c7] at H
                have c7b0 : decide (97 ≤ (bt a0 x8_1)) = false := decide_eq_false c7
                clear c7
                (first | rw [c7b0] | (simp only [i64_w, i32_w]; rw [c7b0]) | skip)
                by_cases c23 : (bt a0 x8_1) ≥ 65
                · rw [if_pos c23] at H
                  have c23b0 : decide (65 ≤ (bt a0 x8_1)) = true := decide_eq_true c23
                  clear c23
                  by_cases c24 : (bt a0 x8_1) ≤ 90
                  · rw [if_pos c24] at H
                    have c24b0 : decide ((bt a0 x8_1) ≤ 90) = true := decide_eq_true c24
                    clear c24
                    have H' := Aside0.mk H
                    clear H
                    go_wp2
                    go_meet
                    case rel => exact ⟨_, (!true), (by first | rfl | (simp; done) | (simp [*]; done)), H', ⟨by have := HK1.out; first | omega | exact Nat.le_refl _⟩, by repeat (first | exact Drawn0.refl _ | apply Drawn0.step)⟩
                  · rw [if_neg c24] at H
                    have c24b0 : decide ((bt a0 x8_1) ≤ 90) = false := decide_eq_false c24
                    clear c24
                    by_cases c25 : (bt a0 x8_1) ≥ 48
                    · rw [if_pos c25] at H
                      have c25b0 : decide (48 ≤ (bt a0 x8_1)) = true := decide_eq_true c25
                      clear c25
                      by_cases c26 : (bt a0 x8_1) ≤ 57
                      · rw [if_pos c26] at H
                        have c26b0 : decide ((bt a0 x8_1) ≤ 57) = true := decide_eq_true c26
                        clear c26
                        have H' := Aside0.mk H
                        clear H
                        go_wp2
                        go_meet
                        case rel => exact ⟨_, (!true), (by first | rfl | (simp; done) | (simp [*]; done)), H', ⟨by have := HK1.out; first | omega | exact Nat.le_refl _⟩, by repeat (first | exact Drawn0.refl _ | apply Drawn0.step)⟩
                      · rw [if_neg c26] at H
                        have c26b0 : decide ((bt a0 x8_1) ≤ 57) = false := decide_eq_false c26
                        clear c26
                        by_cases c27 : (bt a0 x8_1) = 46
                        · rw [if_pos c27] at H
                          have c27b0 : ((bt a0 x8_1) == 46) = true := beq_iff_eq.mpr c27
                          have c27b1 : ((bt a0 x8_1) != 46) = false := bne_eq_false_iff_eq.mpr c27
                          clear c27
                          have H' := Aside0.mk H
                          clear H
                          go_wp2
                          go_meet
                          case rel => exact ⟨_, (!true), (by first | rfl | (simp; done) | (simp [*]; done)), H', ⟨by have := HK1.out; first | omega | exact Nat.le_refl _⟩, by repeat (first | exact Drawn0.refl _ | apply Drawn0.step)⟩
                        · rw [if_neg c27] at H
                          have c27b0 : ((bt a0 x8_1) == 46) = false := beq_eq_false_iff_ne.mpr c27
                          have c27b1 : ((bt a0 x8_1) != 46) = true := bne_iff_ne.mpr c27
                          by_cases c28 : (bt a0 x8_1) = 42
                          · rw [if_pos c28] at H
                            have c28b0 : ((bt a0 x8_1) == 42) = true := beq_iff_eq.mpr c28
                            have c28b1 : ((bt a0 x8_1) != 42) = false := bne_eq_false_iff_eq.mpr c28
                            clear c28
                            have H' := Aside0.mk H
                            clear H
                            go_wp2
                            go_meet
                            case rel => exact ⟨_, (!true), (by first | rfl | (simp; done) | (simp [*]; done)), H', ⟨by have := HK1.out; first | omega | exact Nat.le_refl _⟩, by repeat (first | exact Drawn0.refl _ | apply Drawn0.step)⟩
                          · rw [if_neg c28] at H
                            have c28b0 : ((bt a0 x8_1) == 42) = false := beq_eq_false_iff_ne.mpr c28
                            have c28b1 : ((bt a0 x8_1) != 42) = true := bne_iff_ne.mpr c28
                            have H' := Aside0.mk H
                            clear H
                            go_wp2
                            go_meet
                            case rel => exact ⟨_, (!((bt a0 x8_1) == 63)), (by first | rfl | (simp; done) | (simp [*]; done)), H', ⟨by have := HK1.out; first | omega | exact Nat.le_refl _⟩, by repeat (first | exact Drawn0.refl _ | apply Drawn0.step)⟩
                    · rw [if_neg c25] at H
                      have c25b0 : decide (48 ≤ (bt a0 x8_1)) = false := decide_eq_false c25
                      clear c25
                      by_cases c29 : (bt a0 x8_1) = 46
                      · rw [if_pos c29] at H
                        have c29b0 : ((bt a0 x8_1) == 46) = true := beq_iff_eq.mpr c29
                        have c29b1 : ((bt a0 x8_1) != 46) = false := bne_eq_false_iff_eq.mpr c29
                        clear c29
                        have H' := Aside0.mk H
                        clear H
                        go_wp2
                        go_meet
                        case rel => exact ⟨_, (!true), (by first | rfl | (simp; done) | (simp [*]; done)), H', ⟨by have := HK1.out; first | omega | exact Nat.le_refl _⟩, by repeat (first | exact Drawn0.refl _ | apply Drawn0.step)⟩
                      · rw [if_neg c29] at H
                        have c29b0 : ((bt a0 x8_1) == 46) = false := beq_eq_false_iff_ne.mpr c29
                        have c29b1 : ((bt a0 x8_1) != 46) = true := bne_iff_ne.mpr c29
                        by_cases c30 : (bt a0 x8_1) = 42
                        · rw [if_pos c30] at H
                          have c30b0 : ((bt a0 x8_1) == 42) = true := beq_iff_eq.mpr c30
                          have c30b1 : ((bt a0 x8_1) != 42) = false := bne_eq_false_iff_eq.mpr c30
                          clear c30
                          have H' := Aside0.mk H
                          clear H
                          go_wp2
                          go_meet
                          case rel => exact ⟨_, (!true), (by first | rfl | (simp; done) | (simp [*]; done)), H', ⟨by have := HK1.out; first | omega | exact Nat.le_refl _⟩, by repeat (first | exact Drawn0.refl _ | apply Drawn0.step)⟩
                        · rw [if_neg c30] at H
                          have c30b0 : ((bt a0 x8_1) == 42) = false := beq_eq_false_iff_ne.mpr c30
                          have c30b1 : ((bt a0 x8_1) != 42) = true := bne_iff_ne.mpr c30
                          have H' := Aside0.mk H
                          clear H
                          go_wp2
                          go_meet
                          case rel => exact ⟨_, (!((bt a0 x8_1) == 63)), (by first | rfl | (simp; done) | (simp [*]; done)), H', ⟨by have := HK1.out; first | omega | exact Nat.le_refl _⟩, by repeat (first | exact Drawn0.refl _ | apply Drawn0.step)⟩
                · rw [if_neg c23] at H
                  have c23b0 : decide (65 ≤ (bt a0 x8_1)) = false := decide_eq_false c23
                  clear c23
                  by_cases c31 : (bt a0 x8_1) ≥ 48
                  · rw [if_pos c31] at H
                    have c31b0 : decide (48 ≤ (bt a0 x8_1)) = true := decide_eq_true c31
                    clear c31
                    by_cases c32 : (bt a0 x8_1) ≤ 57
                    · rw [if_pos c32] at H
                      have c32b0 : decide ((bt a0 x8_1) ≤ 57) = true := decide_eq_true c32
                      clear c32
                      have H' := Aside0.mk H
                      clear H
                      go_wp2
                      go_meet
                      case rel => exact ⟨_, (!true), (by first | rfl | (simp; done) | (simp [*]; done)), H', ⟨by have := HK1.out; first | omega | exact Nat.le_refl _⟩, by repeat (first | exact Drawn0.refl _ | apply Drawn0.step)⟩
                    · rw [if_neg c32] at H
                      have c32b0 : decide ((bt a0 x8_1) ≤ 57) = false := decide_eq_false c32
                      clear c32
                      by_cases c33 : (bt a0 x8_1) = 46
                      · rw [if_pos c33] at H
                        have c33b0 : ((bt a0 x8_1) == 46) = true := beq_iff_eq.mpr c33
                        have c33b1 : ((bt a0 x8_1) != 46) = false := bne_eq_false_iff_eq.mpr c33
                        clear c33
                        have H' := Aside0.mk H
                        clear H
                        go_wp2
                        go_meet
                        case rel => exact ⟨_, (!true), (by first | rfl | (simp; done) | (simp [*]; done)), H', ⟨by have := HK1.out; first | omega | exact Nat.le_refl _⟩, by repeat (first | exact Drawn0.refl _ | apply Drawn0.step)⟩
                      · rw [if_neg c33] at H
                        have c33b0 : ((bt a0 x8_1) == 46) = false := beq_eq_false_iff_ne.mpr c33
                        have c33b1 : ((bt a0 x8_1) != 46) = true := bne_iff_ne.mpr c33
                        by_cases c34 : (bt a0 x8_1) = 42
                        · rw [if_pos c34] at H
                          have c34b0 : ((bt a0 x8_1) == 42) = true := beq_iff_eq.mpr c34
                          have c34b1 : ((bt a0 x8_1) != 42) = false := bne_eq_false_iff_eq.mpr c34
                          clear c34
                          have H' := Aside0.mk H
                          clear H
                          go_wp2
                          go_meet
                          case rel => exact ⟨_, (!true), (by first | rfl | (simp; done) | (simp [*]; done)), H', ⟨by have := HK1.out; first | omega | exact Nat.le_refl _⟩, by repeat (first | exact Drawn0.refl _ | apply Drawn0.step)⟩
                        · rw [if_neg c34] at H
                          have c34b0 : ((bt a0 x8_1) == 42) = false := beq_eq_false_iff_ne.mpr c34
                          have c34b1 : ((bt a0 x8_1) != 42) = true := bne_iff_ne.mpr c34
                          have H' := Aside0.mk H
                          clear H
                          go_wp2
                          go_meet
                          case rel => exact ⟨_, (!((bt a0 x8_1) == 63)), (by first | rfl | (simp; done) | (simp [*]; done)), H', ⟨by have := HK1.out; first | omega | exact Nat.le_refl _⟩, by repeat (first | exact Drawn0.refl _ | apply Drawn0.step)⟩
                  · rw [if_neg c31] at H
                    have c31b0 : decide (48 ≤ (bt a0 x8_1)) = false := decide_eq_false c31
                    clear c31
                    by_cases c35 : (bt a0 x8_1) = 46
                    · rw [if_pos c35] at H
                      have c35b0 : ((bt a0 x8_1) == 46) = true := beq_iff_eq.mpr c35
                      have c35b1 : ((bt a0 x8_1) != 46) = false := bne_eq_false_iff_eq.mpr c35
                      clear c35
                      have H' := Aside0.mk H
                      clear H
                      go_wp2
                      go_meet
                      case rel => exact ⟨_, (!true), (by first | rfl | (simp; done) | (simp [*]; done)), H', ⟨by have := HK1.out; first | omega | exact Nat.le_refl _⟩, by repeat (first | exact Drawn0.refl _ | apply Drawn0.step)⟩
                    · rw [if_neg c35] at H
                      have c35b0 : ((bt a0 x8_1) == 46) = false := beq_eq_false_iff_ne.mpr c35
                      have c35b1 : ((bt a0 x8_1) != 46) = true := bne_iff_ne.mpr c35
                      by_cases c36 : (bt a0 x8_1) = 42
                      · rw [if_pos c36] at H
                        have c36b0 : ((bt a0 x8_1) == 42) = true := beq_iff_eq.mpr c36
                        have c36b1 : ((bt a0 x8_1) != 42) = false := bne_eq_false_iff_eq.mpr c36
                        clear c36
                        have H' := Aside0.mk H
                        clear H
                        go_wp2
                        go_meet
                        case rel => exact ⟨_, (!true), (by first | rfl | (simp; done) | (simp [*]; done)), H', ⟨by have := HK1.out; first | omega | exact Nat.le_refl _⟩, by repeat (first | exact Drawn0.refl _ | apply Drawn0.step)⟩
                      · rw [if_neg c36] at H
                        have c36b0 : ((bt a0 x8_1) == 42) = false := beq_eq_false_iff_ne.mpr c36
                        have c36b1 : ((bt a0 x8_1) != 42) = true := bne_iff_ne.mpr c36
                        have H' := Aside0.mk H
                        clear H
                        go_wp2
                        go_meet
                        case rel => exact ⟨_, (!((bt a0 x8_1) == 63)), (by first | rfl | (simp; done) | (simp [*]; done)), H', ⟨by have := HK1.out; first | omega | exact Nat.le_refl _⟩, by repeat (first | exact Drawn0.refl _ | apply Drawn0.step)⟩
            case rest =>
              clear HC6
              try clear c1
              try clear c2
              try clear c2b0
              try clear p2
              try clear c3
              try clear c3b0
              try clear c4
              try clear c4b0
              try clear p5
              try clear q5
              try clear hx5
              try clear c7
              try clear c7b0
              try clear c8
              try clear c8b0
              try clear c9
              try clear c9b0
              try clear c10
              try clear c10b0
              try clear c11
              try clear c11b0
              try clear c12
              try clear c12b0
              try clear c13
              try clear c13b0
              try clear c13b1
              try clear c14
              try clear c14b0
              try clear c14b1
              try clear c15
              try clear c15b0
              try clear c15b1
              try clear c16
              try clear c16b0
              try clear c16b1
              try clear c17
              try clear c17b0
              try clear c18
              try clear c18b0
              try clear c19
              try clear c19b0
              try clear c19b1
              try clear c20
              try clear c20b0
              try clear c20b1
              try clear c21
              try clear c21b0
              try clear c21b1
              try clear c22
              try clear c22b0
              try clear c22b1
              try clear c23
              try clear c23b0
              try clear c24
              try clear c24b0
              try clear c25
              try clear c25b0
              try clear c26
              try clear c26b0
              try clear c27
              try clear c27b0
              try clear c27b1
              try clear c28
              try clear c28b0
              try clear c28b1
              try clear c29
              try clear c29b0
              try clear c29b1
              try clear c30
              try clear c30b0
              try clear c30b1
              try clear c31
              try clear c31b0
              try clear c32
              try clear c32b0
              try clear c33
              try clear c33b0
              try clear c33b1
              try clear c34
              try clear c34b0
              try clear c34b1
              try clear c35
              try clear c35b0
              try clear c35b1
              try clear c36
              try clear c36b0
              try clear c36b1
              try clear p5
              try clear q5
              obtain ⟨kq, x48_5, rfl, HA, HJ5, ⟨mc5, rfl⟩⟩ := hcut
              cases kq with
              | zero => exact absurd HA.out (by simp [spec_IsGlob.j1])
              | succ kj5 =>
                have H := HA.out
                clear HA
                simp only [spec_IsGlob.j1] at H
                by_cases c37 : x48_5 = true
                · subst c37
                  have H1 : (some false) = some r := by rw [if_pos rfl] at H; exact H
                  clear H
                  have H := H1
                  clear H1
                  obtain rfl := Option.some.inj H
                  go_wp2
                  go_ret
                  exact ⟨by first | rfl | (simp; done) | (simp [*]; done), by repeat (first | exact Drawn0.refl _ | apply Drawn0.step)⟩
                · replace c37 := Bool.eq_false_iff.mpr c37
                  subst c37
                  have H1 : (if x8_1 > 0 then (if (bt a0 x8_1) = 42 then (if 0 ≤ (wrap64 (x8_1 - 1)) then (if (wrap64 (x8_1 - 1)) < (a0.size : Int) then (spec_IsGlob.j2 kj5 a0 x3_1 (bt a0 x8_1) (a0.size : Int) x8_1 ((bt a0 (wrap64 (x8_1 - 1))) == 42)) else (none)) else (none)) else (spec_IsGlob.j2 kj5 a0 x3_1 (bt a0 x8_1) (a0.size : Int) x8_1 false)) else (spec_IsGlob.j2 kj5 a0 x3_1 (bt a0 x8_1) (a0.size : Int) x8_1 false)) = some r := by rw [if_neg (show ¬ (false = true) by decide)] at H; exact H
                  clear H
                  have H := H1
                  clear H1
                  have HC38 := Aside0.mk H
                  clear H
                  go_upto_region 8 with (fail)
                  go_cut [61] (fun v61 wc => ∃ (kq : Nat) (x61_37 : Bool), v61 = .bool x61_37 ∧ Aside0 (spec_IsGlob.j2 kq a0 x3_1 (bt a0 x8_1) (a0.size : Int) x8_1 x61_37 = some r) ∧ Aside0 (kq ≤ kj5) ∧ Drawn0 w wc)
                  case first =>
                    have H := HC38.out
                    clear HC38
                    by_cases c39 : x8_1 > 0
                    · rw [if_pos c39] at H
                      have c39b0 : decide (0 < x8_1) = true := decide_eq_true c39
                      clear c39
                      (first | rw [c39b0] | (simp only [i64_w, i32_w]; rw [c39b0]) | skip)
                      by_cases c40 : (bt a0 x8_1) = 42
                      · rw [if_pos c40] at H
                        have c40b0 : ((bt a0 x8_1) == 42) = true := beq_iff_eq.mpr c40
                        have c40b1 : ((bt a0 x8_1) != 42) = false := bne_eq_false_iff_eq.mpr c40
                        clear c40
                        obtain ⟨ji41, hji41⟩ : ∃ j_ : Int, (wrap64 (x8_1 - 1)) = j_ := ⟨_, rfl⟩
                        replace H : (if 0 ≤ (ji41) then (if (ji41) < (a0.size : Int) then (spec_IsGlob.j2 kj5 a0 x3_1 (bt a0 x8_1) (a0.size : Int) x8_1 ((bt a0 (ji41)) == 42)) else (none)) else (none)) = some r := by first | (rw [hji41] at H; exact H) | (simp only [hji41] at H ⊢; exact H)
                        have hji41w : (IntKind.i64.wrap (x8_1 - 1)) = ji41 := (i64_w _).trans hji41
                        by_cases c42 : 0 ≤ (ji41)
                        · rw [if_pos c42] at H
                          have c42b0 : decide (0 ≤ (ji41)) = true := decide_eq_true c42
                          clear c42
                          by_cases c43 : (ji41) < (a0.size : Int)
                          · rw [if_pos c43] at H
                            have c43b0 : decide ((ji41) < (a0.size : Int)) = true := decide_eq_true c43
                            clear c43
                            have H' := Aside0.mk H
                            clear H
                            have p44 : 0 ≤ ((ji41) : Int) := of_decide_eq_true (by first | (with_reducible assumption) | assumption)
                            have q44 : (ji41) < (a0.size : Int) := of_decide_eq_true (by first | (with_reducible assumption) | assumption)
                            have hx44 := bt_at a0 (ji41)
                            replace p44 := eq_true p44
                            replace q44 := eq_true q44
                            go_wp2
                            go_meet
                            case rel => exact ⟨_, (((bt a0 (ji41)) == 42)), (by first | rfl | (simp; done) | (simp only [← hji41] <;> (first | rfl | simp)) | (simp [*]; done)), H', ⟨by have := HK1.out; have := HJ5.out; first | omega | exact Nat.le_refl _⟩, by repeat (first | exact Drawn0.refl _ | apply Drawn0.step)⟩
                          · rw [if_neg c43] at H
                            exact absurd H (by simp)
                        · rw [if_neg c42] at H
                          exact absurd H (by simp)
                      · rw [if_neg c40] at H
                        have c40b0 : ((bt a0 x8_1) == 42) = false := beq_eq_false_iff_ne.mpr c40
                        have c40b1 : ((bt a0 x8_1) != 42) = true := bne_iff_ne.mpr c40
                        have H' := Aside0.mk H
                        clear H
                        go_wp2
                        go_meet
                        case rel => exact ⟨_, (false), (by first | rfl | (simp; done) | (simp [*]; done)), H', ⟨by have := HK1.out; have := HJ5.out; first | omega | exact Nat.le_refl _⟩, by repeat (first | exact Drawn0.refl _ | apply Drawn0.step)⟩
                    · rw [if_neg c39] at H
                      have c39b0 : decide (0 < x8_1) = false := decide_eq_false c39
                      clear c39
                      (first | rw [c39b0] | (simp only [i64_w, i32_w]; rw [c39b0]) | skip)
                      have H' := Aside0.mk H
                      clear H
                      go_wp2
                      go_meet
                      case rel => exact ⟨_, (false), (by first | rfl | (simp; done) | (simp [*]; done)), H', ⟨by have := HK1.out; have := HJ5.out; first | omega | exact Nat.le_refl _⟩, by repeat (first | exact Drawn0.refl _ | apply Drawn0.step)⟩
                  case rest =>
                    clear HC38
                    try clear c1
                    try clear c2
                    try clear c2b0
                    try clear p2
                    try clear c3
                    try clear c3b0
                    try clear c4
                    try clear c4b0
                    try clear p4
                    try clear q4
                    try clear hx4
                    try clear c5
                    try clear p5
                    try clear q5
                    try clear hx5
                    try clear p6
                    try clear c7
                    try clear c7b0
                    try clear c8
                    try clear c8b0
                    try clear c9
                    try clear c9b0
                    try clear c10
                    try clear c10b0
                    try clear c11
                    try clear c11b0
                    try clear c12
                    try clear c12b0
                    try clear c13
                    try clear c13b0
                    try clear c13b1
                    try clear c14
                    try clear c14b0
                    try clear c14b1
                    try clear c15
                    try clear c15b0
                    try clear c15b1
                    try clear c16
                    try clear c16b0
                    try clear c16b1
                    try clear c17
                    try clear c17b0
                    try clear c18
                    try clear c18b0
                    try clear c19
                    try clear c19b0
                    try clear c19b1
                    try clear c20
                    try clear c20b0
                    try clear c20b1
                    try clear c21
                    try clear c21b0
                    try clear c21b1
                    try clear c22
                    try clear c22b0
                    try clear c22b1
                    try clear c23
                    try clear c23b0
                    try clear c24
                    try clear c24b0
                    try clear c25
                    try clear c25b0
                    try clear c26
                    try clear c26b0
                    try clear c27
                    try clear c27b0
                    try clear c27b1
                    try clear c28
                    try clear c28b0
                    try clear c28b1
                    try clear c29
                    try clear c29b0
                    try clear c29b1
                    try clear c30
                    try clear c30b0
                    try clear c30b1
                    try clear c31
                    try clear c31b0
                    try clear c32
                    try clear c32b0
                    try clear c33
                    try clear c33b0
                    try clear c33b1
                    try clear c34
                    try clear c34b0
                    try clear c34b1
                    try clear c35
                    try clear c35b0
                    try clear c35b1
                    try clear c36
                    try clear c36b0
                    try clear c36b1
                    try clear c37
                    try clear c39
                    try clear c39b0
                    try clear c40
                    try clear c40b0
                    try clear c40b1
                    try clear c42
                    try clear c42b0
                    try clear c43
                    try clear c43b0
                    try clear p44
                    try clear q44
                    try clear hx44
                    try clear p2
                    try clear p44
                    try clear p5
                    try clear q44
                    try clear q5
                    obtain ⟨kq, x61_37, rfl, HA, HJ37, ⟨mc37, rfl⟩⟩ := hcut
                    cases kq with
                    | zero => exact absurd HA.out (by simp [spec_IsGlob.j2])
                    | succ kj37 =>
                      have H := HA.out
                      clear HA
                      simp only [spec_IsGlob.j2] at H
                      by_cases c45 : x61_37 = true
                      · subst c45
                        have H1 : (some false) = some r := by rw [if_pos rfl] at H; exact H
                        clear H
                        have H := H1
                        clear H1
                        obtain rfl := Option.some.inj H
                        go_wp2
                        go_ret
                        exact ⟨by first | rfl | (simp; done) | (simp [*]; done), by repeat (first | exact Drawn0.refl _ | apply Drawn0.step)⟩
                      · replace c45 := Bool.eq_false_iff.mpr c45
                        subst c45
                        have H1 : (if (bt a0 x8_1) = 42 then (spec_IsGlob.l0 kj37 a0 (wrap64 (x3_1 + 1)) (a0.size : Int) (wrap64 (x8_1 + 1))) else (spec_IsGlob.l0 kj37 a0 x3_1 (a0.size : Int) (wrap64 (x8_1 + 1)))) = some r := by rw [if_neg (show ¬ (false = true) by decide)] at H; exact H
                        clear H
                        have H := H1
                        clear H1
                        by_cases c46 : (bt a0 x8_1) = 42
                        · rw [if_pos c46] at H
                          have c46b0 : ((bt a0 x8_1) == 42) = true := beq_iff_eq.mpr c46
                          have c46b1 : ((bt a0 x8_1) != 42) = false := bne_eq_false_iff_eq.mpr c46
                          clear c46
                          have H' := Aside0.mk H
                          clear H
                          go_wp2
                          go_roundg kj37
                          case measure => have := HK1.out; have := HJ5.out; have := HJ37.out; omega
                          case rel => exact ⟨(wrap64 (x3_1 + 1)), (wrap64 (x8_1 + 1)), (by first | rfl | (simp; done) | (simp [*]; done)), (by first | rfl | (simp; done) | (simp [*]; done)), H', ⟨by have := HK1.out; have := HJ5.out; have := HJ37.out; omega⟩, by repeat (first | exact Drawn0.refl _ | apply Drawn0.step)⟩
                        · rw [if_neg c46] at H
                          have c46b0 : ((bt a0 x8_1) == 42) = false := beq_eq_false_iff_ne.mpr c46
                          have c46b1 : ((bt a0 x8_1) != 42) = true := bne_iff_ne.mpr c46
                          have H' := Aside0.mk H
                          clear H
                          go_wp2
                          go_roundg kj37
                          case measure => have := HK1.out; have := HJ5.out; have := HJ37.out; omega
                          case rel => exact ⟨(x3_1), (wrap64 (x8_1 + 1)), (by first | rfl | (simp; done) | (simp [*]; done)), (by first | rfl | (simp; done) | (simp [*]; done)), H', ⟨by have := HK1.out; have := HJ5.out; have := HJ37.out; omega⟩, by repeat (first | exact Drawn0.refl _ | apply Drawn0.step)⟩
          · rw [if_neg c4] at H
            exact absurd H (by simp)
        · rw [if_neg c3] at H
          exact absurd H (by simp)
      · rw [if_neg c2] at H
        have c2b0 : decide (x8_1 < (a0.size : Int)) = false := decide_eq_false c2
        clear c2
        by_cases c47 : a0.toList = ([] : List UInt8)
        · rw [if_pos c47] at H
          have c47b0 : (a0.toList == ([] : List UInt8)) = true := beq_iff_eq.mpr c47
          have c47b1 : (a0.toList != ([] : List UInt8)) = false := bne_eq_false_iff_eq.mpr c47
          clear c47
          obtain rfl := Option.some.inj H
          go_wp2
          go_ret
          exact ⟨by first | rfl | (simp; done) | (simp [*]; done), by repeat (first | exact Drawn0.refl _ | apply Drawn0.step)⟩
        · rw [if_neg c47] at H
          have c47b0 : (a0.toList == ([] : List UInt8)) = false := beq_eq_false_iff_ne.mpr c47
          have c47b1 : (a0.toList != ([] : List UInt8)) = true := bne_iff_ne.mpr c47
          by_cases c48 : (a0.size : Int) ≤ 40
          · rw [if_pos c48] at H
            have c48b0 : decide ((a0.size : Int) ≤ 40) = true := decide_eq_true c48
            have c48b1 : decide (a0.size ≤ 40) = true := decide_eq_true (by omega)
            clear c48
            obtain rfl := Option.some.inj H
            go_wp2
            go_ret
            exact ⟨by first | rfl | (simp; done) | (simp [*]; done), by repeat (first | exact Drawn0.refl _ | apply Drawn0.step)⟩
          · rw [if_neg c48] at H
            have c48b0 : decide ((a0.size : Int) ≤ 40) = false := decide_eq_false c48
            have c48b1 : decide (a0.size ≤ 40) = false := decide_eq_false (by omega)
            clear c48
            obtain rfl := Option.some.inj H
            go_wp2
            go_ret
            exact ⟨by first | rfl | (simp; done) | (simp [*]; done), by repeat (first | exact Drawn0.refl _ | apply Drawn0.step)⟩

end Go.Proofs.Ytbiflpbajgafaaa.PFnIgnoreRoot
