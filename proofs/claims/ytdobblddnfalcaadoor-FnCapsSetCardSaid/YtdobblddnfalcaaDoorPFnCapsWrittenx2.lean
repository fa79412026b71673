-- PRINTED BY print.sh 35421559b90ae4d0a3588c463048766b98c2df88dd9212a6774a882060cdf62d: not written by this session
import Derived.Test.YtdobblddnfalcaaDoorPFnCapsWrittenx0
namespace Go.Proofs.YtdobblddnfalcaaDoor.PFnCapsWritten
open Go.RowKit Go.Proofs.YtdobblddnfalcaaDoorW.PrintWords Go.Proofs.YtdobblddnfalcaaDoorW.PrintLast Go.Proofs.YtdobblddnfalcaaDoorW.PrintMore
attribute [local go_sem] max2_int min2_int max_two min_two max_three min_three max_four min_four   -- for this text's walks alone
set_option linter.unusedVariables false
set_option linter.unusedSimpArgs false

/-! ### spec_IsWord: function 24 -/
def spec_IsWord.l0 : Nat → ByteArray → Int → Int → Option (Bool)
  | 0, _, _, _ => none
  | k + 1, x0, x6, x7 => if x7 < x6 then (if 0 ≤ x7 then (if x7 < (x0.size : Int) then (if (bt x0 x7) ≥ 97 then (if (bt x0 x7) ≤ 122 then (spec_IsWord.l0 k x0 x6 (wrap64 (x7 + 1))) else (if (bt x0 x7) ≥ 65 then (if (bt x0 x7) ≤ 90 then (spec_IsWord.l0 k x0 x6 (wrap64 (x7 + 1))) else (if (bt x0 x7) ≥ 48 then (if (bt x0 x7) ≤ 57 then (spec_IsWord.l0 k x0 x6 (wrap64 (x7 + 1))) else (if (bt x0 x7) = 46 then (spec_IsWord.l0 k x0 x6 (wrap64 (x7 + 1))) else (if (bt x0 x7) = 47 then (spec_IsWord.l0 k x0 x6 (wrap64 (x7 + 1))) else (if (bt x0 x7) = 58 then (spec_IsWord.l0 k x0 x6 (wrap64 (x7 + 1))) else (if (bt x0 x7) = 45 then (spec_IsWord.l0 k x0 x6 (wrap64 (x7 + 1))) else (if ((bt x0 x7) = 95) then (spec_IsWord.l0 k x0 x6 (wrap64 (x7 + 1))) else (some false))))))) else (if (bt x0 x7) = 46 then (spec_IsWord.l0 k x0 x6 (wrap64 (x7 + 1))) else (if (bt x0 x7) = 47 then (spec_IsWord.l0 k x0 x6 (wrap64 (x7 + 1))) else (if (bt x0 x7) = 58 then (spec_IsWord.l0 k x0 x6 (wrap64 (x7 + 1))) else (if (bt x0 x7) = 45 then (spec_IsWord.l0 k x0 x6 (wrap64 (x7 + 1))) else (if ((bt x0 x7) = 95) then (spec_IsWord.l0 k x0 x6 (wrap64 (x7 + 1))) else (some false)))))))) else (if (bt x0 x7) ≥ 48 then (if (bt x0 x7) ≤ 57 then (spec_IsWord.l0 k x0 x6 (wrap64 (x7 + 1))) else (if (bt x0 x7) = 46 then (spec_IsWord.l0 k x0 x6 (wrap64 (x7 + 1))) else (if (bt x0 x7) = 47 then (spec_IsWord.l0 k x0 x6 (wrap64 (x7 + 1))) else (if (bt x0 x7) = 58 then (spec_IsWord.l0 k x0 x6 (wrap64 (x7 + 1))) else (if (bt x0 x7) = 45 then (spec_IsWord.l0 k x0 x6 (wrap64 (x7 + 1))) else (if ((bt x0 x7) = 95) then (spec_IsWord.l0 k x0 x6 (wrap64 (x7 + 1))) else (some false))))))) else (if (bt x0 x7) = 46 then (spec_IsWord.l0 k x0 x6 (wrap64 (x7 + 1))) else (if (bt x0 x7) = 47 then (spec_IsWord.l0 k x0 x6 (wrap64 (x7 + 1))) else (if (bt x0 x7) = 58 then (spec_IsWord.l0 k x0 x6 (wrap64 (x7 + 1))) else (if (bt x0 x7) = 45 then (spec_IsWord.l0 k x0 x6 (wrap64 (x7 + 1))) else (if ((bt x0 x7) = 95) then (spec_IsWord.l0 k x0 x6 (wrap64 (x7 + 1))) else (some false))))))))) else (if (bt x0 x7) ≥ 65 then (if (bt x0 x7) ≤ 90 then (spec_IsWord.l0 k x0 x6 (wrap64 (x7 + 1))) else (if (bt x0 x7) ≥ 48 then (if (bt x0 x7) ≤ 57 then (spec_IsWord.l0 k x0 x6 (wrap64 (x7 + 1))) else (if (bt x0 x7) = 46 then (spec_IsWord.l0 k x0 x6 (wrap64 (x7 + 1))) else (if (bt x0 x7) = 47 then (spec_IsWord.l0 k x0 x6 (wrap64 (x7 + 1))) else (if (bt x0 x7) = 58 then (spec_IsWord.l0 k x0 x6 (wrap64 (x7 + 1))) else (if (bt x0 x7) = 45 then (spec_IsWord.l0 k x0 x6 (wrap64 (x7 + 1))) else (if ((bt x0 x7) = 95) then (spec_IsWord.l0 k x0 x6 (wrap64 (x7 + 1))) else (some false))))))) else (if (bt x0 x7) = 46 then (spec_IsWord.l0 k x0 x6 (wrap64 (x7 + 1))) else (if (bt x0 x7) = 47 then (spec_IsWord.l0 k x0 x6 (wrap64 (x7 + 1))) else (if (bt x0 x7) = 58 then (spec_IsWord.l0 k x0 x6 (wrap64 (x7 + 1))) else (if (bt x0 x7) = 45 then (spec_IsWord.l0 k x0 x6 (wrap64 (x7 + 1))) else (if ((bt x0 x7) = 95) then (spec_IsWord.l0 k x0 x6 (wrap64 (x7 + 1))) else (some false)))))))) else (if (bt x0 x7) ≥ 48 then (if (bt x0 x7) ≤ 57 then (spec_IsWord.l0 k x0 x6 (wrap64 (x7 + 1))) else (if (bt x0 x7) = 46 then (spec_IsWord.l0 k x0 x6 (wrap64 (x7 + 1))) else (if (bt x0 x7) = 47 then (spec_IsWord.l0 k x0 x6 (wrap64 (x7 + 1))) else (if (bt x0 x7) = 58 then (spec_IsWord.l0 k x0 x6 (wrap64 (x7 + 1))) else (if (bt x0 x7) = 45 then (spec_IsWord.l0 k x0 x6 (wrap64 (x7 + 1))) else (if ((bt x0 x7) = 95) then (spec_IsWord.l0 k x0 x6 (wrap64 (x7 + 1))) else (some false))))))) else (if (bt x0 x7) = 46 then (spec_IsWord.l0 k x0 x6 (wrap64 (x7 + 1))) else (if (bt x0 x7) = 47 then (spec_IsWord.l0 k x0 x6 (wrap64 (x7 + 1))) else (if (bt x0 x7) = 58 then (spec_IsWord.l0 k x0 x6 (wrap64 (x7 + 1))) else (if (bt x0 x7) = 45 then (spec_IsWord.l0 k x0 x6 (wrap64 (x7 + 1))) else (if ((bt x0 x7) = 95) then (spec_IsWord.l0 k x0 x6 (wrap64 (x7 + 1))) else (some false))))))))) else (none)) else (none)) else (if (x0.size : Int) ≥ 1 then (some (decide ((x0.size : Int) ≤ 60))) else (some false))
def spec_IsWord.f (k : Nat) (a0 : ByteArray) : Option (Bool) := spec_IsWord.l0 k a0 (a0.size : Int) 0
theorem spec_IsWord.mono_l : ∀ k, (∀ y0 y1 y2, LeO (spec_IsWord.l0 k y0 y1 y2) (spec_IsWord.l0 (k + 1) y0 y1 y2))
  | 0 => fun _ _ _ r h => by simp [spec_IsWord.l0] at h
  | k + 1 => by
    have ih0 := spec_IsWord.mono_l k
    · intro y0 y1 y2
      unfold spec_IsWord.l0
      repeat' first
      | (with_reducible exact ih0 _ _ _)
      | (with_reducible exact LeO.refl _)
      | (with_reducible exact LeO.none _)
      | (with_reducible refine LeO.ite ?_ ?_)
      | (with_reducible refine LeO.bind ?_ (fun _ => ?_))
      | exact ih0 _ _ _
      | exact LeO.none _
      | refine LeO.ite ?_ ?_
      | refine LeO.bind ?_ (fun _ => ?_)
theorem spec_IsWord.mono : ∀ a0 k, LeO (spec_IsWord.f k a0) (spec_IsWord.f (k + 1) a0) := by
  intro a0 k
  have ih0 := spec_IsWord.mono_l k
  unfold spec_IsWord.f
  repeat' first
      | (with_reducible exact ih0 _ _ _)
      | (with_reducible exact LeO.refl _)
      | (with_reducible exact LeO.none _)
      | (with_reducible refine LeO.ite ?_ ?_)
      | (with_reducible refine LeO.bind ?_ (fun _ => ?_))
      | exact ih0 _ _ _
      | exact LeO.none _
      | refine LeO.ite ?_ ?_
      | refine LeO.bind ?_ (fun _ => ?_)
set_option maxHeartbeats 8000000 in
set_option maxRecDepth 100000 in
theorem spec_IsWord.calls (k : Nat) (a0 : ByteArray) (r : Bool) (w : World) (h : spec_IsWord.f k a0 = some r) :
    Calls Tryd.prog 24 #[.string a0] w fun e w' => e = .returned (.bool r) ∧ Drawn0 w w' := by
  have H : (spec_IsWord.l0 k a0 (a0.size : Int) 0) = some r := h
  clear h
  have H' := Aside0.mk H
  clear H
  go_enter Tryd.func24, Tryd.ntmps24
  go_wp2
  go_loopg [7] k (fun kq v7 w' => ∃ (x7_1 : Int), v7 = .int .i64 x7_1 ∧ Aside0 (spec_IsWord.l0 kq a0 (a0.size : Int) x7_1 = some r) ∧ Aside0 (kq ≤ k) ∧ Drawn0 w w')
  case atStart => exact ⟨(0), (by first | rfl | (simp; done) | (simp [*]; done)), H', ⟨Nat.le_refl _⟩, by repeat (first | exact Drawn0.refl _ | apply Drawn0.step)⟩
  case round =>
    clear H'
    obtain ⟨x7_1, rfl, HA, HK1, ⟨m1, rfl⟩⟩ := hrel
    cases gk with
    | zero => exact absurd HA.out (by simp [spec_IsWord.l0])
    | succ k1 =>
      have H := HA.out
      clear HA
      simp only [spec_IsWord.l0] at H
      by_cases c2 : x7_1 < (a0.size : Int)
      · rw [if_pos c2] at H
        have c2b0 : decide (x7_1 < (a0.size : Int)) = true := decide_eq_true c2
        clear c2
        by_cases c3 : 0 ≤ x7_1
        · rw [if_pos c3] at H
          have c3b0 : decide (0 ≤ x7_1) = true := decide_eq_true c3
          clear c3
          by_cases c4 : x7_1 < (a0.size : Int)
          · rw [if_pos c4] at H
            have c4b0 : decide (x7_1 < (a0.size : Int)) = true := decide_eq_true c4
            clear c4
            by_cases c6 : (bt a0 x7_1) ≥ 97
            · rw [if_pos c6] at H
              have c6b0 : decide (97 ≤ (bt a0 x7_1)) = true := decide_eq_true c6
              clear c6
              by_cases c7 : (bt a0 x7_1) ≤ 122
              · rw [if_pos c7] at H
                have c7b0 : decide ((bt a0 x7_1) ≤ 122) = true := decide_eq_true c7
                clear c7
                have H' := Aside0.mk H
                clear H
                have p5 : 0 ≤ (x7_1 : Int) := of_decide_eq_true (by first | (with_reducible assumption) | assumption)
                have q5 : x7_1 < (a0.size : Int) := of_decide_eq_true (by first | (with_reducible assumption) | assumption)
                have hx5 := bt_at a0 x7_1
                replace p5 := eq_true p5
                replace q5 := eq_true q5
                go_wp2
                go_roundg k1
                case measure => have := HK1.out; omega
                case rel => exact ⟨(wrap64 (x7_1 + 1)), (by first | rfl | (simp; done) | (simp [*]; done)), H', ⟨by have := HK1.out; omega⟩, by repeat (first | exact Drawn0.refl _ | apply Drawn0.step)⟩
              · rw [if_neg c7] at H
                have c7b0 : decide ((bt a0 x7_1) ≤ 122) = false := decide_eq_false c7
                clear c7
                by_cases c8 : (bt a0 x7_1) ≥ 65
                · rw [if_pos c8] at H
                  have c8b0 : decide (65 ≤ (bt a0 x7_1)) = true := decide_eq_true c8
                  clear c8
                  by_cases c9 : (bt a0 x7_1) ≤ 90
                  · rw [if_pos c9] at H
                    have c9b0 : decide ((bt a0 x7_1) ≤ 90) = true := decide_eq_true c9
                    clear c9
                    have H' := Aside0.mk H
                    clear H
                    have p5 : 0 ≤ (x7_1 : Int) := of_decide_eq_true (by first | (with_reducible assumption) | assumption)
                    have q5 : x7_1 < (a0.size : Int) := of_decide_eq_true (by first | (with_reducible assumption) | assumption)
                    have hx5 := bt_at a0 x7_1
                    replace p5 := eq_true p5
                    replace q5 := eq_true q5
                    go_wp2
                    go_roundg k1
                    case measure => have := HK1.out; omega
                    case rel => exact ⟨(wrap64 (x7_1 + 1)), (by first | rfl | (simp; done) | (simp [*]; done)), H', ⟨by have := HK1.out; omega⟩, by repeat (first | exact Drawn0.refl _ | apply Drawn0.step)⟩
                  · rw [if_neg c9] at H
                    have c9b0 : decide ((bt a0 x7_1) ≤ 90) = false := decide_eq_false c9
                    clear c9
                    by_cases c10 : (bt a0 x7_1) ≥ 48
                    · rw [if_pos c10] at H
                      have c10b0 : decide (48 ≤ (bt a0 x7_1)) = true := decide_eq_true c10
                      clear c10
                      by_cases c11 : (bt a0 x7_1) ≤ 57
                      · rw [if_pos c11] at H
                        have c11b0 : decide ((bt a0 x7_1) ≤ 57) = true := decide_eq_true c11
                        clear c11
                        have H' := Aside0.mk H
                        clear H
                        have p5 : 0 ≤ (x7_1 : Int) := of_decide_eq_true (by first | (with_reducible assumption) | assumption)
                        have q5 : x7_1 < (a0.size : Int) := of_decide_eq_true (by first | (with_reducible assumption) | assumption)
                        have hx5 := bt_at a0 x7_1
                        replace p5 := eq_true p5
                        replace q5 := eq_true q5
                        go_wp2
                        go_roundg k1
                        case measure => have := HK1.out; omega
                        case rel => exact ⟨(wrap64 (x7_1 + 1)), (by first | rfl | (simp; done) | (simp [*]; done)), H', ⟨by have := HK1.out; omega⟩, by repeat (first | exact Drawn0.refl _ | apply Drawn0.step)⟩
                      · rw [if_neg c11] at H
                        have c11b0 : decide ((bt a0 x7_1) ≤ 57) = false := decide_eq_false c11
                        clear c11
                        by_cases c12 : (bt a0 x7_1) = 46
                        · rw [if_pos c12] at H
                          have c12b0 : ((bt a0 x7_1) == 46) = true := beq_iff_eq.mpr c12
                          have c12b1 : ((bt a0 x7_1) != 46) = false := bne_eq_false_iff_eq.mpr c12
                          clear c12
                          have H' := Aside0.mk H
                          clear H
                          have p5 : 0 ≤ (x7_1 : Int) := of_decide_eq_true (by first | (with_reducible assumption) | assumption)
                          have q5 : x7_1 < (a0.size : Int) := of_decide_eq_true (by first | (with_reducible assumption) | assumption)
                          have hx5 := bt_at a0 x7_1
                          replace p5 := eq_true p5
                          replace q5 := eq_true q5
                          go_wp2
                          go_roundg k1
                          case measure => have := HK1.out; omega
                          case rel => exact ⟨(wrap64 (x7_1 + 1)), (by first | rfl | (simp; done) | (simp [*]; done)), H', ⟨by have := HK1.out; omega⟩, by repeat (first | exact Drawn0.refl _ | apply Drawn0.step)⟩
                        · rw [if_neg c12] at H
                          have c12b0 : ((bt a0 x7_1) == 46) = false := beq_eq_false_iff_ne.mpr c12
                          have c12b1 : ((bt a0 x7_1) != 46) = true := bne_iff_ne.mpr c12
                          by_cases c13 : (bt a0 x7_1) = 47
                          · rw [if_pos c13] at H
                            have c13b0 : ((bt a0 x7_1) == 47) = true := beq_iff_eq.mpr c13
                            have c13b1 : ((bt a0 x7_1) != 47) = false := bne_eq_false_iff_eq.mpr c13
                            clear c13
                            have H' := Aside0.mk H
                            clear H
                            have p5 : 0 ≤ (x7_1 : Int) := of_decide_eq_true (by first | (with_reducible assumption) | assumption)
                            have q5 : x7_1 < (a0.size : Int) := of_decide_eq_true (by first | (with_reducible assumption) | assumption)
                            have hx5 := bt_at a0 x7_1
                            replace p5 := eq_true p5
                            replace q5 := eq_true q5
                            go_wp2
                            go_roundg k1
                            case measure => have := HK1.out; omega
                            case rel => exact ⟨(wrap64 (x7_1 + 1)), (by first | rfl | (simp; done) | (simp [*]; done)), H', ⟨by have := HK1.out; omega⟩, by repeat (first | exact Drawn0.refl _ | apply Drawn0.step)⟩
                          · rw [if_neg c13] at H
                            have c13b0 : ((bt a0 x7_1) == 47) = false := beq_eq_false_iff_ne.mpr c13
                            have c13b1 : ((bt a0 x7_1) != 47) = true := bne_iff_ne.mpr c13
                            by_cases c14 : (bt a0 x7_1) = 58
                            · rw [if_pos c14] at H
                              have c14b0 : ((bt a0 x7_1) == 58) = true := beq_iff_eq.mpr c14
                              have c14b1 : ((bt a0 x7_1) != 58) = false := bne_eq_false_iff_eq.mpr c14
                              clear c14
                              have H' := Aside0.mk H
                              clear H
                              have p5 : 0 ≤ (x7_1 : Int) := of_decide_eq_true (by first | (with_reducible assumption) | assumption)
                              have q5 : x7_1 < (a0.size : Int) := of_decide_eq_true (by first | (with_reducible assumption) | assumption)
                              have hx5 := bt_at a0 x7_1
                              replace p5 := eq_true p5
                              replace q5 := eq_true q5
                              go_wp2
                              go_roundg k1
                              case measure => have := HK1.out; omega
                              case rel => exact ⟨(wrap64 (x7_1 + 1)), (by first | rfl | (simp; done) | (simp [*]; done)), H', ⟨by have := HK1.out; omega⟩, by repeat (first | exact Drawn0.refl _ | apply Drawn0.step)⟩
                            · rw [if_neg c14] at H
                              have c14b0 : ((bt a0 x7_1) == 58) = false := beq_eq_false_iff_ne.mpr c14
                              have c14b1 : ((bt a0 x7_1) != 58) = true := bne_iff_ne.mpr c14
                              by_cases c15 : (bt a0 x7_1) = 45
                              · rw [if_pos c15] at H
                                have c15b0 : ((bt a0 x7_1) == 45) = true := beq_iff_eq.mpr c15
                                have c15b1 : ((bt a0 x7_1) != 45) = false := bne_eq_false_iff_eq.mpr c15
                                clear c15
                                have H' := Aside0.mk H
                                clear H
                                have p5 : 0 ≤ (x7_1 : Int) := of_decide_eq_true (by first | (with_reducible assumption) | assumption)
                                have q5 : x7_1 < (a0.size : Int) := of_decide_eq_true (by first | (with_reducible assumption) | assumption)
                                have hx5 := bt_at a0 x7_1
                                replace p5 := eq_true p5
                                replace q5 := eq_true q5
                                go_wp2
                                go_roundg k1
                                case measure => have := HK1.out; omega
                                case rel => exact ⟨(wrap64 (x7_1 + 1)), (by first | rfl | (simp; done) | (simp [*]; done)), H', ⟨by have := HK1.out; omega⟩, by repeat (first | exact Drawn0.refl _ | apply Drawn0.step)⟩
                              · rw [if_neg c15] at H
                                have c15b0 : ((bt a0 x7_1) == 45) = false := beq_eq_false_iff_ne.mpr c15
                                have c15b1 : ((bt a0 x7_1) != 45) = true := bne_iff_ne.mpr c15
                                by_cases c16 : ((bt a0 x7_1) = 95)
                                · rw [if_pos c16] at H
                                  have c16b0 : ((bt a0 x7_1) == 95) = true := beq_iff_eq.mpr c16
                                  have c16b1 : ((bt a0 x7_1) != 95) = false := bne_eq_false_iff_eq.mpr c16
                                  clear c16
                                  have H' := Aside0.mk H
                                  clear H
                                  have p5 : 0 ≤ (x7_1 : Int) := of_decide_eq_true (by first | (with_reducible assumption) | assumption)
                                  have q5 : x7_1 < (a0.size : Int) := of_decide_eq_true (by first | (with_reducible assumption) | assumption)
                                  have hx5 := bt_at a0 x7_1
                                  replace p5 := eq_true p5
                                  replace q5 := eq_true q5
                                  go_wp2
                                  go_roundg k1
                                  case measure => have := HK1.out; omega
                                  case rel => exact ⟨(wrap64 (x7_1 + 1)), (by first | rfl | (simp; done) | (simp [*]; done)), H', ⟨by have := HK1.out; omega⟩, by repeat (first | exact Drawn0.refl _ | apply Drawn0.step)⟩
                                · rw [if_neg c16] at H
                                  have c16b0 : ((bt a0 x7_1) == 95) = false := beq_eq_false_iff_ne.mpr c16
                                  have c16b1 : ((bt a0 x7_1) != 95) = true := bne_iff_ne.mpr c16
                                  obtain rfl := Option.some.inj H
                                  have p5 : 0 ≤ (x7_1 : Int) := of_decide_eq_true (by first | (with_reducible assumption) | assumption)
                                  have q5 : x7_1 < (a0.size : Int) := of_decide_eq_true (by first | (with_reducible assumption) | assumption)
                                  have hx5 := bt_at a0 x7_1
                                  replace p5 := eq_true p5
                                  replace q5 := eq_true q5
                                  go_wp2
                                  go_ret
                                  exact ⟨by first | rfl | (simp; done) | (simp [*]; done), by repeat (first | exact Drawn0.refl _ | apply Drawn0.step)⟩
                    · rw [if_neg c10] at H
                      have c10b0 : decide (48 ≤ (bt a0 x7_1)) = false := decide_eq_false c10
                      clear c10
                      by_cases c17 : (bt a0 x7_1) = 46
                      · rw [if_pos c17] at H
                        have c17b0 : ((bt a0 x7_1) == 46) = true := beq_iff_eq.mpr c17
                        have c17b1 : ((bt a0 x7_1) != 46) = false := bne_eq_false_iff_eq.mpr c17
                        clear c17
                        have H' := Aside0.mk H
                        clear H
                        have p5 : 0 ≤ (x7_1 : Int) := of_decide_eq_true (by first | (with_reducible assumption) | assumption)
                        have q5 : x7_1 < (a0.size : Int) := of_decide_eq_true (by first | (with_reducible assumption) | assumption)
                        have hx5 := bt_at a0 x7_1
                        replace p5 := eq_true p5
                        replace q5 := eq_true q5
                        go_wp2
                        go_roundg k1
                        case measure => have := HK1.out; omega
                        case rel => exact ⟨(wrap64 (x7_1 + 1)), (by first | rfl | (simp; done) | (simp [*]; done)), H', ⟨by have := HK1.out; omega⟩, by repeat (first | exact Drawn0.refl _ | apply Drawn0.step)⟩
                      · rw [if_neg c17] at H
                        have c17b0 : ((bt a0 x7_1) == 46) = false := beq_eq_false_iff_ne.mpr c17
                        have c17b1 : ((bt a0 x7_1) != 46) = true := bne_iff_ne.mpr c17
                        by_cases c18 : (bt a0 x7_1) = 47
                        · rw [if_pos c18] at H
                          have c18b0 : ((bt a0 x7_1) == 47) = true := beq_iff_eq.mpr c18
                          have c18b1 : ((bt a0 x7_1) != 47) = false := bne_eq_false_iff_eq.mpr c18
                          clear c18
                          have H' := Aside0.mk H
                          clear H
                          have p5 : 0 ≤ (x7_1 : Int) := of_decide_eq_true (by first | (with_reducible assumption) | assumption)
                          have q5 : x7_1 < (a0.size : Int) := of_decide_eq_true (by first | (with_reducible assumption) | assumption)
                          have hx5 := bt_at a0 x7_1
                          replace p5 := eq_true p5
                          replace q5 := eq_true q5
                          go_wp2
                          go_roundg k1
                          case measure => have := HK1.out; omega
                          case rel => exact ⟨(wrap64 (x7_1 + 1)), (by first | rfl | (simp; done) | (simp [*]; done)), H', ⟨by have := HK1.out; omega⟩, by repeat (first | exact Drawn0.refl _ | apply Drawn0.step)⟩
                        · rw [if_neg c18] at H
                          have c18b0 : ((bt a0 x7_1) == 47) = false := beq_eq_false_iff_ne.mpr c18
                          have c18b1 : ((bt a0 x7_1) != 47) = true := bne_iff_ne.mpr c18
                          by_cases c19 : (bt a0 x7_1) = 58
                          · rw [if_pos c19] at H
                            have c19b0 : ((bt a0 x7_1) == 58) = true := beq_iff_eq.mpr c19
                            have c19b1 : ((bt a0 x7_1) != 58) = false := bne_eq_false_iff_eq.mpr c19
                            clear c19
                            have H' := Aside0.mk H
                            clear H
                            have p5 : 0 ≤ (x7_1 : Int) := of_decide_eq_true (by first | (with_reducible assumption) | assumption)
                            have q5 : x7_1 < (a0.size : Int) := of_decide_eq_true (by first | (with_reducible assumption) | assumption)
                            have hx5 := bt_at a0 x7_1
                            replace p5 := eq_true p5
                            replace q5 := eq_true q5
                            go_wp2
                            go_roundg k1
                            case measure => have := HK1.out; omega
                            case rel => exact ⟨(wrap64 (x7_1 + 1)), (by first | rfl | (simp; done) | (simp [*]; done)), H', ⟨by have := HK1.out; omega⟩, by repeat (first | exact Drawn0.refl _ | apply Drawn0.step)⟩
                          · rw [if_neg c19] at H
                            have c19b0 : ((bt a0 x7_1) == 58) = false := beq_eq_false_iff_ne.mpr c19
                            have c19b1 : ((bt a0 x7_1) != 58) = true := bne_iff_ne.mpr c19
                            by_cases c20 : (bt a0 x7_1) = 45
                            · rw [if_pos c20] at H
                              have c20b0 : ((bt a0 x7_1) == 45) = true := beq_iff_eq.mpr c20
                              have c20b1 : ((bt a0 x7_1) != 45) = false := bne_eq_false_iff_eq.mpr c20
                              clear c20
                              have H' := Aside0.mk H
                              clear H
                              have p5 : 0 ≤ (x7_1 : Int) := of_decide_eq_true (by first | (with_reducible assumption) | assumption)
                              have q5 : x7_1 < (a0.size : Int) := of_decide_eq_true (by first | (with_reducible assumption) | assumption)
                              have hx5 := bt_at a0 x7_1
                              replace p5 := eq_true p5
                              replace q5 := eq_true q5
                              go_wp2
                              go_roundg k1
                              case measure => have := HK1.out; omega
                              case rel => exact ⟨(wrap64 (x7_1 + 1)), (by first | rfl | (simp; done) | (simp [*]; done)), H', ⟨by have := HK1.out; omega⟩, by repeat (first | exact Drawn0.refl _ | apply Drawn0.step)⟩
                            · rw [if_neg c20] at H
                              have c20b0 : ((bt a0 x7_1) == 45) = false := beq_eq_false_iff_ne.mpr c20
                              have c20b1 : ((bt a0 x7_1) != 45) = true := bne_iff_ne.mpr c20
                              by_cases c21 : ((bt a0 x7_1) = 95)
                              · rw [if_pos c21] at H
                                have c21b0 : ((bt a0 x7_1) == 95) = true := beq_iff_eq.mpr c21
                                have c21b1 : ((bt a0 x7_1) != 95) = false := bne_eq_false_iff_eq.mpr c21
                                clear c21
                                have H' := Aside0.mk H
                                clear H
                                have p5 : 0 ≤ (x7_1 : Int) := of_decide_eq_true (by first | (with_reducible assumption) | assumption)
                                have q5 : x7_1 < (a0.size : Int) := of_decide_eq_true (by first | (with_reducible assumption) | assumption)
                                have hx5 := bt_at a0 x7_1
                                replace p5 := eq_true p5
                                replace q5 := eq_true q5
                                go_wp2
                                go_roundg k1
                                case measure => have := HK1.out; omega
                                case rel => exact ⟨(wrap64 (x7_1 + 1)), (by first | rfl | (simp; done) | (simp [*]; done)), H', ⟨by have := HK1.out; omega⟩, by repeat (first | exact Drawn0.refl _ | apply Drawn0.step)⟩
                              · rw [if_neg c21] at H
                                have c21b0 : ((bt a0 x7_1) == 95) = false := beq_eq_false_iff_ne.mpr c21
                                have c21b1 : ((bt a0 x7_1) != 95) = true := bne_iff_ne.mpr c21
                                obtain rfl := Option.some.inj H
                                have p5 : 0 ≤ (x7_1 : Int) := of_decide_eq_true (by first | (with_reducible assumption) | assumption)
                                have q5 : x7_1 < (a0.size : Int) := of_decide_eq_true (by first | (with_reducible assumption) | assumption)
                                have hx5 := bt_at a0 x7_1
                                replace p5 := eq_true p5
                                replace q5 := eq_true q5
                                go_wp2
                                go_ret
                                exact ⟨by first | rfl | (simp; done) | (simp [*]; done), by repeat (first | exact Drawn0.refl _ | apply Drawn0.step)⟩
                · rw [if_neg c8] at H
                  have c8b0 : decide (65 ≤ (bt a0 x7_1)) = false := decide_eq_false c8
                  clear c8
                  by_cases c22 : (bt a0 x7_1) ≥ 48
                  · rw [if_pos c22] at H
                    have c22b0 : decide (48 ≤ (bt a0 x7_1)) = true := decide_eq_true c22
                    clear c22
                    by_cases c23 : (bt a0 x7_1) ≤ 57
                    · rw [if_pos c23] at H
                      have c23b0 : decide ((bt a0 x7_1) ≤ 57) = true := decide_eq_true c23
                      clear c23
                      have H' := Aside0.mk H
                      clear H
                      have p5 : 0 ≤ (x7_1 : Int) := of_decide_eq_true (by first | (with_reducible assumption) | assumption)
                      have q5 : x7_1 < (a0.size : Int) := of_decide_eq_true (by first | (with_reducible assumption) | assumption)
                      have hx5 := bt_at a0 x7_1
                      replace p5 := eq_true p5
                      replace q5 := eq_true q5
                      go_wp2
                      go_roundg k1
                      case measure => have := HK1.out; omega
                      case rel => exact ⟨(wrap64 (x7_1 + 1)), (by first | rfl | (simp; done) | (simp [*]; done)), H', ⟨by have := HK1.out; omega⟩, by repeat (first | exact Drawn0.refl _ | apply Drawn0.step)⟩
                    · rw [if_neg c23] at H
                      have c23b0 : decide ((bt a0 x7_1) ≤ 57) = false := decide_eq_false c23
                      clear c23
                      by_cases c24 : (bt a0 x7_1) = 46
                      · rw [if_pos c24] at H
                        have c24b0 : ((bt a0 x7_1) == 46) = true := beq_iff_eq.mpr c24
                        have c24b1 : ((bt a0 x7_1) != 46) = false := bne_eq_false_iff_eq.mpr c24
                        clear c24
                        have H' := Aside0.mk H
                        clear H
                        have p5 : 0 ≤ (x7_1 : Int) := of_decide_eq_true (by first | (with_reducible assumption) | assumption)
                        have q5 : x7_1 < (a0.size : Int) := of_decide_eq_true (by first | (with_reducible assumption) | assumption)
                        have hx5 := bt_at a0 x7_1
                        replace p5 := eq_true p5
                        replace q5 := eq_true q5
                        go_wp2
                        go_roundg k1
                        case measure => have := HK1.out; omega
                        case rel => exact ⟨(wrap64 (x7_1 + 1)), (by first | rfl | (simp; done) | (simp [*]; done)), H', ⟨by have := HK1.out; omega⟩, by repeat (first | exact Drawn0.refl _ | apply Drawn0.step)⟩
                      · rw [if_neg c24] at H
                        have c24b0 : ((bt a0 x7_1) == 46) = false := beq_eq_false_iff_ne.mpr c24
                        have c24b1 : ((bt a0 x7_1) != 46) = true := bne_iff_ne.mpr c24
                        by_cases c25 : (bt a0 x7_1) = 47
                        · rw [if_pos c25] at H
                          have c25b0 : ((bt a0 x7_1) == 47) = true := beq_iff_eq.mpr c25
                          have c25b1 : ((bt a0 x7_1) != 47) = false := bne_eq_false_iff_eq.mpr c25
                          clear c25
                          have H' := Aside0.mk H
                          clear H
                          have p5 : 0 ≤ (x7_1 : Int) := of_decide_eq_true (by first | (with_reducible assumption) | assumption)
                          have q5 : x7_1 < (a0.size : Int) := of_decide_eq_true (by first | (with_reducible assumption) | assumption)
                          have hx5 := bt_at a0 x7_1
                          replace p5 := eq_true p5
                          replace q5 := eq_true q5
                          go_wp2
                          go_roundg k1
                          case measure => have := HK1.out; omega
                          case rel => exact ⟨(wrap64 (x7_1 + 1)), (by first | rfl | (simp; done) | (simp [*]; done)), H', ⟨by have := HK1.out; omega⟩, by repeat (first | exact Drawn0.refl _ | apply Drawn0.step)⟩
                        · rw [if_neg c25] at H
                          have c25b0 : ((bt a0 x7_1) == 47) = false := beq_eq_false_iff_ne.mpr c25
                          have c25b1 : ((bt a0 x7_1) != 47) = true := bne_iff_ne.mpr c25
                          by_cases c26 : (bt a0 x7_1) = 58
                          · rw [if_pos c26] at H
                            have c26b0 : ((bt a0 x7_1) == 58) = true := beq_iff_eq.mpr c26
                            have c26b1 : ((bt a0 x7_1) != 58) = false := bne_eq_false_iff_eq.mpr c26
                            clear c26
                            have H' := Aside0.mk H
                            clear H
                            have p5 : 0 ≤ (x7_1 : Int) := of_decide_eq_true (by first | (with_reducible assumption) | assumption)
                            have q5 : x7_1 < (a0.size : Int) := of_decide_eq_true (by first | (with_reducible assumption) | assumption)
                            have hx5 := bt_at a0 x7_1
                            replace p5 := eq_true p5
                            replace q5 := eq_true q5
                            go_wp2
                            go_roundg k1
                            case measure => have := HK1.out; omega
                            case rel => exact ⟨(wrap64 (x7_1 + 1)), (by first | rfl | (simp; done) | (simp [*]; done)), H', ⟨by have := HK1.out; omega⟩, by repeat (first | exact Drawn0.refl _ | apply Drawn0.step)⟩
                          · rw [if_neg c26] at H
                            have c26b0 : ((bt a0 x7_1) == 58) = false := beq_eq_false_iff_ne.mpr c26
                            have c26b1 : ((bt a0 x7_1) != 58) = true := bne_iff_ne.mpr c26
                            by_cases c27 : (bt a0 x7_1) = 45
                            · rw [if_pos c27] at H
                              have c27b0 : ((bt a0 x7_1) == 45) = true := beq_iff_eq.mpr c27
                              have c27b1 : ((bt a0 x7_1) != 45) = false := bne_eq_false_iff_eq.mpr c27
                              clear c27
                              have H' := Aside0.mk H
                              clear H
                              have p5 : 0 ≤ (x7_1 : Int) := of_decide_eq_true (by first | (with_reducible assumption) | assumption)
                              have q5 : x7_1 < (a0.size : Int) := of_decide_eq_true (by first | (with_reducible assumption) | assumption)
                              have hx5 := bt_at a0 x7_1
                              replace p5 := eq_true p5
                              replace q5 := eq_true q5
                              go_wp2
                              go_roundg k1
                              case measure => have := HK1.out; omega
                              case rel => exact ⟨(wrap64 (x7_1 + 1)), (by first | rfl | (simp; done) | (simp [*]; done)), H', ⟨by have := HK1.out; omega⟩, by repeat (first | exact Drawn0.refl _ | apply Drawn0.step)⟩
                            · rw [if_neg c27] at H
                              have c27b0 : ((bt a0 x7_1) == 45) = false := beq_eq_false_iff_ne.mpr c27
                              have c27b1 : ((bt a0 x7_1) != 45) = true := bne_iff_ne.mpr c27
                              by_cases c28 : ((bt a0 x7_1) = 95)
                              · rw [if_pos c28] at H
                                have c28b0 : ((bt a0 x7_1) == 95) = true := beq_iff_eq.mpr c28
                                have c28b1 : ((bt a0 x7_1) != 95) = false := bne_eq_false_iff_eq.mpr c28
                                clear c28
                                have H' := Aside0.mk H
                                clear H
                                have p5 : 0 ≤ (x7_1 : Int) := of_decide_eq_true (by first | (with_reducible assumption) | assumption)
                                have q5 : x7_1 < (a0.size : Int) := of_decide_eq_true (by first | (with_reducible assumption) | assumption)
                                have hx5 := bt_at a0 x7_1
                                replace p5 := eq_true p5
                                replace q5 := eq_true q5
                                go_wp2
                                go_roundg k1
                                case measure => have := HK1.out; omega
                                case rel => exact ⟨(wrap64 (x7_1 + 1)), (by first | rfl | (simp; done) | (simp [*]; done)), H', ⟨by have := HK1.out; omega⟩, by repeat (first | exact Drawn0.refl _ | apply Drawn0.step)⟩
                              · rw [if_neg c28] at H
                                have c28b0 : ((bt a0 x7_1) == 95) = false := beq_eq_false_iff_ne.mpr c28
                                have c28b1 : ((bt a0 x7_1) != 95) = true := bne_iff_ne.mpr c28
                                obtain rfl := Option.some.inj H
                                have p5 : 0 ≤ (x7_1 : Int) := of_decide_eq_true (by first | (with_reducible assumption) | assumption)
                                have q5 : x7_1 < (a0.size : Int) := of_decide_eq_true (by first | (with_reducible assumption) | assumption)
                                have hx5 := bt_at a0 x7_1
                                replace p5 := eq_true p5
                                replace q5 := eq_true q5
                                go_wp2
                                go_ret
                                exact ⟨by first | rfl | (simp; done) | (simp [*]; done), by repeat (first | exact Drawn0.refl _ | apply Drawn0.step)⟩
                  · rw [if_neg c22] at H
                    have c22b0 : decide (48 ≤ (bt a0 x7_1)) = false := decide_eq_false c22
                    clear c22
                    by_cases c29 : (bt a0 x7_1) = 46
                    · rw [if_pos c29] at H
                      have c29b0 : ((bt a0 x7_1) == 46) = true := beq_iff_eq.mpr c29
                      have c29b1 : ((bt a0 x7_1) != 46) = false := bne_eq_false_iff_eq.mpr c29
                      clear c29
                      have H' := Aside0.mk H
                      clear H
                      have p5 : 0 ≤ (x7_1 : Int) := of_decide_eq_true (by first | (with_reducible assumption) | assumption)
                      have q5 : x7_1 < (a0.size : Int) := of_decide_eq_true (by first | (with_reducible assumption) | assumption)
                      have hx5 := bt_at a0 x7_1
                      replace p5 := eq_true p5
                      replace q5 := eq_true q5
                      go_wp2
                      go_roundg k1
                      case measure => have := HK1.out; omega
                      case rel => exact ⟨(wrap64 (x7_1 + 1)), (by first | rfl | (simp; done) | (simp [*]; done)), H', ⟨by have := HK1.out; omega⟩, by repeat (first | exact Drawn0.refl _ | apply Drawn0.step)⟩
                    · rw [if_neg c29] at H
                      have c29b0 : ((bt a0 x7_1) == 46) = false := beq_eq_false_iff_ne.mpr c29
                      have c29b1 : ((bt a0 x7_1) != 46) = true := bne_iff_ne.mpr c29
                      by_cases c30 : (bt a0 x7_1) = 47
                      · rw [if_pos c30] at H
                        have c30b0 : ((bt a0 x7_1) == 47) = true := beq_iff_eq.mpr c30
                        have c30b1 : ((bt a0 x7_1) != 47) = false := bne_eq_false_iff_eq.mpr c30
                        clear c30
                        have H' := Aside0.mk H
                        clear H
                        have p5 : 0 ≤ (x7_1 : Int) := of_decide_eq_true (by first | (with_reducible assumption) | assumption)
                        have q5 : x7_1 < (a0.size : Int) := of_decide_eq_true (by first | (with_reducible assumption) | assumption)
                        have hx5 := bt_at a0 x7_1
                        replace p5 := eq_true p5
                        replace q5 := eq_true q5
                        go_wp2
                        go_roundg k1
                        case measure => have := HK1.out; omega
                        case rel => exact ⟨(wrap64 (x7_1 + 1)), (by first | rfl | (simp; done) | (simp [*]; done)), H', ⟨by have := HK1.out; omega⟩, by repeat (first | exact Drawn0.refl _ | apply Drawn0.step)⟩
                      · rw [if_neg c30] at H
                        have c30b0 : ((bt a0 x7_1) == 47) = false := beq_eq_false_iff_ne.mpr c30
                        have c30b1 : ((bt a0 x7_1) != 47) = true := bne_iff_ne.mpr c30
                        by_cases c31 : (bt a0 x7_1) = 58
                        · rw [if_pos c31] at H
                          have c31b0 : ((bt a0 x7_1) == 58) = true := beq_iff_eq.mpr c31
                          have c31b1 : ((bt a0 x7_1) != 58) = false := bne_eq_false_iff_eq.mpr c31
                          clear c31
                          have H' := Aside0.mk H
                          clear H
                          have p5 : 0 ≤ (x7_1 : Int) := of_decide_eq_true (by first | (with_reducible assumption) | assumption)
                          have q5 : x7_1 < (a0.size : Int) := of_decide_eq_true (by first | (with_reducible assumption) | assumption)
                          have hx5 := bt_at a0 x7_1
                          replace p5 := eq_true p5
                          replace q5 := eq_true q5
                          go_wp2
                          go_roundg k1
                          case measure => have := HK1.out; omega
                          case rel => exact ⟨(wrap64 (x7_1 + 1)), (by first | rfl | (simp; done) | (simp [*]; done)), H', ⟨by have := HK1.out; omega⟩, by repeat (first | exact Drawn0.refl _ | apply Drawn0.step)⟩
                        · rw [if_neg c31] at H
                          have c31b0 : ((bt a0 x7_1) == 58) = false := beq_eq_false_iff_ne.mpr c31
                          have c31b1 : ((bt a0 x7_1) != 58) = true := bne_iff_ne.mpr c31
                          by_cases c32 : (bt a0 x7_1) = 45
                          · rw [if_pos c32] at H
                            have c32b0 : ((bt a0 x7_1) == 45) = true := beq_iff_eq.mpr c32
                            have c32b1 : ((bt a0 x7_1) != 45) = false := bne_eq_false_iff_eq.mpr c32
                            clear c32
                            have H' := Aside0.mk H
                            clear H
                            have p5 : 0 ≤ (x7_1 : Int) := of_decide_eq_true (by first | (with_reducible assumption) | assumption)
                            have q5 : x7_1 < (a0.size : Int) := of_decide_eq_true (by first | (with_reducible assumption) | assumption)
                            have hx5 := bt_at a0 x7_1
                            replace p5 := eq_true p5
                            replace q5 := eq_true q5
                            go_wp2
                            go_roundg k1
                            case measure => have := HK1.out; omega
                            case rel => exact ⟨(wrap64 (x7_1 + 1)), (by first | rfl | (simp; done) | (simp [*]; done)), H', ⟨by have := HK1.out; omega⟩, by repeat (first | exact Drawn0.refl _ | apply Drawn0.step)⟩
                          · rw [if_neg c32] at H
                            have c32b0 : ((bt a0 x7_1) == 45) = false := beq_eq_false_iff_ne.mpr c32
                            have c32b1 : ((bt a0 x7_1) != 45) = true := bne_iff_ne.mpr c32
                            by_cases c33 : ((bt a0 x7_1) = 95)
                            · rw [if_pos c33] at H
                              have c33b0 : ((bt a0 x7_1) == 95) = true := beq_iff_eq.mpr c33
                              have c33b1 : ((bt a0 x7_1) != 95) = false := bne_eq_false_iff_eq.mpr c33
                              clear c33
                              have H' := Aside0.mk H
                              clear H
                              have p5 : 0 ≤ (x7_1 : Int) := of_decide_eq_true (by first | (with_reducible assumption) | assumption)
                              have q5 : x7_1 < (a0.size : Int) := of_decide_eq_true (by first | (with_reducible assumption) | assumption)
                              have hx5 := bt_at a0 x7_1
                              replace p5 := eq_true p5
                              replace q5 := eq_true q5
                              go_wp2
                              go_roundg k1
                              case measure => have := HK1.out; omega
                              case rel => exact ⟨(wrap64 (x7_1 + 1)), (by first | rfl | (simp; done) | (simp [*]; done)), H', ⟨by have := HK1.out; omega⟩, by repeat (first | exact Drawn0.refl _ | apply Drawn0.step)⟩
                            · rw [if_neg c33] at H
                              have c33b0 : ((bt a0 x7_1) == 95) = false := beq_eq_false_iff_ne.mpr c33
                              have c33b1 : ((bt a0 x7_1) != 95) = true := bne_iff_ne.mpr c33
                              obtain rfl := Option.some.inj H
                              have p5 : 0 ≤ (x7_1 : Int) := of_decide_eq_true (by first | (with_reducible assumption) | assumption)
                              have q5 : x7_1 < (a0.size : Int) := of_decide_eq_true (by first | (with_reducible assumption) | assumption)
                              have hx5 := bt_at a0 x7_1
                              replace p5 := eq_true p5
                              replace q5 := eq_true q5
                              go_wp2
                              go_ret
                              exact ⟨by first | rfl | (simp; done) | (simp [*]; done), by repeat (first | exact Drawn0.refl _ | apply Drawn0.step)⟩
            · rw [if_neg c6] at H
              have c6b0 : decide (97 ≤ (bt a0 x7_1)) = false := decide_eq_false c6
              clear c6
              by_cases c34 : (bt a0 x7_1) ≥ 65
              · rw [if_pos c34] at H
                have c34b0 : decide (65 ≤ (bt a0 x7_1)) = true := decide_eq_true c34
                clear c34
                by_cases c35 : (bt a0 x7_1) ≤ 90
                · rw [if_pos c35] at H
                  have c35b0 : decide ((bt a0 x7_1) ≤ 90) = true := decide_eq_true c35
                  clear c35
                  have H' := Aside0.mk H
                  clear H
                  have p5 : 0 ≤ (x7_1 : Int) := of_decide_eq_true (by first | (with_reducible assumption) | assumption)
                  have q5 : x7_1 < (a0.size : Int) := of_decide_eq_true (by first | (with_reducible assumption) | assumption)
                  have hx5 := bt_at a0 x7_1
                  replace p5 := eq_true p5
                  replace q5 := eq_true q5
                  go_wp2
                  go_roundg k1
                  case measure => have := HK1.out; omega
                  case rel => exact ⟨(wrap64 (x7_1 + 1)), (by first | rfl | (simp; done) | (simp [*]; done)), H', ⟨by have := HK1.out; omega⟩, by repeat (first | exact Drawn0.refl _ | apply Drawn0.step)⟩
                · rw [if_neg c35] at H
                  have c35b0 : decide ((bt a0 x7_1) ≤ 90) = false := decide_eq_false c35
                  clear c35
                  by_cases c36 : (bt a0 x7_1) ≥ 48
                  · rw [if_pos c36] at H
                    have c36b0 : decide (48 ≤ (bt a0 x7_1)) = true := decide_eq_true c36
                    clear c36
                    by_cases c37 : (bt a0 x7_1) ≤ 57
                    · rw [if_pos c37] at H
                      have c37b0 : decide ((bt a0 x7_1) ≤ 57) = true := decide_eq_true c37
                      clear c37
                      have H' := Aside0.mk H
                      clear H
                      have p5 : 0 ≤ (x7_1 : Int) := of_decide_eq_true (by first | (with_reducible assumption) | assumption)
                      have q5 : x7_1 < (a0.size : Int) := of_decide_eq_true (by first | (with_reducible assumption) | assumption)
                      have hx5 := bt_at a0 x7_1
                      replace p5 := eq_true p5
                      replace q5 := eq_true q5
                      go_wp2
                      go_roundg k1
                      case measure => have := HK1.out; omega
                      case rel => exact ⟨(wrap64 (x7_1 + 1)), (by first | rfl | (simp; done) | (simp [*]; done)), H', ⟨by have := HK1.out; omega⟩, by repeat (first | exact Drawn0.refl _ | apply Drawn0.step)⟩
                    · rw [if_neg c37] at H
                      have c37b0 : decide ((bt a0 x7_1) ≤ 57) = false := decide_eq_false c37
                      clear c37
                      by_cases c38 : (bt a0 x7_1) = 46
                      · rw [if_pos c38] at H
                        have c38b0 : ((bt a0 x7_1) == 46) = true := beq_iff_eq.mpr c38
                        have c38b1 : ((bt a0 x7_1) != 46) = false := bne_eq_false_iff_eq.mpr c38
                        clear c38
                        have H' := Aside0.mk H
                        clear H
                        have p5 : 0 ≤ (x7_1 : Int) := of_decide_eq_true (by first | (with_reducible assumption) | assumption)
                        have q5 : x7_1 < (a0.size : Int) := of_decide_eq_true (by first | (with_reducible assumption) | assumption)
                        have hx5 := bt_at a0 x7_1
                        replace p5 := eq_true p5
                        replace q5 := eq_true q5
                        go_wp2
                        go_roundg k1
                        case measure => have := HK1.out; omega
                        case rel => exact ⟨(wrap64 (x7_1 + 1)), (by first | rfl | (simp; done) | (simp [*]; done)), H', ⟨by have := HK1.out; omega⟩, by repeat (first | exact Drawn0.refl _ | apply Drawn0.step)⟩
                      · rw [if_neg c38] at H
                        have c38b0 : ((bt a0 x7_1) == 46) = false := beq_eq_false_iff_ne.mpr c38
                        have c38b1 : ((bt a0 x7_1) != 46) = true := bne_iff_ne.mpr c38
                        by_cases c39 : (bt a0 x7_1) = 47
                        · rw [if_pos c39] at H
                          have c39b0 : ((bt a0 x7_1) == 47) = true := beq_iff_eq.mpr c39
                          have c39b1 : ((bt a0 x7_1) != 47) = false := bne_eq_false_iff_eq.mpr c39
                          clear c39
                          have H' := Aside0.mk H
                          clear H
                          have p5 : 0 ≤ (x7_1 : Int) := of_decide_eq_true (by first | (with_reducible assumption) | assumption)
                          have q5 : x7_1 < (a0.size : Int) := of_decide_eq_true (by first | (with_reducible assumption) | assumption)
                          have hx5 := bt_at a0 x7_1
                          replace p5 := eq_true p5
                          replace q5 := eq_true q5
                          go_wp2
                          go_roundg k1
                          case measure => have := HK1.out; omega
                          case rel => exact ⟨(wrap64 (x7_1 + 1)), (by first | rfl | (simp; done) | (simp [*]; done)), H', ⟨by have := HK1.out; omega⟩, by repeat (first | exact Drawn0.refl _ | apply Drawn0.step)⟩
                        · rw [if_neg c39] at H
                          have c39b0 : ((bt a0 x7_1) == 47) = false := beq_eq_false_iff_ne.mpr c39
                          have c39b1 : ((bt a0 x7_1) != 47) = true := bne_iff_ne.mpr c39
                          by_cases c40 : (bt a0 x7_1) = 58
                          · rw [if_pos c40] at H
                            have c40b0 : ((bt a0 x7_1) == 58) = true := beq_iff_eq.mpr c40
                            have c40b1 : ((bt a0 x7_1) != 58) = false := bne_eq_false_iff_eq.mpr c40
                            clear c40
                            have H' := Aside0.mk H
                            clear H
                            have p5 : 0 ≤ (x7_1 : Int) := of_decide_eq_true (by first | (with_reducible assumption) | assumption)
                            have q5 : x7_1 < (a0.size : Int) := of_decide_eq_true (by first | (with_reducible assumption) | assumption)
                            have hx5 := bt_at a0 x7_1
                            replace p5 := eq_true p5
                            replace q5 := eq_true q5
                            go_wp2
                            go_roundg k1
                            case measure => have := HK1.out; omega
                            case rel => exact ⟨(wrap64 (x7_1 + 1)), (by first | rfl | (simp; done) | (simp [*]; done)), H', ⟨by have := HK1.out; omega⟩, by repeat (first | exact Drawn0.refl _ | apply Drawn0.step)⟩
                          · rw [if_neg c40] at H
                            have c40b0 : ((bt a0 x7_1) == 58) = false := beq_eq_false_iff_ne.mpr c40
                            have c40b1 : ((bt a0 x7_1) != 58) = true := bne_iff_ne.mpr c40
                            by_cases c41 : (bt a0 x7_1) = 45
                            · rw [if_pos c41] at H
                              have c41b0 : ((bt a0 x7_1) == 45) = true := beq_iff_eq.mpr c41
                              have c41b1 : ((bt a0 x7_1) != 45) = false := bne_eq_false_iff_eq.mpr c41
                              clear c41
                              have H' := Aside0.mk H
                              clear H
                              have p5 : 0 ≤ (x7_1 : Int) := of_decide_eq_true (by first | (with_reducible assumption) | assumption)
                              have q5 : x7_1 < (a0.size : Int) := of_decide_eq_true (by first | (with_reducible assumption) | assumption)
                              have hx5 := bt_at a0 x7_1
                              replace p5 := eq_true p5
                              replace q5 := eq_true q5
                              go_wp2
                              go_roundg k1
                              case measure => have := HK1.out; omega
                              case rel => exact ⟨(wrap64 (x7_1 + 1)), (by first | rfl | (simp; done) | (simp [*]; done)), H', ⟨by have := HK1.out; omega⟩, by repeat (first | exact Drawn0.refl _ | apply Drawn0.step)⟩
                            · rw [if_neg c41] at H
                              have c41b0 : ((bt a0 x7_1) == 45) = false := beq_eq_false_iff_ne.mpr c41
                              have c41b1 : ((bt a0 x7_1) != 45) = true := bne_iff_ne.mpr c41
                              by_cases c42 : ((bt a0 x7_1) = 95)
                              · rw [if_pos c42] at H
                                have c42b0 : ((bt a0 x7_1) == 95) = true := beq_iff_eq.mpr c42
                                have c42b1 : ((bt a0 x7_1) != 95) = false := bne_eq_false_iff_eq.mpr c42
                                clear c42
                                have H' := Aside0.mk H
                                clear H
                                have p5 : 0 ≤ (x7_1 : Int) := of_decide_eq_true (by first | (with_reducible assumption) | assumption)
                                have q5 : x7_1 < (a0.size : Int) := of_decide_eq_true (by first | (with_reducible assumption) | assumption)
                                have hx5 := bt_at a0 x7_1
                                replace p5 := eq_true p5
                                replace q5 := eq_true q5
                                go_wp2
                                go_roundg k1
                                case measure => have := HK1.out; omega
                                case rel => exact ⟨(wrap64 (x7_1 + 1)), (by first | rfl | (simp; done) | (simp [*]; done)), H', ⟨by have := HK1.out; omega⟩, by repeat (first | exact Drawn0.refl _ | apply Drawn0.step)⟩
                              · rw [if_neg c42] at H
                                have c42b0 : ((bt a0 x7_1) == 95) = false := beq_eq_false_iff_ne.mpr c42
                                have c42b1 : ((bt a0 x7_1) != 95) = true := bne_iff_ne.mpr c42
                                obtain rfl := Option.some.inj H
                                have p5 : 0 ≤ (x7_1 : Int) := of_decide_eq_true (by first | (with_reducible assumption) | assumption)
                                have q5 : x7_1 < (a0.size : Int) := of_decide_eq_true (by first | (with_reducible assumption) | assumption)
                                have hx5 := bt_at a0 x7_1
                                replace p5 := eq_true p5
                                replace q5 := eq_true q5
                                go_wp2
                                go_ret
                                exact ⟨by first | rfl | (simp; done) | (simp [*]; done), by repeat (first | exact Drawn0.refl _ | apply Drawn0.step)⟩
                  · rw [if_neg c36] at H
                    have c36b0 : decide (48 ≤ (bt a0 x7_1)) = false := decide_eq_false c36
                    clear c36
                    by_cases c43 : (bt a0 x7_1) = 46
                    · rw [if_pos c43] at H
                      have c43b0 : ((bt a0 x7_1) == 46) = true := beq_iff_eq.mpr c43
                      have c43b1 : ((bt a0 x7_1) != 46) = false := bne_eq_false_iff_eq.mpr c43
                      clear c43
                      have H' := Aside0.mk H
                      clear H
                      have p5 : 0 ≤ (x7_1 : Int) := of_decide_eq_true (by first | (with_reducible assumption) | assumption)
                      have q5 : x7_1 < (a0.size : Int) := of_decide_eq_true (by first | (with_reducible assumption) | assumption)
                      have hx5 := bt_at a0 x7_1
                      replace p5 := eq_true p5
                      replace q5 := eq_true q5
                      go_wp2
                      go_roundg k1
                      case measure => have := HK1.out; omega
                      case rel => exact ⟨(wrap64 (x7_1 + 1)), (by first | rfl | (simp; done) | (simp [*]; done)), H', ⟨by have := HK1.out; omega⟩, by repeat (first | exact Drawn0.refl _ | apply Drawn0.step)⟩
                    · rw [if_neg c43] at H
                      have c43b0 : ((bt a0 x7_1) == 46) = false := beq_eq_false_iff_ne.mpr c43
                      have c43b1 : ((bt a0 x7_1) != 46) = true := bne_iff_ne.mpr c43
                      by_cases c44 : (bt a0 x7_1) = 47
                      · rw [if_pos c44] at H
                        have c44b0 : ((bt a0 x7_1) == 47) = true := beq_iff_eq.mpr c44
                        have c44b1 : ((bt a0 x7_1) != 47) = false := bne_eq_false_iff_eq.mpr c44
                        clear c44
                        have H' := Aside0.mk H
                        clear H
                        have p5 : 0 ≤ (x7_1 : Int) := of_decide_eq_true (by first | (with_reducible assumption) | assumption)
                        have q5 : x7_1 < (a0.size : Int) := of_decide_eq_true (by first | (with_reducible assumption) | assumption)
                        have hx5 := bt_at a0 x7_1
                        replace p5 := eq_true p5
                        replace q5 := eq_true q5
                        go_wp2
                        go_roundg k1
                        case measure => have := HK1.out; omega
                        case rel => exact ⟨(wrap64 (x7_1 + 1)), (by first | rfl | (simp; done) | (simp [*]; done)), H', ⟨by have := HK1.out; omega⟩, by repeat (first | exact Drawn0.refl _ | apply Drawn0.step)⟩
                      · rw [if_neg c44] at H
                        have c44b0 : ((bt a0 x7_1) == 47) = false := beq_eq_false_iff_ne.mpr c44
                        have c44b1 : ((bt a0 x7_1) != 47) = true := bne_iff_ne.mpr c44
                        by_cases c45 : (bt a0 x7_1) = 58
                        · rw [if_pos c45] at H
                          have c45b0 : ((bt a0 x7_1) == 58) = true := beq_iff_eq.mpr c45
                          have c45b1 : ((bt a0 x7_1) != 58) = false := bne_eq_false_iff_eq.mpr c45
                          clear c45
                          have H' := Aside0.mk H
                          clear H
                          have p5 : 0 ≤ (x7_1 : Int) := of_decide_eq_true (by first | (with_reducible assumption) | assumption)
                          have q5 : x7_1 < (a0.size : Int) := of_decide_eq_true (by first | (with_reducible assumption) | assumption)
                          have hx5 := bt_at a0 x7_1
                          replace p5 := eq_true p5
                          replace q5 := eq_true q5
                          go_wp2
                          go_roundg k1
                          case measure => have := HK1.out; omega
                          case rel => exact ⟨(wrap64 (x7_1 + 1)), (by first | rfl | (simp; done) | (simp [*]; done)), H', ⟨by have := HK1.out; omega⟩, by repeat (first | exact Drawn0.refl _ | apply Drawn0.step)⟩
                        · rw [if_neg c45] at H
                          have c45b0 : ((bt a0 x7_1) == 58) = false := beq_eq_false_iff_ne.mpr c45
                          have c45b1 : ((bt a0 x7_1) != 58) = true := bne_iff_ne.mpr c45
                          by_cases c46 : (bt a0 x7_1) = 45
                          · rw [if_pos c46] at H
                            have c46b0 : ((bt a0 x7_1) == 45) = true := beq_iff_eq.mpr c46
                            have c46b1 : ((bt a0 x7_1) != 45) = false := bne_eq_false_iff_eq.mpr c46
                            clear c46
                            have H' := Aside0.mk H
                            clear H
                            have p5 : 0 ≤ (x7_1 : Int) := of_decide_eq_true (by first | (with_reducible assumption) | assumption)
                            have q5 : x7_1 < (a0.size : Int) := of_decide_eq_true (by first | (with_reducible assumption) | assumption)
                            have hx5 := bt_at a0 x7_1
                            replace p5 := eq_true p5
                            replace q5 := eq_true q5
                            go_wp2
                            go_roundg k1
                            case measure => have := HK1.out; omega
                            case rel => exact ⟨(wrap64 (x7_1 + 1)), (by first | rfl | (simp; done) | (simp [*]; done)), H', ⟨by have := HK1.out; omega⟩, by repeat (first | exact Drawn0.refl _ | apply Drawn0.step)⟩
                          · rw [if_neg c46] at H
                            have c46b0 : ((bt a0 x7_1) == 45) = false := beq_eq_false_iff_ne.mpr c46
                            have c46b1 : ((bt a0 x7_1) != 45) = true := bne_iff_ne.mpr c46
                            by_cases c47 : ((bt a0 x7_1) = 95)
                            · rw [if_pos c47] at H
                              have c47b0 : ((bt a0 x7_1) == 95) = true := beq_iff_eq.mpr c47
                              have c47b1 : ((bt a0 x7_1) != 95) = false := bne_eq_false_iff_eq.mpr c47
                              clear c47
                              have H' := Aside0.mk H
                              clear H
                              have p5 : 0 ≤ (x7_1 : Int) := of_decide_eq_true (by first | (with_reducible assumption) | assumption)
                              have q5 : x7_1 < (a0.size : Int) := of_decide_eq_true (by first | (with_reducible assumption) | assumption)
                              have hx5 := bt_at a0 x7_1
                              replace p5 := eq_true p5
                              replace q5 := eq_true q5
                              go_wp2
                              go_roundg k1
                              case measure => have := HK1.out; omega
                              case rel => exact ⟨(wrap64 (x7_1 + 1)), (by first | rfl | (simp; done) | (simp [*]; done)), H', ⟨by have := HK1.out; omega⟩, by repeat (first | exact Drawn0.refl _ | apply Drawn0.step)⟩
                            · rw [if_neg c47] at H
                              have c47b0 : ((bt a0 x7_1) == 95) = false := beq_eq_false_iff_ne.mpr c47
                              have c47b1 : ((bt a0 x7_1) != 95) = true := bne_iff_ne.mpr c47
                              obtain rfl := Option.some.inj H
                              have p5 : 0 ≤ (x7_1 : Int) := of_decide_eq_true (by first | (with_reducible assumption) | assumption)
                              have q5 : x7_1 < (a0.size : Int) := of_decide_eq_true (by first | (with_reducible assumption) | assumption)
                              have hx5 := bt_at a0 x7_1
                              replace p5 := eq_true p5
                              replace q5 := eq_true q5
                              go_wp2
                              go_ret
                              exact ⟨by first | rfl | (simp; done) | (simp [*]; done), by repeat (first | exact Drawn0.refl _ | apply Drawn0.step)⟩
              · rw [if_neg c34] at H
                have c34b0 : decide (65 ≤ (bt a0 x7_1)) = false := decide_eq_false c34
                clear c34
                by_cases c48 : (bt a0 x7_1) ≥ 48
                · rw [if_pos c48] at H
                  have c48b0 : decide (48 ≤ (bt a0 x7_1)) = true := decide_eq_true c48
                  clear c48
                  by_cases c49 : (bt a0 x7_1) ≤ 57
                  · rw [if_pos c49] at H
                    have c49b0 : decide ((bt a0 x7_1) ≤ 57) = true := decide_eq_true c49
                    clear c49
                    have H' := Aside0.mk H
                    clear H
                    have p5 : 0 ≤ (x7_1 : Int) := of_decide_eq_true (by first | (with_reducible assumption) | assumption)
                    have q5 : x7_1 < (a0.size : Int) := of_decide_eq_true (by first | (with_reducible assumption) | assumption)
                    have hx5 := bt_at a0 x7_1
                    replace p5 := eq_true p5
                    replace q5 := eq_true q5
                    go_wp2
                    go_roundg k1
                    case measure => have := HK1.out; omega
                    case rel => exact ⟨(wrap64 (x7_1 + 1)), (by first | rfl | (simp; done) | (simp [*]; done)), H', ⟨by have := HK1.out; omega⟩, by repeat (first | exact Drawn0.refl _ | apply Drawn0.step)⟩
                  · rw [if_neg c49] at H
                    have c49b0 : decide ((bt a0 x7_1) ≤ 57) = false := decide_eq_false c49
                    clear c49
                    by_cases c50 : (bt a0 x7_1) = 46
                    · rw [if_pos c50] at H
                      have c50b0 : ((bt a0 x7_1) == 46) = true := beq_iff_eq.mpr c50
                      have c50b1 : ((bt a0 x7_1) != 46) = false := bne_eq_false_iff_eq.mpr c50
                      clear c50
                      have H' := Aside0.mk H
                      clear H
                      have p5 : 0 ≤ (x7_1 : Int) := of_decide_eq_true (by first | (with_reducible assumption) | assumption)
                      have q5 : x7_1 < (a0.size : Int) := of_decide_eq_true (by first | (with_reducible assumption) | assumption)
                      have hx5 := bt_at a0 x7_1
                      replace p5 := eq_true p5
                      replace q5 := eq_true q5
                      go_wp2
                      go_roundg k1
                      case measure => have := HK1.out; omega
                      case rel => exact ⟨(wrap64 (x7_1 + 1)), (by first | rfl | (simp; done) | (simp [*]; done)), H', ⟨by have := HK1.out; omega⟩, by repeat (first | exact Drawn0.refl _ | apply Drawn0.step)⟩
                    · rw [if_neg c50] at H
                      have c50b0 : ((bt a0 x7_1) == 46) = false := beq_eq_false_iff_ne.mpr c50
                      have c50b1 : ((bt a0 x7_1) != 46) = true := bne_iff_ne.mpr c50
                      by_cases c51 : (bt a0 x7_1) = 47
                      · rw [if_pos c51] at H
                        have c51b0 : ((bt a0 x7_1) == 47) = true := beq_iff_eq.mpr c51
                        have c51b1 : ((bt a0 x7_1) != 47) = false := bne_eq_false_iff_eq.mpr c51
                        clear c51
                        have H' := Aside0.mk H
                        clear H
                        have p5 : 0 ≤ (x7_1 : Int) := of_decide_eq_true (by first | (with_reducible assumption) | assumption)
                        have q5 : x7_1 < (a0.size : Int) := of_decide_eq_true (by first | (with_reducible assumption) | assumption)
                        have hx5 := bt_at a0 x7_1
                        replace p5 := eq_true p5
                        replace q5 := eq_true q5
                        go_wp2
                        go_roundg k1
                        case measure => have := HK1.out; omega
                        case rel => exact ⟨(wrap64 (x7_1 + 1)), (by first | rfl | (simp; done) | (simp [*]; done)), H', ⟨by have := HK1.out; omega⟩, by repeat (first | exact Drawn0.refl _ | apply Drawn0.step)⟩
                      · rw [if_neg c51] at H
                        have c51b0 : ((bt a0 x7_1) == 47) = false := beq_eq_false_iff_ne.mpr c51
                        have c51b1 : ((bt a0 x7_1) != 47) = true := bne_iff_ne.mpr c51
                        by_cases c52 : (bt a0 x7_1) = 58
                        · rw [if_pos c52] at H
                          have c52b0 : ((bt a0 x7_1) == 58) = true := beq_iff_eq.mpr c52
                          have c52b1 : ((bt a0 x7_1) != 58) = false := bne_eq_false_iff_eq.mpr c52
                          clear c52
                          have H' := Aside0.mk H
                          clear H
                          have p5 : 0 ≤ (x7_1 : Int) := of_decide_eq_true (by first | (with_reducible assumption) | assumption)
                          have q5 : x7_1 < (a0.size : Int) := of_decide_eq_true (by first | (with_reducible assumption) | assumption)
                          have hx5 := bt_at a0 x7_1
                          replace p5 := eq_true p5
                          replace q5 := eq_true q5
                          go_wp2
                          go_roundg k1
                          case measure => have := HK1.out; omega
                          case rel => exact ⟨(wrap64 (x7_1 + 1)), (by first | rfl | (simp; done) | (simp [*]; done)), H', ⟨by have := HK1.out; omega⟩, by repeat (first | exact Drawn0.refl _ | apply Drawn0.step)⟩
                        · rw [if_neg c52] at H
                          have c52b0 : ((bt a0 x7_1) == 58) = false := beq_eq_false_iff_ne.mpr c52
                          have c52b1 : ((bt a0 x7_1) != 58) = true := bne_iff_ne.mpr c52
                          by_cases c53 : (bt a0 x7_1) = 45
                          · rw [if_pos c53] at H
                            have c53b0 : ((bt a0 x7_1) == 45) = true := beq_iff_eq.mpr c53
                            have c53b1 : ((bt a0 x7_1) != 45) = false := bne_eq_false_iff_eq.mpr c53
                            clear c53
                            have H' := Aside0.mk H
                            clear H
                            have p5 : 0 ≤ (x7_1 : Int) := of_decide_eq_true (by first | (with_reducible assumption) | assumption)
                            have q5 : x7_1 < (a0.size : Int) := of_decide_eq_true (by first | (with_reducible assumption) | assumption)
                            have hx5 := bt_at a0 x7_1
                            replace p5 := eq_true p5
                            replace q5 := eq_true q5
                            go_wp2
                            go_roundg k1
                            case measure => have := HK1.out; omega
                            case rel => exact ⟨(wrap64 (x7_1 + 1)), (by first | rfl | (simp; done) | (simp [*]; done)), H', ⟨by have := HK1.out; omega⟩, by repeat (first | exact Drawn0.refl _ | apply Drawn0.step)⟩
                          · rw [if_neg c53] at H
                            have c53b0 : ((bt a0 x7_1) == 45) = false := beq_eq_false_iff_ne.mpr c53
                            have c53b1 : ((bt a0 x7_1) != 45) = true := bne_iff_ne.mpr c53
                            by_cases c54 : ((bt a0 x7_1) = 95)
                            · rw [if_pos c54] at H
                              have c54b0 : ((bt a0 x7_1) == 95) = true := beq_iff_eq.mpr c54
                              have c54b1 : ((bt a0 x7_1) != 95) = false := bne_eq_false_iff_eq.mpr c54
                              clear c54
                              have H' := Aside0.mk H
                              clear H
                              have p5 : 0 ≤ (x7_1 : Int) := of_decide_eq_true (by first | (with_reducible assumption) | assumption)
                              have q5 : x7_1 < (a0.size : Int) := of_decide_eq_true (by first | (with_reducible assumption) | assumption)
                              have hx5 := bt_at a0 x7_1
                              replace p5 := eq_true p5
                              replace q5 := eq_true q5
                              go_wp2
                              go_roundg k1
                              case measure => have := HK1.out; omega
                              case rel => exact ⟨(wrap64 (x7_1 + 1)), (by first | rfl | (simp; done) | (simp [*]; done)), H', ⟨by have := HK1.out; omega⟩, by repeat (first | exact Drawn0.refl _ | apply Drawn0.step)⟩
                            · rw [if_neg c54] at H
                              have c54b0 : ((bt a0 x7_1) == 95) = false := beq_eq_false_iff_ne.mpr c54
                              have c54b1 : ((bt a0 x7_1) != 95) = true := bne_iff_ne.mpr c54
                              obtain rfl := Option.some.inj H
                              have p5 : 0 ≤ (x7_1 : Int) := of_decide_eq_true (by first | (with_reducible assumption) | assumption)
                              have q5 : x7_1 < (a0.size : Int) := of_decide_eq_true (by first | (with_reducible assumption) | assumption)
                              have hx5 := bt_at a0 x7_1
                              replace p5 := eq_true p5
                              replace q5 := eq_true q5
                              go_wp2
                              go_ret
                              exact ⟨by first | rfl | (simp; done) | (simp [*]; done), by repeat (first | exact Drawn0.refl _ | apply Drawn0.step)⟩
                · rw [if_neg c48] at H
                  have c48b0 : decide (48 ≤ (bt a0 x7_1)) = false := decide_eq_false c48
                  clear c48
                  by_cases c55 : (bt a0 x7_1) = 46
                  · rw [if_pos c55] at H
                    have c55b0 : ((bt a0 x7_1) == 46) = true := beq_iff_eq.mpr c55
                    have c55b1 : ((bt a0 x7_1) != 46) = false := bne_eq_false_iff_eq.mpr c55
                    clear c55
                    have H' := Aside0.mk H
                    clear H
                    have p5 : 0 ≤ (x7_1 : Int) := of_decide_eq_true (by first | (with_reducible assumption) | assumption)
                    have q5 : x7_1 < (a0.size : Int) := of_decide_eq_true (by first | (with_reducible assumption) | assumption)
                    have hx5 := bt_at a0 x7_1
                    replace p5 := eq_true p5
                    replace q5 := eq_true q5
                    go_wp2
                    go_roundg k1
                    case measure => have := HK1.out; omega
                    case rel => exact ⟨(wrap64 (x7_1 + 1)), (by first | rfl | (simp; done) | (simp [*]; done)), H', ⟨by have := HK1.out; omega⟩, by repeat (first | exact Drawn0.refl _ | apply Drawn0.step)⟩
                  · rw [if_neg c55] at H
                    have c55b0 : ((bt a0 x7_1) == 46) = false := beq_eq_false_iff_ne.mpr c55
                    have c55b1 : ((bt a0 x7_1) != 46) = true := bne_iff_ne.mpr c55
                    by_cases c56 : (bt a0 x7_1) = 47
                    · rw [if_pos c56] at H
                      have c56b0 : ((bt a0 x7_1) == 47) = true := beq_iff_eq.mpr c56
                      have c56b1 : ((bt a0 x7_1) != 47) = false := bne_eq_false_iff_eq.mpr c56
                      clear c56
                      have H' := Aside0.mk H
                      clear H
                      have p5 : 0 ≤ (x7_1 : Int) := of_decide_eq_true (by first | (with_reducible assumption) | assumption)
                      have q5 : x7_1 < (a0.size : Int) := of_decide_eq_true (by first | (with_reducible assumption) | assumption)
                      have hx5 := bt_at a0 x7_1
                      replace p5 := eq_true p5
                      replace q5 := eq_true q5
                      go_wp2
                      go_roundg k1
                      case measure => have := HK1.out; omega
                      case rel => exact ⟨(wrap64 (x7_1 + 1)), (by first | rfl | (simp; done) | (simp [*]; done)), H', ⟨by have := HK1.out; omega⟩, by repeat (first | exact Drawn0.refl _ | apply Drawn0.step)⟩
                    · rw [if_neg c56] at H
                      have c56b0 : ((bt a0 x7_1) == 47) = false := beq_eq_false_iff_ne.mpr c56
                      have c56b1 : ((bt a0 x7_1) != 47) = true := bne_iff_ne.mpr c56
                      by_cases c57 : (bt a0 x7_1) = 58
                      · rw [if_pos c57] at H
                        have c57b0 : ((bt a0 x7_1) == 58) = true := beq_iff_eq.mpr c57
                        have c57b1 : ((bt a0 x7_1) != 58) = false := bne_eq_false_iff_eq.mpr c57
                        clear c57
                        have H' := Aside0.mk H
                        clear H
                        have p5 : 0 ≤ (x7_1 : Int) := of_decide_eq_true (by first | (with_reducible assumption) | assumption)
                        have q5 : x7_1 < (a0.size : Int) := of_decide_eq_true (by first | (with_reducible assumption) | assumption)
                        have hx5 := bt_at a0 x7_1
                        replace p5 := eq_true p5
                        replace q5 := eq_true q5
                        go_wp2
                        go_roundg k1
                        case measure => have := HK1.out; omega
                        case rel => exact ⟨(wrap64 (x7_1 + 1)), (by first | rfl | (simp; done) | (simp [*]; done)), H', ⟨by have := HK1.out; omega⟩, by repeat (first | exact Drawn0.refl _ | apply Drawn0.step)⟩
                      · rw [if_neg c57] at H
                        have c57b0 : ((bt a0 x7_1) == 58) = false := beq_eq_false_iff_ne.mpr c57
                        have c57b1 : ((bt a0 x7_1) != 58) = true := bne_iff_ne.mpr c57
                        by_cases c58 : (bt a0 x7_1) = 45
                        · rw [if_pos c58] at H
                          have c58b0 : ((bt a0 x7_1) == 45) = true := beq_iff_eq.mpr c58
                          have c58b1 : ((bt a0 x7_1) != 45) = false := bne_eq_false_iff_eq.mpr c58
                          clear c58
                          have H' := Aside0.mk H
                          clear H
                          have p5 : 0 ≤ (x7_1 : Int) := of_decide_eq_true (by first | (with_reducible assumption) | assumption)
                          have q5 : x7_1 < (a0.size : Int) := of_decide_eq_true (by first | (with_reducible assumption) | assumption)
                          have hx5 := bt_at a0 x7_1
                          replace p5 := eq_true p5
                          replace q5 := eq_true q5
                          go_wp2
                          go_roundg k1
                          case measure => have := HK1.out; omega
                          case rel => exact ⟨(wrap64 (x7_1 + 1)), (by first | rfl | (simp; done) | (simp [*]; done)), H', ⟨by have := HK1.out; omega⟩, by repeat (first | exact Drawn0.refl _ | apply Drawn0.step)⟩
                        · rw [if_neg c58] at H
                          have c58b0 : ((bt a0 x7_1) == 45) = false := beq_eq_false_iff_ne.mpr c58
                          have c58b1 : ((bt a0 x7_1) != 45) = true := bne_iff_ne.mpr c58
                          by_cases c59 : ((bt a0 x7_1) = 95)
                          · rw [if_pos c59] at H
                            have c59b0 : ((bt a0 x7_1) == 95) = true := beq_iff_eq.mpr c59
                            have c59b1 : ((bt a0 x7_1) != 95) = false := bne_eq_false_iff_eq.mpr c59
                            clear c59
                            have H' := Aside0.mk H
                            clear H
                            have p5 : 0 ≤ (x7_1 : Int) := of_decide_eq_true (by first | (with_reducible assumption) | assumption)
                            have q5 : x7_1 < (a0.size : Int) := of_decide_eq_true (by first | (with_reducible assumption) | assumption)
                            have hx5 := bt_at a0 x7_1
                            replace p5 := eq_true p5
                            replace q5 := eq_true q5
                            go_wp2
                            go_roundg k1
                            case measure => have := HK1.out; omega
                            case rel => exact ⟨(wrap64 (x7_1 + 1)), (by first | rfl | (simp; done) | (simp [*]; done)), H', ⟨by have := HK1.out; omega⟩, by repeat (first | exact Drawn0.refl _ | apply Drawn0.step)⟩
                          · rw [if_neg c59] at H
                            have c59b0 : ((bt a0 x7_1) == 95) = false := beq_eq_false_iff_ne.mpr c59
                            have c59b1 : ((bt a0 x7_1) != 95) = true := bne_iff_ne.mpr c59
                            obtain rfl := Option.some.inj H
                            have p5 : 0 ≤ (x7_1 : Int) := of_decide_eq_true (by first | (with_reducible assumption) | assumption)
                            have q5 : x7_1 < (a0.size : Int) := of_decide_eq_true (by first | (with_reducible assumption) | assumption)
                            have hx5 := bt_at a0 x7_1
                            replace p5 := eq_true p5
                            replace q5 := eq_true q5
                            go_wp2
                            go_ret
                            exact ⟨by first | rfl | (simp; done) | (simp [*]; done), by repeat (first | exact Drawn0.refl _ | apply Drawn0.step)⟩
          · rw [if_neg c4] at H
            exact absurd H (by simp)
        · rw [if_neg c3] at H
          exact absurd H (by simp)
      · rw [if_neg c2] at H
        have c2b0 : decide (x7_1 < (a0.size : Int)) = false := decide_eq_false c2
        clear c2
        by_cases c60 : (a0.size : Int) ≥ 1
        · rw [if_pos c60] at H
          have c60b0 : decide (1 ≤ (a0.size : Int)) = true := decide_eq_true c60
          have c60b1 : decide (1 ≤ a0.size) = true := decide_eq_true (by omega)
          clear c60
          obtain rfl := Option.some.inj H
          go_wp2
          go_ret
          exact ⟨by first | rfl | (simp; done) | (simp [*]; done), by repeat (first | exact Drawn0.refl _ | apply Drawn0.step)⟩
        · rw [if_neg c60] at H
          have c60b0 : decide (1 ≤ (a0.size : Int)) = false := decide_eq_false c60
          have c60b1 : decide (1 ≤ a0.size) = false := decide_eq_false (by omega)
          clear c60
          obtain rfl := Option.some.inj H
          go_wp2
          go_ret
          exact ⟨by first | rfl | (simp; done) | (simp [*]; done), by repeat (first | exact Drawn0.refl _ | apply Drawn0.step)⟩

end Go.Proofs.YtdobblddnfalcaaDoor.PFnCapsWritten
