/- Contracts of functions of the specification and of the program, as a printer of the kit wrote them, some left out. -/
import Derived.Test.YtfjhgmnmadobjaaDoorPFnProtoReportWrittenx0
import Derived.Test.YtfjhgmnmadobjaaDoorPFnProtoReportWrittenx2
namespace Go.Proofs.YtfjhgmnmadobjaaDoor.PFnProtoReportWritten
open Go.RowKit Go.Proofs.YtfjhgmnmadobjaaDoorW.PrintWords Go.Proofs.YtfjhgmnmadobjaaDoorW.PrintLast Go.Proofs.YtfjhgmnmadobjaaDoorW.PrintMore
attribute [local go_sem] max2_int min2_int max_two min_two max_three min_three max_four min_four   -- for this text's walks alone
set_option linter.unusedVariables false
set_option linter.unusedSimpArgs false

/-! ### spec_isRefName: function 21 -/
def spec_isRefName.f (k : Nat) (a0 : ByteArray) : Option (Bool) := if (a0.size : Int) > 5 then (if 0 ≤ 5 then (if 5 ≤ (a0.size : Int) then (if (a0.extract 0 5).toList = ([114, 101, 102, 115, 47] : List UInt8) then ((spec_IsWord.f k a0).bind fun t122 => (some t122)) else (some false)) else (none)) else (none)) else (some false)
theorem spec_isRefName.mono : ∀ a0 k, LeO (spec_isRefName.f k a0) (spec_isRefName.f (k + 1) a0) := by
  intro a0 k
  unfold spec_isRefName.f
  repeat' first
      | (with_reducible exact spec_IsWord.mono _ _)
      | (with_reducible exact LeO.refl _)
      | (with_reducible exact LeO.none _)
      | (with_reducible refine LeO.ite ?_ ?_)
      | (with_reducible refine LeO.bind ?_ (fun _ => ?_))
      | exact spec_IsWord.mono _ _
      | exact LeO.none _
      | refine LeO.ite ?_ ?_
      | refine LeO.bind ?_ (fun _ => ?_)
set_option maxHeartbeats 8000000 in
set_option maxRecDepth 100000 in
theorem spec_isRefName.calls (k : Nat) (a0 : ByteArray) (r : Bool) (w : World) (h : spec_isRefName.f k a0 = some r) :
    Calls Tryd.prog 21 #[.string a0] w fun e w' => e = .returned (.bool r) ∧ Drawn0 w w' := by
  have H : (if (a0.size : Int) > 5 then (if 0 ≤ 5 then (if 5 ≤ (a0.size : Int) then (if (a0.extract 0 5).toList = ([114, 101, 102, 115, 47] : List UInt8) then ((spec_IsWord.f k a0).bind fun t122 => (some t122)) else (some false)) else (none)) else (none)) else (some false)) = some r := h
  clear h
  by_cases c2 : (a0.size : Int) > 5
  · rw [if_pos c2] at H
    have c2b0 : decide (5 < (a0.size : Int)) = true := decide_eq_true c2
    have c2b1 : decide (5 < a0.size) = true := decide_eq_true (by omega)
    clear c2
    by_cases c3 : 0 ≤ 5
    · rw [if_pos c3] at H
      have c3b0 := eq_true c3
      have c3b1 : decide (0 ≤ 5) = true := decide_eq_true c3
      clear c3
      by_cases c4 : 5 ≤ (a0.size : Int)
      · rw [if_pos c4] at H
        have c4b0 := eq_true c4
        have c4b1 : decide (5 ≤ (a0.size : Int)) = true := decide_eq_true c4
        clear c4
        by_cases c5 : (a0.extract 0 5).toList = ([114, 101, 102, 115, 47] : List UInt8)
        · rw [if_pos c5] at H
          have c5b0 : ((a0.extract 0 5).toList == ([114, 101, 102, 115, 47] : List UInt8)) = true := beq_iff_eq.mpr c5
          have c5b1 : ((a0.extract 0 5).toList != ([114, 101, 102, 115, 47] : List UInt8)) = false := bne_eq_false_iff_eq.mpr c5
          clear c5
          replace H := Option.bind_eq_some_iff.mp H
          obtain ⟨t122, A60, H⟩ := H
          replace H : (some t122) = some r := H
          have A6 := Aside0.mk A60
          clear A60
          obtain rfl := Option.some.inj H
          go_enter Tryd.func21, Tryd.ntmps21
          go_wp2_with (first | (go_at_call 15; (with_reducible refine (spec_IsWord.calls k a0 t122 _ A6.out).mono ?_); rintro e w' ⟨rfl, ⟨nd, rfl⟩⟩))
          go_ret
          exact ⟨by first | rfl | (simp; done) | (simp [*]; done), by repeat (first | exact Drawn0.refl _ | apply Drawn0.step)⟩
        · rw [if_neg c5] at H
          have c5b0 : ((a0.extract 0 5).toList == ([114, 101, 102, 115, 47] : List UInt8)) = false := beq_eq_false_iff_ne.mpr c5
          have c5b1 : ((a0.extract 0 5).toList != ([114, 101, 102, 115, 47] : List UInt8)) = true := bne_iff_ne.mpr c5
          obtain rfl := Option.some.inj H
          go_enter Tryd.func21, Tryd.ntmps21
          go_wp2
          go_ret
          exact ⟨by first | rfl | (simp; done) | (simp [*]; done), by repeat (first | exact Drawn0.refl _ | apply Drawn0.step)⟩
      · rw [if_neg c4] at H
        exact absurd H (by simp)
    · rw [if_neg c3] at H
      exact absurd H (by simp)
  · rw [if_neg c2] at H
    have c2b0 : decide (5 < (a0.size : Int)) = false := decide_eq_false c2
    have c2b1 : decide (5 < a0.size) = false := decide_eq_false (by omega)
    clear c2
    obtain rfl := Option.some.inj H
    go_enter Tryd.func21, Tryd.ntmps21
    go_wp2
    go_ret
    exact ⟨by first | rfl | (simp; done) | (simp [*]; done), by repeat (first | exact Drawn0.refl _ | apply Drawn0.step)⟩

/-! ### spec_GoodReport: function 12 -/
mutual
def spec_GoodReport.j0 : Nat → List (S53) → Bool → Option (Bool)
  | 0, _, _ => none
  | k + 1, x1, x16 => if x16 = true then (some false) else (spec_GoodReport.l0 k x1 x1 (x1.length : Int) 0)
def spec_GoodReport.l0 : Nat → List (S53) → List (S53) → Int → Int → Option (Bool)
  | 0, _, _, _, _ => none
  | k + 1, x1, x17, x18, x19 => if x19 < x18 then (if 0 ≤ x19 then (if x19 < (x17.length : Int) then ((spec_isRefName.f k ((rd_T53 x17 x19).f0)).bind fun t126 => (if t126 = true then ((spec_IsWord.f k ((rd_T53 x17 x19).f1)).bind fun t127 => (spec_GoodReport.j2 k x1 x19 x17 x18 x19 (!t127) ((rd_T53 x17 x19).f0) ((rd_T53 x17 x19).f1))) else (spec_GoodReport.j2 k x1 x19 x17 x18 x19 true ((rd_T53 x17 x19).f0) ((rd_T53 x17 x19).f1)))) else (none)) else (none)) else (some true)
def spec_GoodReport.j2 : Nat → List (S53) → Int → List (S53) → Int → Int → Bool → ByteArray → ByteArray → Option (Bool)
  | 0, _, _, _, _, _, _, _, _ => none
  | k + 1, x1, x5, x17, x18, x19, x33, x126000, x126001 => if x33 = true then (some false) else (if 0 ≤ x5 then (if x5 ≤ (x1.length : Int) then ((some (x1.take (x5 : Int).toNat : List (S53))).bind fun y128 => (spec_GoodReport.l1 k x1 x17 x18 x19 y128 (y128.length : Int) 0 x126000 x126001)) else (none)) else (none))
def spec_GoodReport.l1 : Nat → List (S53) → List (S53) → Int → Int → List (S53) → Int → Int → ByteArray → ByteArray → Option (Bool)
  | 0, _, _, _, _, _, _, _, _, _ => none
  | k + 1, x1, x17, x18, x19, x36, x37, x38, x126000, x126001 => if x38 < x37 then (if 0 ≤ x38 then (if x38 < (x36.length : Int) then (if ((rd_T53 x36 x38).f0).toList = x126000.toList then (some false) else (spec_GoodReport.l1 k x1 x17 x18 x19 x36 x37 (wrap64 (x38 + 1)) x126000 x126001)) else (none)) else (none)) else (spec_GoodReport.l0 k x1 x17 x18 (wrap64 (x19 + 1)))
end
def spec_GoodReport.f (k : Nat) (a0 : ByteArray) (l1 : List (S53)) : Option (Bool) := (spec_IsWord.f k a0).bind fun t123 => (if t123 = true then (spec_GoodReport.j0 k l1 (decide ((l1.length : Int) > 30))) else (spec_GoodReport.j0 k l1 true))
theorem spec_GoodReport.mono_l : ∀ k, (∀ y0 y1, LeO (spec_GoodReport.j0 k y0 y1) (spec_GoodReport.j0 (k + 1) y0 y1)) ∧ (∀ y0 y1 y2 y3, LeO (spec_GoodReport.l0 k y0 y1 y2 y3) (spec_GoodReport.l0 (k + 1) y0 y1 y2 y3)) ∧ (∀ y0 y1 y2 y3 y4 y5 y6 y7, LeO (spec_GoodReport.j2 k y0 y1 y2 y3 y4 y5 y6 y7) (spec_GoodReport.j2 (k + 1) y0 y1 y2 y3 y4 y5 y6 y7)) ∧ (∀ y0 y1 y2 y3 y4 y5 y6 y7 y8, LeO (spec_GoodReport.l1 k y0 y1 y2 y3 y4 y5 y6 y7 y8) (spec_GoodReport.l1 (k + 1) y0 y1 y2 y3 y4 y5 y6 y7 y8))
  | 0 => ⟨fun _ _ r h => by simp [spec_GoodReport.j0] at h, fun _ _ _ _ r h => by simp [spec_GoodReport.l0] at h, fun _ _ _ _ _ _ _ _ r h => by simp [spec_GoodReport.j2] at h, fun _ _ _ _ _ _ _ _ _ r h => by simp [spec_GoodReport.l1] at h⟩
  | k + 1 => by
    obtain ⟨ih0, ih1, ih2, ih3⟩ := spec_GoodReport.mono_l k
    refine ⟨?_, ?_, ?_, ?_⟩
    · intro y0 y1
      unfold spec_GoodReport.j0
      repeat' first
      | (with_reducible exact ih0 _ _)
      | (with_reducible exact ih1 _ _ _ _)
      | (with_reducible exact ih2 _ _ _ _ _ _ _ _)
      | (with_reducible exact ih3 _ _ _ _ _ _ _ _ _)
      | (with_reducible exact spec_IsWord.mono _ _)
      | (with_reducible exact spec_isRefName.mono _ _)
      | (with_reducible exact LeO.refl _)
      | (with_reducible exact LeO.none _)
      | (with_reducible refine LeO.ite ?_ ?_)
      | (with_reducible refine LeO.bind ?_ (fun _ => ?_))
      | exact ih0 _ _
      | exact ih1 _ _ _ _
      | exact ih2 _ _ _ _ _ _ _ _
      | exact ih3 _ _ _ _ _ _ _ _ _
      | exact spec_IsWord.mono _ _
      | exact spec_isRefName.mono _ _
      | exact LeO.none _
      | refine LeO.ite ?_ ?_
      | refine LeO.bind ?_ (fun _ => ?_)
    · intro y0 y1 y2 y3
      unfold spec_GoodReport.l0
      repeat' first
      | (with_reducible exact ih0 _ _)
      | (with_reducible exact ih1 _ _ _ _)
      | (with_reducible exact ih2 _ _ _ _ _ _ _ _)
      | (with_reducible exact ih3 _ _ _ _ _ _ _ _ _)
      | (with_reducible exact spec_IsWord.mono _ _)
      | (with_reducible exact spec_isRefName.mono _ _)
      | (with_reducible exact LeO.refl _)
      | (with_reducible exact LeO.none _)
      | (with_reducible refine LeO.ite ?_ ?_)
      | (with_reducible refine LeO.bind ?_ (fun _ => ?_))
      | exact ih0 _ _
      | exact ih1 _ _ _ _
      | exact ih2 _ _ _ _ _ _ _ _
      | exact ih3 _ _ _ _ _ _ _ _ _
      | exact spec_IsWord.mono _ _
      | exact spec_isRefName.mono _ _
      | exact LeO.none _
      | refine LeO.ite ?_ ?_
      | refine LeO.bind ?_ (fun _ => ?_)
    · intro y0 y1 y2 y3 y4 y5 y6 y7
      unfold spec_GoodReport.j2
      repeat' first
      | (with_reducible exact ih0 _ _)
      | (with_reducible exact ih1 _ _ _ _)
      | (with_reducible exact ih2 _ _ _ _ _ _ _ _)
      | (with_reducible exact ih3 _ _ _ _ _ _ _ _ _)
      | (with_reducible exact spec_IsWord.mono _ _)
      | (with_reducible exact spec_isRefName.mono _ _)
      | (with_reducible exact LeO.refl _)
      | (with_reducible exact LeO.none _)
      | (with_reducible refine LeO.ite ?_ ?_)
      | (with_reducible refine LeO.bind ?_ (fun _ => ?_))
      | exact ih0 _ _
      | exact ih1 _ _ _ _
      | exact ih2 _ _ _ _ _ _ _ _
      | exact ih3 _ _ _ _ _ _ _ _ _
      | exact spec_IsWord.mono _ _
      | exact spec_isRefName.mono _ _
      | exact LeO.none _
      | refine LeO.ite ?_ ?_
      | refine LeO.bind ?_ (fun _ => ?_)
    · intro y0 y1 y2 y3 y4 y5 y6 y7 y8
      unfold spec_GoodReport.l1
      repeat' first
      | (with_reducible exact ih0 _ _)
      | (with_reducible exact ih1 _ _ _ _)
      | (with_reducible exact ih2 _ _ _ _ _ _ _ _)
      | (with_reducible exact ih3 _ _ _ _ _ _ _ _ _)
      | (with_reducible exact spec_IsWord.mono _ _)
      | (with_reducible exact spec_isRefName.mono _ _)
      | (with_reducible exact LeO.refl _)
      | (with_reducible exact LeO.none _)
      | (with_reducible refine LeO.ite ?_ ?_)
      | (with_reducible refine LeO.bind ?_ (fun _ => ?_))
      | exact ih0 _ _
      | exact ih1 _ _ _ _
      | exact ih2 _ _ _ _ _ _ _ _
      | exact ih3 _ _ _ _ _ _ _ _ _
      | exact spec_IsWord.mono _ _
      | exact spec_isRefName.mono _ _
      | exact LeO.none _
      | refine LeO.ite ?_ ?_
      | refine LeO.bind ?_ (fun _ => ?_)
theorem spec_GoodReport.mono : ∀ a0 a1 k, LeO (spec_GoodReport.f k a0 a1) (spec_GoodReport.f (k + 1) a0 a1) := by
  intro a0 a1 k
  obtain ⟨ih0, ih1, ih2, ih3⟩ := spec_GoodReport.mono_l k
  unfold spec_GoodReport.f
  repeat' first
      | (with_reducible exact ih0 _ _)
      | (with_reducible exact ih1 _ _ _ _)
      | (with_reducible exact ih2 _ _ _ _ _ _ _ _)
      | (with_reducible exact ih3 _ _ _ _ _ _ _ _ _)
      | (with_reducible exact spec_IsWord.mono _ _)
      | (with_reducible exact spec_isRefName.mono _ _)
      | (with_reducible exact LeO.refl _)
      | (with_reducible exact LeO.none _)
      | (with_reducible refine LeO.ite ?_ ?_)
      | (with_reducible refine LeO.bind ?_ (fun _ => ?_))
      | exact ih0 _ _
      | exact ih1 _ _ _ _
      | exact ih2 _ _ _ _ _ _ _ _
      | exact ih3 _ _ _ _ _ _ _ _ _
      | exact spec_IsWord.mono _ _
      | exact spec_isRefName.mono _ _
      | exact LeO.none _
      | refine LeO.ite ?_ ?_
      | refine LeO.bind ?_ (fun _ => ?_)
set_option maxHeartbeats 8000000 in
set_option maxRecDepth 100000 in
theorem spec_GoodReport.calls (k : Nat) (a0 : ByteArray) (A1 : Option Addr) (c1 : Nat) (l1 : List (S53)) (r : Bool) (w : World) (hr1 : Kd.C k53 w A1 l1.length l1) (hc1 : l1.length ≤ c1) (h : spec_GoodReport.f k a0 l1 = some r) :
    Calls Tryd.prog 12 #[.string a0, .slice A1 l1.length c1] w fun e w' => e = .returned (.bool r) ∧ Below w.heap.size w w' := by
  have hu53 := Tryd.underlying53
  have HR1 := Aside0.mk hr1
  have HC1 := Aside0.mk hc1
  clear hr1 hc1
  have HB := Aside0.mk (Below.refl w.heap.size w)
  have H : ((spec_IsWord.f k a0).bind fun t123 => (if t123 = true then (spec_GoodReport.j0 k l1 (decide ((l1.length : Int) > 30))) else (spec_GoodReport.j0 k l1 true))) = some r := h
  clear h
  have HC3 := Aside0.mk H
  clear H
  go_enter Tryd.func12, Tryd.ntmps12
  go_upto_region 1 with (fail)
  go_cut [16] (fun v16 wc => ∃ (kq : Nat) (x16_2 : Bool), v16 = .bool x16_2 ∧ Aside0 (spec_GoodReport.j0 kq l1 x16_2 = some r) ∧ Aside0 (kq ≤ k) ∧ Aside0 (Below w.heap.size w wc))
  case first =>
    have H := HC3.out
    clear HC3
    replace H := Option.bind_eq_some_iff.mp H
    obtain ⟨t123, A40, H⟩ := H
    replace H : (if t123 = true then (spec_GoodReport.j0 k l1 (decide ((l1.length : Int) > 30))) else (spec_GoodReport.j0 k l1 true)) = some r := H
    have A4 := Aside0.mk A40
    clear A40
    by_cases c5 : t123 = true
    · subst c5
      have H1 : (spec_GoodReport.j0 k l1 (decide ((l1.length : Int) > 30))) = some r := by rw [if_pos rfl] at H; exact H
      clear H
      have H := H1
      clear H1
      have H' := Aside0.mk H
      clear H
      go_wp2_with (first | ((with_reducible refine gate_callee (f := 15) rfl ?_); refine goesL_ (some 10) rfl rfl Tryd.func15 (by kernel_rfl) rfl #[.string a0] rfl (by (try simp only [List.map_toArray, List.map_cons, List.map_nil]); first | done | rfl | (simp only [List.length_drop, List.length_take]; rfl)) ?_; (with_reducible refine (spec_IsWord.calls k a0 true _ A4.out).mono ?_); rintro e w' ⟨rfl, ⟨nd, rfl⟩⟩; refine ⟨_, rfl, ?_⟩))
      go_meet
      case rel => exact ⟨_, (decide ((l1.length : Int) > 30)), (by first | rfl | (simp; done) | (simp [*]; done)), H', ⟨by first | omega | exact Nat.le_refl _⟩, ⟨by repeat (first | (with_reducible first | exact HB.out | apply below_alloc | apply pw_below_drewN | apply below_drew1) | exact HB.out)⟩⟩
    · replace c5 := Bool.eq_false_iff.mpr c5
      subst c5
      have H1 : (spec_GoodReport.j0 k l1 true) = some r := by rw [if_neg (show ¬ (false = true) by decide)] at H; exact H
      clear H
      have H := H1
      clear H1
      have H' := Aside0.mk H
      clear H
      go_wp2_with (first | ((with_reducible refine gate_callee (f := 15) rfl ?_); refine goesL_ (some 10) rfl rfl Tryd.func15 (by kernel_rfl) rfl #[.string a0] rfl (by (try simp only [List.map_toArray, List.map_cons, List.map_nil]); first | done | rfl | (simp only [List.length_drop, List.length_take]; rfl)) ?_; (with_reducible refine (spec_IsWord.calls k a0 false _ A4.out).mono ?_); rintro e w' ⟨rfl, ⟨nd, rfl⟩⟩; refine ⟨_, rfl, ?_⟩))
      go_meet
      case rel => exact ⟨_, (true), (by first | rfl | (simp; done) | (simp [*]; done)), H', ⟨by first | omega | exact Nat.le_refl _⟩, ⟨by repeat (first | (with_reducible first | exact HB.out | apply below_alloc | apply pw_below_drewN | apply below_drew1) | exact HB.out)⟩⟩
  case rest =>
    clear HC3
    try clear c1
    try clear p2
    try clear c5
    obtain ⟨kq, x16_2, rfl, HA, HJ2, HB⟩ := hcut
    cases kq with
    | zero => exact absurd HA.out (by simp [spec_GoodReport.j0])
    | succ kj2 =>
      have H := HA.out
      clear HA
      simp only [spec_GoodReport.j0] at H
      by_cases c6 : x16_2 = true
      · subst c6
        have H1 : (some false) = some r := by rw [if_pos rfl] at H; exact H
        clear H
        have H := H1
        clear H1
        obtain rfl := Option.some.inj H
        go_wp2
        go_ret
        exact ⟨by first | rfl | (simp [errW_none, errW_some] <;> rfl) | (simp [*, errW_none, errW_some] <;> rfl), by repeat (first | (with_reducible first | exact HB.out | apply below_alloc | apply pw_below_drewN | apply below_drew1) | exact HB.out)⟩
      · replace c6 := Bool.eq_false_iff.mpr c6
        subst c6
        have H1 : (spec_GoodReport.l0 kj2 l1 l1 (l1.length : Int) 0) = some r := by rw [if_neg (show ¬ (false = true) by decide)] at H; exact H
        clear H
        have H := H1
        clear H1
        have H' := Aside0.mk H
        clear H
        go_wp2
        go_loopg [19] kj2 (fun kq v19 w' => ∃ (x19_2 : Int), v19 = .int .i64 x19_2 ∧ Aside0 (spec_GoodReport.l0 kq l1 l1 (l1.length : Int) x19_2 = some r) ∧ Aside0 (kq ≤ kj2) ∧ Aside0 (Below w.heap.size w w'))
        case atStart => exact ⟨(0), (by first | rfl | (simp; done) | (simp [*]; done)), H', ⟨Nat.le_refl _⟩, ⟨by repeat (first | (with_reducible first | exact HB.out | apply below_alloc | apply pw_below_drewN | apply below_drew1) | exact HB.out)⟩⟩
        case round =>
          clear H'
          try clear c1
          try clear p2
          try clear c5
          try clear c6
          try clear p2
          obtain ⟨x19_2, rfl, HA, HK2, HB⟩ := hrel
          cases gk with
          | zero => exact absurd HA.out (by simp [spec_GoodReport.l0])
          | succ k2 =>
            have H := HA.out
            clear HA
            simp only [spec_GoodReport.l0] at H
            by_cases c7 : x19_2 < (l1.length : Int)
            · rw [if_pos c7] at H
              have c7b0 : decide (x19_2 < (l1.length : Int)) = true := decide_eq_true c7
              clear c7
              by_cases c8 : 0 ≤ x19_2
              · rw [if_pos c8] at H
                have c8b0 : decide (0 ≤ x19_2) = true := decide_eq_true c8
                clear c8
                by_cases c9 : x19_2 < (l1.length : Int)
                · rw [if_pos c9] at H
                  have c9b0 : decide (x19_2 < (l1.length : Int)) = true := decide_eq_true c9
                  clear c9
                  have HC10 := Aside0.mk H
                  clear H
                  have p124 : 0 ≤ (x19_2 : Int) := of_decide_eq_true (by first | (with_reducible assumption) | assumption)
                  have q124 : x19_2 < (l1.length : Int) := of_decide_eq_true (by first | (with_reducible assumption) | assumption)
                  obtain ⟨ad124, e124, hx124_0, hx124_1⟩ := at_T53 HR1.out x19_2 p124 q124
                  cases e124
                  replace hx124_0 := (HB.out.cell (World.block_lt_of_cell? w _ hx124_0)).trans hx124_0
                  replace hx124_1 := (HB.out.cell (World.block_lt_of_cell? w _ hx124_1)).trans hx124_1
                  replace p124 := eq_true p124
                  replace q124 := eq_true q124
                  go_upto_region 6 with (first | ((with_reducible refine gate_dst (N := 6) rfl ?_); (try (refine gate_guard (by rfl) ?_; dsimp only)); refine box_event ?hg (N := 6) ?hd (cs := #[.string (⟨#[]⟩ : ByteArray), .string (⟨#[]⟩ : ByteArray)]) (t := 53) ?hr ?_; (case hd => rfl); (case hg => rfl); (case hr => first | (go_simp; done) | (go_simp; rfl)); intro gb125 hg w11 hbox hb; have n0_ := Aside0.mk (below_step (by repeat (first | (with_reducible first | exact HB.out | apply below_alloc | apply pw_below_drewN | apply below_drew1) | exact HB.out)) hb); have n1_ := Aside0.mk (hbox); have n2_ := Aside0.mk ((by rw [hg]; exact (below_size (by repeat (first | (with_reducible first | exact HB.out | apply below_alloc | apply pw_below_drewN | apply below_drew1) | exact HB.out))) : w.heap.size ≤ gb125)); have n3_ := Aside0.mk ((by rw [hg]; exact (below_size (by repeat (first | (with_reducible first | exact HB.out | apply below_alloc | apply pw_below_drewN | apply below_drew1) | exact HB.out))) : w.heap.size ≤ gb125)); clear HB; have HB := n0_; have BK125 := n1_; have GW125 := n2_; have GE125 := n3_; clear n0_ n1_ n2_ n3_; clear hb hbox hg; have hcz12_0 : w11.cell? ⟨gb125, 0, none⟩ = some (.string (⟨#[]⟩ : ByteArray)) := (blk_cell BK125.out 0).trans rfl; have hcz12_1 : w11.cell? ⟨gb125, 1, none⟩ = some (.string (⟨#[]⟩ : ByteArray)) := (blk_cell BK125.out 1).trans rfl; have hfz12_0 := blk_frozen BK125.out 0; have hfz12_1 := blk_frozen BK125.out 1))
                  (try simp only [Act.put, List.setIfInBounds_toArray, List.set_cons_zero, List.set_cons_succ])
                  go_cut [33] (fun v33 wc => ∃ (kq : Nat) (x33_9 : Bool), v33 = .bool x33_9 ∧ Aside0 (spec_GoodReport.j2 kq l1 x19_2 l1 (l1.length : Int) x19_2 x33_9 ((rd_T53 l1 x19_2).f0) ((rd_T53 l1 x19_2).f1) = some r) ∧ Aside0 (kq ≤ k2) ∧ Aside0 (wc.heap[gb125]? = some (.cells #[.string ((rd_T53 l1 x19_2).f0), .string ((rd_T53 l1 x19_2).f1)] 53 (0, 0))) ∧ Aside0 (Below w.heap.size w wc))
                  case first =>
                    have H := HC10.out
                    clear HC10
                    replace H := Option.bind_eq_some_iff.mp H
                    obtain ⟨t126, A130, H⟩ := H
                    replace H : (if t126 = true then ((spec_IsWord.f k2 ((rd_T53 l1 x19_2).f1)).bind fun t127 => (spec_GoodReport.j2 k2 l1 x19_2 l1 (l1.length : Int) x19_2 (!t127) ((rd_T53 l1 x19_2).f0) ((rd_T53 l1 x19_2).f1))) else (spec_GoodReport.j2 k2 l1 x19_2 l1 (l1.length : Int) x19_2 true ((rd_T53 l1 x19_2).f0) ((rd_T53 l1 x19_2).f1))) = some r := H
                    have A13 := Aside0.mk A130
                    clear A130
                    by_cases c14 : t126 = true
                    · subst c14
                      have H1 : ((spec_IsWord.f k2 ((rd_T53 l1 x19_2).f1)).bind fun t127 => (spec_GoodReport.j2 k2 l1 x19_2 l1 (l1.length : Int) x19_2 (!t127) ((rd_T53 l1 x19_2).f0) ((rd_T53 l1 x19_2).f1))) = some r := by rw [if_pos rfl] at H; exact H
                      clear H
                      have H := H1
                      clear H1
                      replace H := Option.bind_eq_some_iff.mp H
                      obtain ⟨t127, A150, H⟩ := H
                      replace H : (spec_GoodReport.j2 k2 l1 x19_2 l1 (l1.length : Int) x19_2 (!t127) ((rd_T53 l1 x19_2).f0) ((rd_T53 l1 x19_2).f1)) = some r := H
                      have A15 := Aside0.mk A150
                      clear A150
                      have H' := Aside0.mk H
                      clear H
                      have hcz16_0 : w11.cell? ⟨gb125, 0, none⟩ = some (.string (⟨#[]⟩ : ByteArray)) := (blk_cell BK125.out 0).trans rfl
                      have hcz16_1 : w11.cell? ⟨gb125, 1, none⟩ = some (.string (⟨#[]⟩ : ByteArray)) := (blk_cell BK125.out 1).trans rfl
                      have hfz16_0 := blk_frozen BK125.out 0
                      have hfz16_1 := blk_frozen BK125.out 1
                      go_wp2_with (first | ((with_reducible refine gate_callee (f := 21) rfl ?_); refine goesL_ (some 26) rfl rfl Tryd.func21 (by kernel_rfl) rfl #[.string ((rd_T53 l1 x19_2).f0)] rfl (by (try simp only [List.map_toArray, List.map_cons, List.map_nil]); first | done | rfl | (simp only [List.length_drop, List.length_take]; rfl)) ?_; (with_reducible refine (spec_isRefName.calls k2 ((rd_T53 l1 x19_2).f0) true _ A13.out).mono ?_); rintro e w' ⟨rfl, ⟨nd, rfl⟩⟩; refine ⟨_, rfl, ?_⟩) | (go_at_call 15; (with_reducible refine (spec_IsWord.calls k2 ((rd_T53 l1 x19_2).f1) t127 _ A15.out).mono ?_); rintro e w' ⟨rfl, ⟨nd, rfl⟩⟩))
                      go_meet
                      case rel => exact ⟨_, (!t127), (by first | rfl | (simp; done) | (simp [*]; done)), H', ⟨by have := HJ2.out; have := HK2.out; first | omega | exact Nat.le_refl _⟩, ⟨by (with_reducible repeat (first | refine blk_drewN ?_ _ | refine blk_drew ?_ | refine blk_alloc ?_ _)); refine blk_put (cs := #[.string ((rd_T53 l1 x19_2).f0), .string (⟨#[]⟩ : ByteArray)]) ?_ 1 _ rfl; (with_reducible repeat (first | refine blk_drewN ?_ _ | refine blk_drew ?_ | refine blk_alloc ?_ _)); refine blk_put (cs := #[.string (⟨#[]⟩ : ByteArray), .string (⟨#[]⟩ : ByteArray)]) ?_ 0 _ rfl; (with_reducible repeat (first | refine blk_drewN ?_ _ | refine blk_drew ?_ | refine blk_alloc ?_ _)); exact BK125.out⟩, ⟨by repeat (first | (with_reducible first | exact HB.out | apply below_alloc | apply pw_below_drewN | apply below_drew1 | refine below_set ?_ GE125.out) | exact HB.out)⟩⟩
                    · replace c14 := Bool.eq_false_iff.mpr c14
                      subst c14
                      have H1 : (spec_GoodReport.j2 k2 l1 x19_2 l1 (l1.length : Int) x19_2 true ((rd_T53 l1 x19_2).f0) ((rd_T53 l1 x19_2).f1)) = some r := by rw [if_neg (show ¬ (false = true) by decide)] at H; exact H
                      clear H
                      have H := H1
                      clear H1
                      have H' := Aside0.mk H
                      clear H
                      have hcz17_0 : w11.cell? ⟨gb125, 0, none⟩ = some (.string (⟨#[]⟩ : ByteArray)) := (blk_cell BK125.out 0).trans rfl
                      have hcz17_1 : w11.cell? ⟨gb125, 1, none⟩ = some (.string (⟨#[]⟩ : ByteArray)) := (blk_cell BK125.out 1).trans rfl
                      have hfz17_0 := blk_frozen BK125.out 0
                      have hfz17_1 := blk_frozen BK125.out 1
                      go_wp2_with (first | ((with_reducible refine gate_callee (f := 21) rfl ?_); refine goesL_ (some 26) rfl rfl Tryd.func21 (by kernel_rfl) rfl #[.string ((rd_T53 l1 x19_2).f0)] rfl (by (try simp only [List.map_toArray, List.map_cons, List.map_nil]); first | done | rfl | (simp only [List.length_drop, List.length_take]; rfl)) ?_; (with_reducible refine (spec_isRefName.calls k2 ((rd_T53 l1 x19_2).f0) false _ A13.out).mono ?_); rintro e w' ⟨rfl, ⟨nd, rfl⟩⟩; refine ⟨_, rfl, ?_⟩))
                      go_meet
                      case rel => exact ⟨_, (true), (by first | rfl | (simp; done) | (simp [*]; done)), H', ⟨by have := HJ2.out; have := HK2.out; first | omega | exact Nat.le_refl _⟩, ⟨by (with_reducible repeat (first | refine blk_drewN ?_ _ | refine blk_drew ?_ | refine blk_alloc ?_ _)); refine blk_put (cs := #[.string ((rd_T53 l1 x19_2).f0), .string (⟨#[]⟩ : ByteArray)]) ?_ 1 _ rfl; (with_reducible repeat (first | refine blk_drewN ?_ _ | refine blk_drew ?_ | refine blk_alloc ?_ _)); refine blk_put (cs := #[.string (⟨#[]⟩ : ByteArray), .string (⟨#[]⟩ : ByteArray)]) ?_ 0 _ rfl; (with_reducible repeat (first | refine blk_drewN ?_ _ | refine blk_drew ?_ | refine blk_alloc ?_ _)); exact BK125.out⟩, ⟨by repeat (first | (with_reducible first | exact HB.out | apply below_alloc | apply pw_below_drewN | apply below_drew1 | refine below_set ?_ GE125.out) | exact HB.out)⟩⟩
                  case rest =>
                    clear HC10
                    try clear c1
                    try clear p1
                    try clear q1
                    try clear hx1
                    try clear c2
                    try clear p2
                    try clear c5
                    try clear c6
                    try clear c7
                    try clear c7b0
                    try clear c8
                    try clear c8b0
                    try clear c9
                    try clear c9b0
                    try clear c12
                    try clear p12
                    try clear q12
                    try clear hx12
                    try clear c14
                    try clear c15
                    try clear hcz12_0
                    try clear hcz12_1
                    try clear hcz16_0
                    try clear hcz16_1
                    try clear hcz17_0
                    try clear hcz17_1
                    try clear hfz12_0
                    try clear hfz12_1
                    try clear hfz16_0
                    try clear hfz16_1
                    try clear hfz17_0
                    try clear hfz17_1
                    try clear hx124_0
                    try clear hx124_1
                    try clear p124
                    try clear p2
                    try clear q124
                    obtain ⟨kq, x33_9, rfl, HA, HJ9, BK125, HB⟩ := hcut
                    cases kq with
                    | zero => exact absurd HA.out (by simp [spec_GoodReport.j2])
                    | succ kj9 =>
                      have H := HA.out
                      clear HA
                      simp only [spec_GoodReport.j2] at H
                      by_cases c18 : x33_9 = true
                      · subst c18
                        have H1 : (some false) = some r := by rw [if_pos rfl] at H; exact H
                        clear H
                        have H := H1
                        clear H1
                        obtain rfl := Option.some.inj H
                        go_wp2
                        go_ret
                        exact ⟨by first | rfl | (simp [errW_none, errW_some] <;> rfl) | (simp [*, errW_none, errW_some] <;> rfl), by repeat (first | (with_reducible first | exact HB.out | apply below_alloc | apply pw_below_drewN | apply below_drew1 | refine below_set ?_ GE125.out) | exact HB.out)⟩
                      · replace c18 := Bool.eq_false_iff.mpr c18
                        subst c18
                        have H1 : (if 0 ≤ x19_2 then (if x19_2 ≤ (l1.length : Int) then ((some (l1.take (x19_2 : Int).toNat : List (S53))).bind fun y128 => (spec_GoodReport.l1 kj9 l1 l1 (l1.length : Int) x19_2 y128 (y128.length : Int) 0 ((rd_T53 l1 x19_2).f0) ((rd_T53 l1 x19_2).f1))) else (none)) else (none)) = some r := by rw [if_neg (show ¬ (false = true) by decide)] at H; exact H
                        clear H
                        have H := H1
                        clear H1
                        by_cases c19 : 0 ≤ x19_2
                        · rw [if_pos c19] at H
                          have c19b0 := eq_true c19
                          have c19b1 : decide (0 ≤ x19_2) = true := decide_eq_true c19
                          clear c19
                          by_cases c20 : x19_2 ≤ (l1.length : Int)
                          · rw [if_pos c20] at H
                            have c20b0 := eq_true c20
                            have c20b1 : decide (x19_2 ≤ (l1.length : Int)) = true := decide_eq_true c20
                            clear c20
                            obtain ⟨y128, hy128⟩ : ∃ y_ : List (S53), y_ = (l1.take (x19_2 : Int).toNat) := ⟨_, rfl⟩
                            replace H : (spec_GoodReport.l1 kj9 l1 l1 (l1.length : Int) x19_2 y128 (y128.length : Int) 0 ((rd_T53 l1 x19_2).f0) ((rd_T53 l1 x19_2).f1)) = some r := by first | (rw [hy128]; with_reducible exact H) | (have H2_ := (Option.bind_some _ _).symm.trans H; rw [hy128]; with_reducible exact H2_) | (have H2_ := (Option.bind_some _ _).symm.trans H; with_reducible exact H2_) | with_reducible exact H | (rw [hy128]; exact H) | exact H
                            have Ny128 := Aside0.mk hy128
                            clear hy128
                            have H' := Aside0.mk H
                            clear H
                            have q21 : (x19_2 : Int) ≤ ((l1.length : Int) : Int) := of_decide_eq_true (by first | (with_reducible assumption) | assumption)
                            obtain ⟨i021, hi021, _, hsz21, _⟩ := info_parts info53
                            have hroom21 : l1.length ≤ c1 := HC1.out
                            have hC21 : Kd.C k53 _ (some ad124) l1.length l1 := HR1.out
                            have hcut21 := cut_to (P := Tryd.prog) 31 53 .i64 Tryd.underlying31 hi021 (some ad124) l1.length c1 x19_2 (of_decide_eq_true (by first | (with_reducible assumption) | assumption)) q21 hroom21
                            have hr21 := Kd.C_take (m := (x19_2 : Int).toNat) hC21 (by omega)
                            have hy21 : y128.length = (x19_2 : Int).toNat := (by rw [Ny128.out, List.length_take]; omega)
                            rw [← Ny128.out] at hr21
                            rw [← hy21] at hcut21
                            have HR131 := Aside0.mk hr21
                            have HC131 := Aside0.mk (show y128.length ≤ c1 from by omega)
                            clear hr21 hC21 hroom21 hi021 hsz21
                            have KY21 := Aside0.mk hy21
                            clear hy21
                            replace q21 := eq_true q21
                            go_wp2
                            go_loopg [38] kj9 (fun kq v38 w' => ∃ (x38_4 : Int), v38 = .int .i64 x38_4 ∧ Aside0 (spec_GoodReport.l1 kq l1 l1 (l1.length : Int) x19_2 y128 (y128.length : Int) x38_4 ((rd_T53 l1 x19_2).f0) ((rd_T53 l1 x19_2).f1) = some r) ∧ Aside0 (kq ≤ kj9) ∧ Aside0 (w'.heap[gb125]? = some (.cells #[.string ((rd_T53 l1 x19_2).f0), .string ((rd_T53 l1 x19_2).f1)] 53 (0, 0))) ∧ Aside0 (Below w.heap.size w w'))
                            case atStart => exact ⟨(0), (by first | rfl | (simp; done) | (simp [*]; done)), H', ⟨Nat.le_refl _⟩, ⟨by (with_reducible repeat (first | refine blk_drewN ?_ _ | refine blk_drew ?_ | refine blk_alloc ?_ _)); exact BK125.out⟩, ⟨by repeat (first | (with_reducible first | exact HB.out | apply below_alloc | apply pw_below_drewN | apply below_drew1 | refine below_set ?_ GE125.out) | exact HB.out)⟩⟩
                            case round =>
                              clear H'
                              try clear c1
                              try clear p1
                              try clear q1
                              try clear hx1
                              try clear c2
                              try clear p2
                              try clear q2
                              try clear c5
                              try clear c6
                              try clear c7
                              try clear c7b0
                              try clear c8
                              try clear c8b0
                              try clear c9
                              try clear c9b0
                              try clear c12
                              try clear p12
                              try clear q12
                              try clear hx12
                              try clear c14
                              try clear c15
                              try clear c18
                              try clear c19
                              try clear c19b0
                              try clear c19b1
                              try clear c20
                              try clear c20b0
                              try clear c20b1
                              try clear c21
                              try clear q21
                              try clear hcz12_0
                              try clear hcz12_1
                              try clear hcz16_0
                              try clear hcz16_1
                              try clear hcz17_0
                              try clear hcz17_1
                              try clear hfz12_0
                              try clear hfz12_1
                              try clear hfz16_0
                              try clear hfz16_1
                              try clear hfz17_0
                              try clear hfz17_1
                              try clear hx124_0
                              try clear hx124_1
                              try clear p1
                              try clear p12
                              try clear p124
                              try clear p2
                              try clear q1
                              try clear q12
                              try clear q124
                              try clear q21
                              obtain ⟨x38_4, rfl, HA, HK4, BK125, HB⟩ := hrel
                              cases gk with
                              | zero => exact absurd HA.out (by simp [spec_GoodReport.l1])
                              | succ k4 =>
                                have H := HA.out
                                clear HA
                                simp only [spec_GoodReport.l1] at H
                                by_cases c22 : x38_4 < (y128.length : Int)
                                · rw [if_pos c22] at H
                                  have c22b0 : decide (x38_4 < (y128.length : Int)) = true := decide_eq_true c22
                                  clear c22
                                  by_cases c23 : 0 ≤ x38_4
                                  · rw [if_pos c23] at H
                                    have c23b0 : decide (0 ≤ x38_4) = true := decide_eq_true c23
                                    clear c23
                                    by_cases c24 : x38_4 < (y128.length : Int)
                                    · rw [if_pos c24] at H
                                      have c24b0 : decide (x38_4 < (y128.length : Int)) = true := decide_eq_true c24
                                      clear c24
                                      by_cases c25 : ((rd_T53 y128 x38_4).f0).toList = ((rd_T53 l1 x19_2).f0).toList
                                      · rw [if_pos c25] at H
                                        have c25b0 : (((rd_T53 y128 x38_4).f0).toList == ((rd_T53 l1 x19_2).f0).toList) = true := beq_iff_eq.mpr c25
                                        have c25b1 : (((rd_T53 y128 x38_4).f0).toList != ((rd_T53 l1 x19_2).f0).toList) = false := bne_eq_false_iff_eq.mpr c25
                                        clear c25
                                        obtain rfl := Option.some.inj H
                                        have p132 : 0 ≤ (x38_4 : Int) := of_decide_eq_true (by first | (with_reducible assumption) | assumption)
                                        have q132 : x38_4 < (y128.length : Int) := of_decide_eq_true (by first | (with_reducible assumption) | assumption)
                                        obtain ⟨ad132, e132, hx132_0, hx132_1⟩ := at_T53 HR131.out x38_4 p132 q132
                                        obtain rfl : ad124 = ad132 := (by injection e132)
                                        replace hx132_0 := (HB.out.cell (World.block_lt_of_cell? w _ hx132_0)).trans hx132_0
                                        replace hx132_1 := (HB.out.cell (World.block_lt_of_cell? w _ hx132_1)).trans hx132_1
                                        replace p132 := eq_true p132
                                        replace q132 := eq_true q132
                                        go_wp2_with (first | ((with_reducible refine gate_dst (N := 8) rfl ?_); (try (refine gate_guard (by rfl) ?_; dsimp only)); refine box_event ?hg (N := 8) ?hd (cs := #[.string (⟨#[]⟩ : ByteArray), .string (⟨#[]⟩ : ByteArray)]) (t := 53) ?hr ?_; (case hd => rfl); (case hg => rfl); (case hr => first | (go_simp; done) | (go_simp; rfl)); intro gb133 hg w26 hbox hb; have n0_ := Aside0.mk (blk_below (g := gb125) (o := .cells #[.string ((rd_T53 l1 x19_2).f0), .string ((rd_T53 l1 x19_2).f1)] 53 (0, 0)) (by (with_reducible repeat (first | refine blk_drewN ?_ _ | refine blk_drew ?_ | refine blk_alloc ?_ _)); exact BK125.out) hb); have n1_ := Aside0.mk (below_step (by repeat (first | (with_reducible first | exact HB.out | apply below_alloc | apply pw_below_drewN | apply below_drew1 | refine below_set ?_ GE125.out) | exact HB.out)) hb); have n2_ := Aside0.mk (hbox); have n3_ := Aside0.mk ((by rw [hg]; exact (below_size (by repeat (first | (with_reducible first | exact HB.out | apply below_alloc | apply pw_below_drewN | apply below_drew1 | refine below_set ?_ GE125.out) | exact HB.out))) : w.heap.size ≤ gb133)); have n4_ := Aside0.mk ((by rw [hg]; exact (below_size (by repeat (first | (with_reducible first | exact HB.out | apply below_alloc | apply pw_below_drewN | apply below_drew1 | refine below_set ?_ GE125.out) | exact HB.out))) : w.heap.size ≤ gb133)); have n5_ := Aside0.mk ((by rw [hg]; exact Nat.ne_of_lt (blk_lt (g := gb125) (o := .cells #[.string ((rd_T53 l1 x19_2).f0), .string ((rd_T53 l1 x19_2).f1)] 53 (0, 0)) (by (with_reducible repeat (first | refine blk_drewN ?_ _ | refine blk_drew ?_ | refine blk_alloc ?_ _)); exact BK125.out)) : gb125 ≠ gb133)); have n6_ := Aside0.mk ((by rw [hg]; exact Nat.ne_of_gt (blk_lt (g := gb125) (o := .cells #[.string ((rd_T53 l1 x19_2).f0), .string ((rd_T53 l1 x19_2).f1)] 53 (0, 0)) (by (with_reducible repeat (first | refine blk_drewN ?_ _ | refine blk_drew ?_ | refine blk_alloc ?_ _)); exact BK125.out)) : gb133 ≠ gb125)); clear BK125; clear HB; have BK125 := n0_; have HB := n1_; have BK133 := n2_; have GW133 := n3_; have GE133 := n4_; have NB125_133 := n5_; have NB133_125 := n6_; clear n0_ n1_ n2_ n3_ n4_ n5_ n6_; clear hb hbox hg; have hnb27 := NB133_125.out; have hnc27 := NB125_133.out; have hcz28_0 : w26.cell? ⟨gb133, 0, none⟩ = some (.string (⟨#[]⟩ : ByteArray)) := (blk_cell BK133.out 0).trans rfl; have hcz28_1 : w26.cell? ⟨gb133, 1, none⟩ = some (.string (⟨#[]⟩ : ByteArray)) := (blk_cell BK133.out 1).trans rfl; have hfz28_0 := blk_frozen BK133.out 0; have hfz28_1 := blk_frozen BK133.out 1; have hcz29_0 : w26.cell? ⟨gb125, 0, none⟩ = some (.string ((rd_T53 l1 x19_2).f0)) := (blk_cell BK125.out 0).trans rfl; have hcz29_1 : w26.cell? ⟨gb125, 1, none⟩ = some (.string ((rd_T53 l1 x19_2).f1)) := (blk_cell BK125.out 1).trans rfl; have hfz29_0 := blk_frozen BK125.out 0; have hfz29_1 := blk_frozen BK125.out 1))
                                        go_ret
                                        exact ⟨by first | rfl | (simp [errW_none, errW_some] <;> rfl) | (simp [*, errW_none, errW_some] <;> rfl), by repeat (first | (with_reducible first | exact HB.out | apply below_alloc | apply pw_below_drewN | apply below_drew1 | refine below_set ?_ GE125.out | refine below_set ?_ GE133.out) | exact HB.out)⟩
                                      · rw [if_neg c25] at H
                                        have c25b0 : (((rd_T53 y128 x38_4).f0).toList == ((rd_T53 l1 x19_2).f0).toList) = false := beq_eq_false_iff_ne.mpr c25
                                        have c25b1 : (((rd_T53 y128 x38_4).f0).toList != ((rd_T53 l1 x19_2).f0).toList) = true := bne_iff_ne.mpr c25
                                        have H' := Aside0.mk H
                                        clear H
                                        have p132 : 0 ≤ (x38_4 : Int) := of_decide_eq_true (by first | (with_reducible assumption) | assumption)
                                        have q132 : x38_4 < (y128.length : Int) := of_decide_eq_true (by first | (with_reducible assumption) | assumption)
                                        obtain ⟨ad132, e132, hx132_0, hx132_1⟩ := at_T53 HR131.out x38_4 p132 q132
                                        obtain rfl : ad124 = ad132 := (by injection e132)
                                        replace hx132_0 := (HB.out.cell (World.block_lt_of_cell? w _ hx132_0)).trans hx132_0
                                        replace hx132_1 := (HB.out.cell (World.block_lt_of_cell? w _ hx132_1)).trans hx132_1
                                        replace p132 := eq_true p132
                                        replace q132 := eq_true q132
                                        go_wp2_with (first | ((with_reducible refine gate_dst (N := 8) rfl ?_); (try (refine gate_guard (by rfl) ?_; dsimp only)); refine box_event ?hg (N := 8) ?hd (cs := #[.string (⟨#[]⟩ : ByteArray), .string (⟨#[]⟩ : ByteArray)]) (t := 53) ?hr ?_; (case hd => rfl); (case hg => rfl); (case hr => first | (go_simp; done) | (go_simp; rfl)); intro gb133 hg w30 hbox hb; have n0_ := Aside0.mk (blk_below (g := gb125) (o := .cells #[.string ((rd_T53 l1 x19_2).f0), .string ((rd_T53 l1 x19_2).f1)] 53 (0, 0)) (by (with_reducible repeat (first | refine blk_drewN ?_ _ | refine blk_drew ?_ | refine blk_alloc ?_ _)); exact BK125.out) hb); have n1_ := Aside0.mk (below_step (by repeat (first | (with_reducible first | exact HB.out | apply below_alloc | apply pw_below_drewN | apply below_drew1 | refine below_set ?_ GE125.out) | exact HB.out)) hb); have n2_ := Aside0.mk (hbox); have n3_ := Aside0.mk ((by rw [hg]; exact (below_size (by repeat (first | (with_reducible first | exact HB.out | apply below_alloc | apply pw_below_drewN | apply below_drew1 | refine below_set ?_ GE125.out) | exact HB.out))) : w.heap.size ≤ gb133)); have n4_ := Aside0.mk ((by rw [hg]; exact (below_size (by repeat (first | (with_reducible first | exact HB.out | apply below_alloc | apply pw_below_drewN | apply below_drew1 | refine below_set ?_ GE125.out) | exact HB.out))) : w.heap.size ≤ gb133)); have n5_ := Aside0.mk ((by rw [hg]; exact Nat.ne_of_lt (blk_lt (g := gb125) (o := .cells #[.string ((rd_T53 l1 x19_2).f0), .string ((rd_T53 l1 x19_2).f1)] 53 (0, 0)) (by (with_reducible repeat (first | refine blk_drewN ?_ _ | refine blk_drew ?_ | refine blk_alloc ?_ _)); exact BK125.out)) : gb125 ≠ gb133)); have n6_ := Aside0.mk ((by rw [hg]; exact Nat.ne_of_gt (blk_lt (g := gb125) (o := .cells #[.string ((rd_T53 l1 x19_2).f0), .string ((rd_T53 l1 x19_2).f1)] 53 (0, 0)) (by (with_reducible repeat (first | refine blk_drewN ?_ _ | refine blk_drew ?_ | refine blk_alloc ?_ _)); exact BK125.out)) : gb133 ≠ gb125)); clear BK125; clear HB; have BK125 := n0_; have HB := n1_; have BK133 := n2_; have GW133 := n3_; have GE133 := n4_; have NB125_133 := n5_; have NB133_125 := n6_; clear n0_ n1_ n2_ n3_ n4_ n5_ n6_; clear hb hbox hg; have hnb31 := NB133_125.out; have hnc31 := NB125_133.out; have hcz32_0 : w30.cell? ⟨gb133, 0, none⟩ = some (.string (⟨#[]⟩ : ByteArray)) := (blk_cell BK133.out 0).trans rfl; have hcz32_1 : w30.cell? ⟨gb133, 1, none⟩ = some (.string (⟨#[]⟩ : ByteArray)) := (blk_cell BK133.out 1).trans rfl; have hfz32_0 := blk_frozen BK133.out 0; have hfz32_1 := blk_frozen BK133.out 1; have hcz33_0 : w30.cell? ⟨gb125, 0, none⟩ = some (.string ((rd_T53 l1 x19_2).f0)) := (blk_cell BK125.out 0).trans rfl; have hcz33_1 : w30.cell? ⟨gb125, 1, none⟩ = some (.string ((rd_T53 l1 x19_2).f1)) := (blk_cell BK125.out 1).trans rfl; have hfz33_0 := blk_frozen BK125.out 0; have hfz33_1 := blk_frozen BK125.out 1))
                                        go_roundg k4
                                        case measure => have := HJ2.out; have := HK2.out; have := HJ9.out; have := HK4.out; omega
                                        case rel => exact ⟨(wrap64 (x38_4 + 1)), (by first | rfl | (simp; done) | (simp [*]; done)), H', ⟨by have := HJ2.out; have := HK2.out; have := HJ9.out; have := HK4.out; omega⟩, ⟨by (with_reducible repeat (first | refine blk_drewN ?_ _ | refine blk_drew ?_ | refine blk_alloc ?_ _)); refine blk_far ?_ NB125_133.out _; (with_reducible repeat (first | refine blk_drewN ?_ _ | refine blk_drew ?_ | refine blk_alloc ?_ _)); refine blk_far ?_ NB125_133.out _; (with_reducible repeat (first | refine blk_drewN ?_ _ | refine blk_drew ?_ | refine blk_alloc ?_ _)); exact BK125.out⟩, ⟨by repeat (first | (with_reducible first | exact HB.out | apply below_alloc | apply pw_below_drewN | apply below_drew1 | refine below_set ?_ GE125.out | refine below_set ?_ GE133.out) | exact HB.out)⟩⟩
                                    · rw [if_neg c24] at H
                                      exact absurd H (by simp)
                                  · rw [if_neg c23] at H
                                    exact absurd H (by simp)
                                · rw [if_neg c22] at H
                                  have c22b0 : decide (x38_4 < (y128.length : Int)) = false := decide_eq_false c22
                                  clear c22
                                  have H' := Aside0.mk H
                                  clear H
                                  go_wp2
                                  go_roundg k4
                                  case measure => have := HJ2.out; have := HK2.out; have := HJ9.out; have := HK4.out; omega
                                  case rel => exact ⟨(wrap64 (x19_2 + 1)), (by first | rfl | (simp; done) | (simp [*]; done)), H', ⟨by have := HJ2.out; have := HK2.out; have := HJ9.out; have := HK4.out; omega⟩, ⟨by repeat (first | (with_reducible first | exact HB.out | apply below_alloc | apply pw_below_drewN | apply below_drew1 | refine below_set ?_ GE125.out) | exact HB.out)⟩⟩
                          · rw [if_neg c20] at H
                            exact absurd H (by simp)
                        · rw [if_neg c19] at H
                          exact absurd H (by simp)
                · rw [if_neg c9] at H
                  exact absurd H (by simp)
              · rw [if_neg c8] at H
                exact absurd H (by simp)
            · rw [if_neg c7] at H
              have c7b0 : decide (x19_2 < (l1.length : Int)) = false := decide_eq_false c7
              clear c7
              obtain rfl := Option.some.inj H
              go_wp2
              go_ret
              exact ⟨by first | rfl | (simp [errW_none, errW_some] <;> rfl) | (simp [*, errW_none, errW_some] <;> rfl), by repeat (first | (with_reducible first | exact HB.out | apply below_alloc | apply pw_below_drewN | apply below_drew1) | exact HB.out)⟩

-- NOT PRINTED: function 18 (bytes_Buffer_Bytes)

-- NOT PRINTED: function 22 (packp_NewReportStatus)

-- NOT PRINTED: function 30 (pktline_NewEncoder)

-- NOT PRINTED: function 35 (pktline_Encoder_Flush)

-- NOT PRINTED: function 51 (pktline_asciiHex16)

-- NOT PRINTED: function 41 (pktline_Encoder_encodeLine)

-- NOT PRINTED: function 31 (pktline_Encoder_Encode)

-- NOT PRINTED: function 33 (pktline_Encoder_EncodeString)

-- NOT PRINTED: function 52 (errors_New)

-- NOT PRINTED: function 42 (packp_CommandStatus_Error)

/-! ### plumbing_ReferenceName_String: function 43 -/
def plumbing_ReferenceName_String.f (a0 : ByteArray) : Option (ByteArray) := some a0
set_option maxHeartbeats 8000000 in
set_option maxRecDepth 100000 in
theorem plumbing_ReferenceName_String.calls (a0 : ByteArray) (r : ByteArray) (w : World) (h : plumbing_ReferenceName_String.f a0 = some r) :
    Calls Tryd.prog 43 #[.string a0] w fun e w' => e = .returned (.string r) ∧ Drawn0 w w' := by
  have H : (some a0) = some r := h
  clear h
  obtain rfl := Option.some.inj H
  go_enter Tryd.func43, Tryd.ntmps43
  go_wp2
  go_ret
  exact ⟨by first | rfl | (simp; done) | (simp [*]; done), by repeat (first | exact Drawn0.refl _ | apply Drawn0.step)⟩

-- NOT PRINTED: function 34 (packp_CommandStatus_encode)

-- NOT PRINTED: function 23 (packp_ReportStatus_Encode)

-- NOT PRINTED: function 13 (impl_WriteReport)

-- NOT PRINTED: function 14 (spec_ReportText)

-- NOT PRINTED: function 4 (laws_FnProtoReportWritten)

end Go.Proofs.YtfjhgmnmadobjaaDoor.PFnProtoReportWritten
