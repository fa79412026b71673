/- Contracts of functions of the specification, as a printer of the kit wrote them, one step mended. -/
import Derived.Test.YtoofbppfbbhliaaDoorPFnConfDropx0
import Derived.Test.YtoofbppfbbhliaaDoorPFnConfDropx1
import Derived.Test.YtoofbppfbbhliaaDoorMFnConfDropx2
import Derived.Test.YtoofbppfbbhliaaDoorMFnConfDropx3
namespace Go.Proofs.YtoofbppfbbhliaaDoor.PFnConfDrop
open Go.RowKit Go.Proofs.YtoofbppfbbhliaaDoorW.PrintWords Go.Proofs.YtoofbppfbbhliaaDoorW.PrintLast Go.Proofs.YtoofbppfbbhliaaDoorW.PrintMore
attribute [local go_sem] max2_int min2_int max_two min_two max_three min_three max_four min_four   -- for this text's walks alone
set_option linter.unusedVariables false
set_option linter.unusedSimpArgs false

/-! ### laws_cfAre: function 37 -/
def laws_cfAre.f (k : Nat) (l0 : List (S71)) (a1 : ByteArray) (a2 : ByteArray) (a3 : ByteArray) (a4 : ByteArray) : Option (Bool) := (spec_AreSections.f k l0).bind fun t141 => (if t141 = true then ((spec_IsConfWord.f k a1).bind fun t142 => (if t142 = true then (if a2.toList = ([] : List UInt8) then ((spec_IsConfWord.f k a3).bind fun t143 => (if t143 = true then ((spec_IsValue.f k a4).bind fun t144 => (some t144)) else (some false))) else ((spec_IsConfWord.f k a2).bind fun t145 => (if t145 = true then ((spec_IsConfWord.f k a3).bind fun t146 => (if t146 = true then ((spec_IsValue.f k a4).bind fun t147 => (some t147)) else (some false))) else (some false)))) else (some false))) else (some false))
theorem laws_cfAre.mono : ∀ a0 a1 a2 a3 a4 k, LeO (laws_cfAre.f k a0 a1 a2 a3 a4) (laws_cfAre.f (k + 1) a0 a1 a2 a3 a4) := by
  intro a0 a1 a2 a3 a4 k
  unfold laws_cfAre.f
  repeat' first
      | (with_reducible exact spec_AreSections.mono _ _)
      | (with_reducible exact spec_IsConfWord.mono _ _)
      | (with_reducible exact spec_IsValue.mono _ _)
      | (with_reducible exact LeO.refl _)
      | (with_reducible exact LeO.none _)
      | (with_reducible refine LeO.ite ?_ ?_)
      | (with_reducible refine LeO.bind ?_ (fun _ => ?_))
      | exact spec_AreSections.mono _ _
      | exact spec_IsConfWord.mono _ _
      | exact spec_IsValue.mono _ _
      | exact LeO.none _
      | refine LeO.ite ?_ ?_
      | refine LeO.bind ?_ (fun _ => ?_)
set_option maxHeartbeats 8000000 in
set_option maxRecDepth 100000 in
theorem laws_cfAre.calls (k : Nat) (A0 : Option Addr) (c0 : Nat) (l0 : List (S71)) (a1 : ByteArray) (a2 : ByteArray) (a3 : ByteArray) (a4 : ByteArray) (r : Bool) (w : World) (hr0 : Kd.C k71 w A0 l0.length l0) (hc0 : l0.length ≤ c0) (h : laws_cfAre.f k l0 a1 a2 a3 a4 = some r) :
    Calls Tryd.prog 37 #[.slice A0 l0.length c0, .string a1, .string a2, .string a3, .string a4] w fun e w' => e = .returned (.bool r) ∧ Below w.heap.size w w' := by
  have HR0 := Aside0.mk hr0
  have HC0 := Aside0.mk hc0
  clear hr0 hc0
  have HB := Aside0.mk (Below.refl w.heap.size w)
  have H : ((spec_AreSections.f k l0).bind fun t141 => (if t141 = true then ((spec_IsConfWord.f k a1).bind fun t142 => (if t142 = true then (if a2.toList = ([] : List UInt8) then ((spec_IsConfWord.f k a3).bind fun t143 => (if t143 = true then ((spec_IsValue.f k a4).bind fun t144 => (some t144)) else (some false))) else ((spec_IsConfWord.f k a2).bind fun t145 => (if t145 = true then ((spec_IsConfWord.f k a3).bind fun t146 => (if t146 = true then ((spec_IsValue.f k a4).bind fun t147 => (some t147)) else (some false))) else (some false)))) else (some false))) else (some false))) = some r := h
  clear h
  replace H := Option.bind_eq_some_iff.mp H
  obtain ⟨t141, A60, H⟩ := H
  replace H : (if t141 = true then ((spec_IsConfWord.f k a1).bind fun t142 => (if t142 = true then (if a2.toList = ([] : List UInt8) then ((spec_IsConfWord.f k a3).bind fun t143 => (if t143 = true then ((spec_IsValue.f k a4).bind fun t144 => (some t144)) else (some false))) else ((spec_IsConfWord.f k a2).bind fun t145 => (if t145 = true then ((spec_IsConfWord.f k a3).bind fun t146 => (if t146 = true then ((spec_IsValue.f k a4).bind fun t147 => (some t147)) else (some false))) else (some false)))) else (some false))) else (some false)) = some r := H
  have A6 := Aside0.mk A60
  clear A60
  by_cases c7 : t141 = true
  · subst c7
    have H1 : ((spec_IsConfWord.f k a1).bind fun t142 => (if t142 = true then (if a2.toList = ([] : List UInt8) then ((spec_IsConfWord.f k a3).bind fun t143 => (if t143 = true then ((spec_IsValue.f k a4).bind fun t144 => (some t144)) else (some false))) else ((spec_IsConfWord.f k a2).bind fun t145 => (if t145 = true then ((spec_IsConfWord.f k a3).bind fun t146 => (if t146 = true then ((spec_IsValue.f k a4).bind fun t147 => (some t147)) else (some false))) else (some false)))) else (some false))) = some r := by rw [if_pos rfl] at H; exact H
    clear H
    have H := H1
    clear H1
    replace H := Option.bind_eq_some_iff.mp H
    obtain ⟨t142, A80, H⟩ := H
    replace H : (if t142 = true then (if a2.toList = ([] : List UInt8) then ((spec_IsConfWord.f k a3).bind fun t143 => (if t143 = true then ((spec_IsValue.f k a4).bind fun t144 => (some t144)) else (some false))) else ((spec_IsConfWord.f k a2).bind fun t145 => (if t145 = true then ((spec_IsConfWord.f k a3).bind fun t146 => (if t146 = true then ((spec_IsValue.f k a4).bind fun t147 => (some t147)) else (some false))) else (some false)))) else (some false)) = some r := H
    have A8 := Aside0.mk A80
    clear A80
    by_cases c9 : t142 = true
    · subst c9
      have H1 : (if a2.toList = ([] : List UInt8) then ((spec_IsConfWord.f k a3).bind fun t143 => (if t143 = true then ((spec_IsValue.f k a4).bind fun t144 => (some t144)) else (some false))) else ((spec_IsConfWord.f k a2).bind fun t145 => (if t145 = true then ((spec_IsConfWord.f k a3).bind fun t146 => (if t146 = true then ((spec_IsValue.f k a4).bind fun t147 => (some t147)) else (some false))) else (some false)))) = some r := by rw [if_pos rfl] at H; exact H
      clear H
      have H := H1
      clear H1
      by_cases c10 : a2.toList = ([] : List UInt8)
      · rw [if_pos c10] at H
        have c10b0 : (a2.toList == ([] : List UInt8)) = true := beq_iff_eq.mpr c10
        have c10b1 : (a2.toList != ([] : List UInt8)) = false := bne_eq_false_iff_eq.mpr c10
        clear c10
        replace H := Option.bind_eq_some_iff.mp H
        obtain ⟨t143, A110, H⟩ := H
        replace H : (if t143 = true then ((spec_IsValue.f k a4).bind fun t144 => (some t144)) else (some false)) = some r := H
        have A11 := Aside0.mk A110
        clear A110
        by_cases c12 : t143 = true
        · subst c12
          have H1 : ((spec_IsValue.f k a4).bind fun t144 => (some t144)) = some r := by rw [if_pos rfl] at H; exact H
          clear H
          have H := H1
          clear H1
          replace H := Option.bind_eq_some_iff.mp H
          obtain ⟨t144, A130, H⟩ := H
          replace H : (some t144) = some r := H
          have A13 := Aside0.mk A130
          clear A130
          obtain rfl := Option.some.inj H
          go_enter Tryd.func37, Tryd.ntmps37
          go_wp2_with (first | ((with_reducible refine gate_callee (f := 63) rfl ?_); refine goesL_ (some 12) rfl rfl Tryd.func63 (by kernel_rfl) rfl #[.slice A0 l0.length c0] rfl (by (try simp only [List.map_toArray, List.map_cons, List.map_nil]); first | done | rfl | (simp only [List.length_drop, List.length_take]; rfl)) ?_; (with_reducible refine (spec_AreSections.calls k _ _ l0 true _ ?side1 ?side2 A6.out).mono ?_); (case side1 => repeat (first | exact HR0.out | (with_reducible refine Kd.C_alloc ?_ _) | (with_reducible refine Kd.C_drewN ?_ _) | (with_reducible refine Kd.C_drew ?_))); (case side2 => exact HC0.out); rintro e w14 ⟨rfl, hb⟩; refine ⟨_, rfl, ?_⟩; have n0_ := Aside0.mk (below_step (by repeat (first | (with_reducible first | exact HB.out | apply below_alloc | apply pw_below_drewN | apply below_drew1) | exact HB.out)) hb); clear HB; have HB := n0_; clear n0_; (try clear hb); (try clear hb2); (try clear hk); (try clear hi)) | (go_at_call 64; (with_reducible refine (spec_IsConfWord.calls k a1 true _ A8.out).mono ?_); rintro e w' ⟨rfl, ⟨nd, rfl⟩⟩) | (go_at_call 64; (with_reducible refine (spec_IsConfWord.calls k a3 true _ A11.out).mono ?_); rintro e w' ⟨rfl, ⟨nd, rfl⟩⟩) | (go_at_call 65; (with_reducible refine (spec_IsValue.calls k a4 t144 _ A13.out).mono ?_); rintro e w' ⟨rfl, ⟨nd, rfl⟩⟩))
          go_ret
          exact ⟨by first | rfl | (simp [errW_none, errW_some] <;> rfl) | (simp [*, errW_none, errW_some] <;> rfl), by repeat (first | (with_reducible first | exact HB.out | apply below_alloc | apply pw_below_drewN | apply below_drew1) | exact HB.out)⟩
        · replace c12 := Bool.eq_false_iff.mpr c12
          subst c12
          have H1 : (some false) = some r := by rw [if_neg (show ¬ (false = true) by decide)] at H; exact H
          clear H
          have H := H1
          clear H1
          obtain rfl := Option.some.inj H
          go_enter Tryd.func37, Tryd.ntmps37
          go_wp2_with (first | ((with_reducible refine gate_callee (f := 63) rfl ?_); refine goesL_ (some 12) rfl rfl Tryd.func63 (by kernel_rfl) rfl #[.slice A0 l0.length c0] rfl (by (try simp only [List.map_toArray, List.map_cons, List.map_nil]); first | done | rfl | (simp only [List.length_drop, List.length_take]; rfl)) ?_; (with_reducible refine (spec_AreSections.calls k _ _ l0 true _ ?side1 ?side2 A6.out).mono ?_); (case side1 => repeat (first | exact HR0.out | (with_reducible refine Kd.C_alloc ?_ _) | (with_reducible refine Kd.C_drewN ?_ _) | (with_reducible refine Kd.C_drew ?_))); (case side2 => exact HC0.out); rintro e w15 ⟨rfl, hb⟩; refine ⟨_, rfl, ?_⟩; have n0_ := Aside0.mk (below_step (by repeat (first | (with_reducible first | exact HB.out | apply below_alloc | apply pw_below_drewN | apply below_drew1) | exact HB.out)) hb); clear HB; have HB := n0_; clear n0_; (try clear hb); (try clear hb2); (try clear hk); (try clear hi)) | (go_at_call 64; (with_reducible refine (spec_IsConfWord.calls k a1 true _ A8.out).mono ?_); rintro e w' ⟨rfl, ⟨nd, rfl⟩⟩) | (go_at_call 64; (with_reducible refine (spec_IsConfWord.calls k a3 false _ A11.out).mono ?_); rintro e w' ⟨rfl, ⟨nd, rfl⟩⟩))
          go_ret
          exact ⟨by first | rfl | (simp [errW_none, errW_some] <;> rfl) | (simp [*, errW_none, errW_some] <;> rfl), by repeat (first | (with_reducible first | exact HB.out | apply below_alloc | apply pw_below_drewN | apply below_drew1) | exact HB.out)⟩
      · rw [if_neg c10] at H
        have c10b0 : (a2.toList == ([] : List UInt8)) = false := beq_eq_false_iff_ne.mpr c10
        have c10b1 : (a2.toList != ([] : List UInt8)) = true := bne_iff_ne.mpr c10
        replace H := Option.bind_eq_some_iff.mp H
        obtain ⟨t145, A160, H⟩ := H
        replace H : (if t145 = true then ((spec_IsConfWord.f k a3).bind fun t146 => (if t146 = true then ((spec_IsValue.f k a4).bind fun t147 => (some t147)) else (some false))) else (some false)) = some r := H
        have A16 := Aside0.mk A160
        clear A160
        by_cases c17 : t145 = true
        · subst c17
          have H1 : ((spec_IsConfWord.f k a3).bind fun t146 => (if t146 = true then ((spec_IsValue.f k a4).bind fun t147 => (some t147)) else (some false))) = some r := by rw [if_pos rfl] at H; exact H
          clear H
          have H := H1
          clear H1
          replace H := Option.bind_eq_some_iff.mp H
          obtain ⟨t146, A180, H⟩ := H
          replace H : (if t146 = true then ((spec_IsValue.f k a4).bind fun t147 => (some t147)) else (some false)) = some r := H
          have A18 := Aside0.mk A180
          clear A180
          by_cases c19 : t146 = true
          · subst c19
            have H1 : ((spec_IsValue.f k a4).bind fun t147 => (some t147)) = some r := by rw [if_pos rfl] at H; exact H
            clear H
            have H := H1
            clear H1
            replace H := Option.bind_eq_some_iff.mp H
            obtain ⟨t147, A200, H⟩ := H
            replace H : (some t147) = some r := H
            have A20 := Aside0.mk A200
            clear A200
            obtain rfl := Option.some.inj H
            go_enter Tryd.func37, Tryd.ntmps37
            go_wp2_with (first | ((with_reducible refine gate_callee (f := 63) rfl ?_); refine goesL_ (some 12) rfl rfl Tryd.func63 (by kernel_rfl) rfl #[.slice A0 l0.length c0] rfl (by (try simp only [List.map_toArray, List.map_cons, List.map_nil]); first | done | rfl | (simp only [List.length_drop, List.length_take]; rfl)) ?_; (with_reducible refine (spec_AreSections.calls k _ _ l0 true _ ?side1 ?side2 A6.out).mono ?_); (case side1 => repeat (first | exact HR0.out | (with_reducible refine Kd.C_alloc ?_ _) | (with_reducible refine Kd.C_drewN ?_ _) | (with_reducible refine Kd.C_drew ?_))); (case side2 => exact HC0.out); rintro e w21 ⟨rfl, hb⟩; refine ⟨_, rfl, ?_⟩; have n0_ := Aside0.mk (below_step (by repeat (first | (with_reducible first | exact HB.out | apply below_alloc | apply pw_below_drewN | apply below_drew1) | exact HB.out)) hb); clear HB; have HB := n0_; clear n0_; (try clear hb); (try clear hb2); (try clear hk); (try clear hi)) | (go_at_call 64; (with_reducible refine (spec_IsConfWord.calls k a1 true _ A8.out).mono ?_); rintro e w' ⟨rfl, ⟨nd, rfl⟩⟩) | (go_at_call 64; (with_reducible refine (spec_IsConfWord.calls k a2 true _ A16.out).mono ?_); rintro e w' ⟨rfl, ⟨nd, rfl⟩⟩) | (go_at_call 64; (with_reducible refine (spec_IsConfWord.calls k a3 true _ A18.out).mono ?_); rintro e w' ⟨rfl, ⟨nd, rfl⟩⟩) | (go_at_call 65; (with_reducible refine (spec_IsValue.calls k a4 t147 _ A20.out).mono ?_); rintro e w' ⟨rfl, ⟨nd, rfl⟩⟩))
            go_ret
            exact ⟨by first | rfl | (simp [errW_none, errW_some] <;> rfl) | (simp [*, errW_none, errW_some] <;> rfl), by repeat (first | (with_reducible first | exact HB.out | apply below_alloc | apply pw_below_drewN | apply below_drew1) | exact HB.out)⟩
          · replace c19 := Bool.eq_false_iff.mpr c19
            subst c19
            have H1 : (some false) = some r := by rw [if_neg (show ¬ (false = true) by decide)] at H; exact H
            clear H
            have H := H1
            clear H1
            obtain rfl := Option.some.inj H
            go_enter Tryd.func37, Tryd.ntmps37
            go_wp2_with (first | ((with_reducible refine gate_callee (f := 63) rfl ?_); refine goesL_ (some 12) rfl rfl Tryd.func63 (by kernel_rfl) rfl #[.slice A0 l0.length c0] rfl (by (try simp only [List.map_toArray, List.map_cons, List.map_nil]); first | done | rfl | (simp only [List.length_drop, List.length_take]; rfl)) ?_; (with_reducible refine (spec_AreSections.calls k _ _ l0 true _ ?side1 ?side2 A6.out).mono ?_); (case side1 => repeat (first | exact HR0.out | (with_reducible refine Kd.C_alloc ?_ _) | (with_reducible refine Kd.C_drewN ?_ _) | (with_reducible refine Kd.C_drew ?_))); (case side2 => exact HC0.out); rintro e w22 ⟨rfl, hb⟩; refine ⟨_, rfl, ?_⟩; have n0_ := Aside0.mk (below_step (by repeat (first | (with_reducible first | exact HB.out | apply below_alloc | apply pw_below_drewN | apply below_drew1) | exact HB.out)) hb); clear HB; have HB := n0_; clear n0_; (try clear hb); (try clear hb2); (try clear hk); (try clear hi)) | (go_at_call 64; (with_reducible refine (spec_IsConfWord.calls k a1 true _ A8.out).mono ?_); rintro e w' ⟨rfl, ⟨nd, rfl⟩⟩) | (go_at_call 64; (with_reducible refine (spec_IsConfWord.calls k a2 true _ A16.out).mono ?_); rintro e w' ⟨rfl, ⟨nd, rfl⟩⟩) | (go_at_call 64; (with_reducible refine (spec_IsConfWord.calls k a3 false _ A18.out).mono ?_); rintro e w' ⟨rfl, ⟨nd, rfl⟩⟩))
            go_ret
            exact ⟨by first | rfl | (simp [errW_none, errW_some] <;> rfl) | (simp [*, errW_none, errW_some] <;> rfl), by repeat (first | (with_reducible first | exact HB.out | apply below_alloc | apply pw_below_drewN | apply below_drew1) | exact HB.out)⟩
        · replace c17 := Bool.eq_false_iff.mpr c17
          subst c17
          have H1 : (some false) = some r := by rw [if_neg (show ¬ (false = true) by decide)] at H; exact H
          clear H
          have H := H1
          clear H1
          obtain rfl := Option.some.inj H
          go_enter Tryd.func37, Tryd.ntmps37
          go_wp2_with (first | ((with_reducible refine gate_callee (f := 63) rfl ?_); refine goesL_ (some 12) rfl rfl Tryd.func63 (by kernel_rfl) rfl #[.slice A0 l0.length c0] rfl (by (try simp only [List.map_toArray, List.map_cons, List.map_nil]); first | done | rfl | (simp only [List.length_drop, List.length_take]; rfl)) ?_; (with_reducible refine (spec_AreSections.calls k _ _ l0 true _ ?side1 ?side2 A6.out).mono ?_); (case side1 => repeat (first | exact HR0.out | (with_reducible refine Kd.C_alloc ?_ _) | (with_reducible refine Kd.C_drewN ?_ _) | (with_reducible refine Kd.C_drew ?_))); (case side2 => exact HC0.out); rintro e w23 ⟨rfl, hb⟩; refine ⟨_, rfl, ?_⟩; have n0_ := Aside0.mk (below_step (by repeat (first | (with_reducible first | exact HB.out | apply below_alloc | apply pw_below_drewN | apply below_drew1) | exact HB.out)) hb); clear HB; have HB := n0_; clear n0_; (try clear hb); (try clear hb2); (try clear hk); (try clear hi)) | (go_at_call 64; (with_reducible refine (spec_IsConfWord.calls k a1 true _ A8.out).mono ?_); rintro e w' ⟨rfl, ⟨nd, rfl⟩⟩) | (go_at_call 64; (with_reducible refine (spec_IsConfWord.calls k a2 false _ A16.out).mono ?_); rintro e w' ⟨rfl, ⟨nd, rfl⟩⟩))
          go_ret
          exact ⟨by first | rfl | (simp [errW_none, errW_some] <;> rfl) | (simp [*, errW_none, errW_some] <;> rfl), by repeat (first | (with_reducible first | exact HB.out | apply below_alloc | apply pw_below_drewN | apply below_drew1) | exact HB.out)⟩
    · replace c9 := Bool.eq_false_iff.mpr c9
      subst c9
      have H1 : (some false) = some r := by rw [if_neg (show ¬ (false = true) by decide)] at H; exact H
      clear H
      have H := H1
      clear H1
      obtain rfl := Option.some.inj H
      go_enter Tryd.func37, Tryd.ntmps37
      go_wp2_with (first | ((with_reducible refine gate_callee (f := 63) rfl ?_); refine goesL_ (some 12) rfl rfl Tryd.func63 (by kernel_rfl) rfl #[.slice A0 l0.length c0] rfl (by (try simp only [List.map_toArray, List.map_cons, List.map_nil]); first | done | rfl | (simp only [List.length_drop, List.length_take]; rfl)) ?_; (with_reducible refine (spec_AreSections.calls k _ _ l0 true _ ?side1 ?side2 A6.out).mono ?_); (case side1 => repeat (first | exact HR0.out | (with_reducible refine Kd.C_alloc ?_ _) | (with_reducible refine Kd.C_drewN ?_ _) | (with_reducible refine Kd.C_drew ?_))); (case side2 => exact HC0.out); rintro e w24 ⟨rfl, hb⟩; refine ⟨_, rfl, ?_⟩; have n0_ := Aside0.mk (below_step (by repeat (first | (with_reducible first | exact HB.out | apply below_alloc | apply pw_below_drewN | apply below_drew1) | exact HB.out)) hb); clear HB; have HB := n0_; clear n0_; (try clear hb); (try clear hb2); (try clear hk); (try clear hi)) | (go_at_call 64; (with_reducible refine (spec_IsConfWord.calls k a1 false _ A8.out).mono ?_); rintro e w' ⟨rfl, ⟨nd, rfl⟩⟩))
      go_ret
      exact ⟨by first | rfl | (simp [errW_none, errW_some] <;> rfl) | (simp [*, errW_none, errW_some] <;> rfl), by repeat (first | (with_reducible first | exact HB.out | apply below_alloc | apply pw_below_drewN | apply below_drew1) | exact HB.out)⟩
  · replace c7 := Bool.eq_false_iff.mpr c7
    subst c7
    have H1 : (some false) = some r := by rw [if_neg (show ¬ (false = true) by decide)] at H; exact H
    clear H
    have H := H1
    clear H1
    obtain rfl := Option.some.inj H
    go_enter Tryd.func37, Tryd.ntmps37
    go_wp2_with (first | ((with_reducible refine gate_callee (f := 63) rfl ?_); refine goesL_ (some 12) rfl rfl Tryd.func63 (by kernel_rfl) rfl #[.slice A0 l0.length c0] rfl (by (try simp only [List.map_toArray, List.map_cons, List.map_nil]); first | done | rfl | (simp only [List.length_drop, List.length_take]; rfl)) ?_; (with_reducible refine (spec_AreSections.calls k _ _ l0 false _ ?side1 ?side2 A6.out).mono ?_); (case side1 => repeat (first | exact HR0.out | (with_reducible refine Kd.C_alloc ?_ _) | (with_reducible refine Kd.C_drewN ?_ _) | (with_reducible refine Kd.C_drew ?_))); (case side2 => exact HC0.out); rintro e w25 ⟨rfl, hb⟩; refine ⟨_, rfl, ?_⟩; have n0_ := Aside0.mk (below_step (by repeat (first | (with_reducible first | exact HB.out | apply below_alloc | apply pw_below_drewN | apply below_drew1) | exact HB.out)) hb); clear HB; have HB := n0_; clear n0_; (try clear hb); (try clear hb2); (try clear hk); (try clear hi)))
    go_ret
    exact ⟨by first | rfl | (simp [errW_none, errW_some] <;> rfl) | (simp [*, errW_none, errW_some] <;> rfl), by repeat (first | (with_reducible first | exact HB.out | apply below_alloc | apply pw_below_drewN | apply below_drew1) | exact HB.out)⟩

-- NOT PRINTED: function 97 (impl_plainOptions)

-- NOT PRINTED: function 68 (impl_sectionsOf)

-- NOT PRINTED: function 98 (config_New)

-- NOT PRINTED: function 99 (impl_optionsOf)

-- NOT PRINTED: function 69 (impl_configOf)

-- NOT PRINTED: function 138 (utf8_decodeRuneInStringSlow)

-- NOT PRINTED: function 133 (utf8_DecodeRuneInString)

-- NOT PRINTED: function 139 (unicode_lookupCaseRange)

-- NOT PRINTED: function 140 (unicode_convertCase)

-- NOT PRINTED: function 134 (unicode_SimpleFold)

-- NOT PRINTED: function 124 (strings_EqualFold)

-- NOT PRINTED: function 100 (config_Section_IsName)

-- NOT PRINTED: function 70 (config_Config_RemoveSection)

-- NOT PRINTED: function 101 (config_Subsection_IsName)

-- NOT PRINTED: function 71 (config_Config_RemoveSubsection)

-- NOT PRINTED: function 41 (impl_DropSection)


end Go.Proofs.YtoofbppfbbhliaaDoor.PFnConfDrop
