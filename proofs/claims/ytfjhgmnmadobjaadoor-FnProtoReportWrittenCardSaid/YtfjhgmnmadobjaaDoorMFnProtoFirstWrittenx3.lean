/- Contracts of functions of the specification, as a printer of the kit wrote them, some steps mended. -/
import Derived.Test.YtfjhgmnmadobjaaDoorPFnProtoFirstWrittenx0
import Derived.Test.YtfjhgmnmadobjaaDoorPFnProtoFirstWrittenx2
namespace Go.Proofs.YtfjhgmnmadobjaaDoor.PFnProtoFirstWritten
open Go.RowKit Go.Proofs.YtfjhgmnmadobjaaDoorW.PrintWords Go.Proofs.YtfjhgmnmadobjaaDoorW.PrintLast Go.Proofs.YtfjhgmnmadobjaaDoorW.PrintMore
attribute [local go_sem] max2_int min2_int max_two min_two max_three min_three max_four min_four   -- for this text's walks alone
set_option linter.unusedVariables false
set_option linter.unusedSimpArgs false

/-! ### laws_protoGood: function 6 -/
def laws_protoGood.l0 : Nat → ByteArray → ByteArray → ByteArray → List ByteArray → List ByteArray → Int → Int → Option (Bool)
  | 0, _, _, _, _, _, _, _ => none
  | k + 1, x0, x1, x2, x3, x11, x12, x13 => if x13 < x12 then (if 0 ≤ x13 then (if x13 < (x11.length : Int) then ((spec_IsWord.f k (rdOf ByteArray.empty x11 x13)).bind fun t103 => (if t103 = true then (laws_protoGood.l0 k x0 x1 x2 x3 x11 x12 (wrap64 (x13 + 1))) else (some false))) else (none)) else (none)) else ((spec_IsWord.f k x0).bind fun t104 => (if t104 = true then ((spec_IsWord.f k x1).bind fun t105 => (if t105 = true then (if x2.toList = ([] : List UInt8) then (some (decide ((x3.length : Int) ≤ 9))) else ((spec_IsWord.f k x2).bind fun t106 => (if t106 = true then (some (decide ((x3.length : Int) ≤ 9))) else (some false)))) else (some false))) else (some false)))
def laws_protoGood.f (k : Nat) (a0 : ByteArray) (a1 : ByteArray) (a2 : ByteArray) (l3 : List ByteArray) : Option (Bool) := laws_protoGood.l0 k a0 a1 a2 l3 l3 (l3.length : Int) 0
theorem laws_protoGood.mono_l : ∀ k, (∀ y0 y1 y2 y3 y4 y5 y6, LeO (laws_protoGood.l0 k y0 y1 y2 y3 y4 y5 y6) (laws_protoGood.l0 (k + 1) y0 y1 y2 y3 y4 y5 y6))
  | 0 => fun _ _ _ _ _ _ _ r h => by simp [laws_protoGood.l0] at h
  | k + 1 => by
    have ih0 := laws_protoGood.mono_l k
    · intro y0 y1 y2 y3 y4 y5 y6
      unfold laws_protoGood.l0
      repeat' first
      | (with_reducible exact ih0 _ _ _ _ _ _ _)
      | (with_reducible exact spec_IsWord.mono _ _)
      | (with_reducible exact LeO.refl _)
      | (with_reducible exact LeO.none _)
      | (with_reducible refine LeO.ite ?_ ?_)
      | (with_reducible refine LeO.bind ?_ (fun _ => ?_))
      | exact ih0 _ _ _ _ _ _ _
      | exact spec_IsWord.mono _ _
      | exact LeO.none _
      | refine LeO.ite ?_ ?_
      | refine LeO.bind ?_ (fun _ => ?_)
theorem laws_protoGood.mono : ∀ a0 a1 a2 a3 k, LeO (laws_protoGood.f k a0 a1 a2 a3) (laws_protoGood.f (k + 1) a0 a1 a2 a3) := by
  intro a0 a1 a2 a3 k
  have ih0 := laws_protoGood.mono_l k
  unfold laws_protoGood.f
  repeat' first
      | (with_reducible exact ih0 _ _ _ _ _ _ _)
      | (with_reducible exact spec_IsWord.mono _ _)
      | (with_reducible exact LeO.refl _)
      | (with_reducible exact LeO.none _)
      | (with_reducible refine LeO.ite ?_ ?_)
      | (with_reducible refine LeO.bind ?_ (fun _ => ?_))
      | exact ih0 _ _ _ _ _ _ _
      | exact spec_IsWord.mono _ _
      | exact LeO.none _
      | refine LeO.ite ?_ ?_
      | refine LeO.bind ?_ (fun _ => ?_)
set_option maxHeartbeats 8000000 in
set_option maxRecDepth 100000 in
theorem laws_protoGood.calls (k : Nat) (a0 : ByteArray) (a1 : ByteArray) (a2 : ByteArray) (A3 : Option Addr) (c3 : Nat) (l3 : List ByteArray) (r : Bool) (w : World) (hr3 : Kd.C Kd.string w A3 l3.length l3) (hc3 : l3.length ≤ c3) (h : laws_protoGood.f k a0 a1 a2 l3 = some r) :
    Calls Tryd.prog 6 #[.string a0, .string a1, .string a2, .slice A3 l3.length c3] w fun e w' => e = .returned (.bool r) ∧ Drawn0 w w' := by
  have HR3 := Aside0.mk hr3
  have HC3 := Aside0.mk hc3
  clear hr3 hc3
  have H : (laws_protoGood.l0 k a0 a1 a2 l3 l3 (l3.length : Int) 0) = some r := h
  clear h
  have H' := Aside0.mk H
  clear H
  go_enter Tryd.func6, Tryd.ntmps6
  go_wp2
  go_loopg [13] k (fun kq v13 w' => ∃ (x13_1 : Int), v13 = .int .i64 x13_1 ∧ Aside0 (laws_protoGood.l0 kq a0 a1 a2 l3 l3 (l3.length : Int) x13_1 = some r) ∧ Aside0 (kq ≤ k) ∧ Drawn0 w w')
  case atStart => exact ⟨(0), (by first | rfl | (simp; done) | (simp [*]; done)), H', ⟨Nat.le_refl _⟩, by repeat (first | exact Drawn0.refl _ | apply Drawn0.step)⟩
  case round =>
    clear H'
    try clear p2
    try clear c3
    obtain ⟨x13_1, rfl, HA, HK1, ⟨m1, rfl⟩⟩ := hrel
    cases gk with
    | zero => exact absurd HA.out (by simp [laws_protoGood.l0])
    | succ k1 =>
      have H := HA.out
      clear HA
      simp only [laws_protoGood.l0] at H
      by_cases c5 : x13_1 < (l3.length : Int)
      · rw [if_pos c5] at H
        have c5b0 : decide (x13_1 < (l3.length : Int)) = true := decide_eq_true c5
        clear c5
        by_cases c6 : 0 ≤ x13_1
        · rw [if_pos c6] at H
          have c6b0 : decide (0 ≤ x13_1) = true := decide_eq_true c6
          clear c6
          by_cases c7 : x13_1 < (l3.length : Int)
          · rw [if_pos c7] at H
            have c7b0 : decide (x13_1 < (l3.length : Int)) = true := decide_eq_true c7
            clear c7
            replace H := Option.bind_eq_some_iff.mp H
            obtain ⟨t103, A80, H⟩ := H
            replace H : (if t103 = true then (laws_protoGood.l0 k1 a0 a1 a2 l3 l3 (l3.length : Int) (wrap64 (x13_1 + 1))) else (some false)) = some r := H
            have A8 := Aside0.mk A80
            clear A80
            by_cases c9 : t103 = true
            · subst c9
              have H1 : (laws_protoGood.l0 k1 a0 a1 a2 l3 l3 (l3.length : Int) (wrap64 (x13_1 + 1))) = some r := by rw [if_pos rfl] at H; exact H
              clear H
              have H := H1
              clear H1
              have H' := Aside0.mk H
              clear H
              have p102 : 0 ≤ (x13_1 : Int) := of_decide_eq_true (by first | (with_reducible assumption) | assumption)
              have q102 : x13_1 < (l3.length : Int) := of_decide_eq_true (by first | (with_reducible assumption) | assumption)
              obtain ⟨ad102, e102, hx102_0⟩ := Kd.at_string HR3.out x13_1 p102 q102
              cases e102
              replace p102 := eq_true p102
              replace q102 := eq_true q102
              go_wp2_with (first | ((with_reducible refine gate_callee (f := 15) rfl ?_); refine goesL_ (some 18) rfl rfl Tryd.func15 (by kernel_rfl) rfl #[.string (rdOf ByteArray.empty l3 x13_1)] rfl (by (try simp only [List.map_toArray, List.map_cons, List.map_nil]); first | done | rfl | (simp only [List.length_drop, List.length_take]; rfl)) ?_; (with_reducible refine (spec_IsWord.calls k1 (rdOf ByteArray.empty l3 x13_1) true _ A8.out).mono ?_); rintro e w' ⟨rfl, ⟨nd, rfl⟩⟩; refine ⟨_, rfl, ?_⟩))
              go_roundg k1
              case measure => have := HK1.out; omega
              case rel => exact ⟨(wrap64 (x13_1 + 1)), (by first | rfl | (simp; done) | (simp [*]; done)), H', ⟨by have := HK1.out; omega⟩, by repeat (first | exact Drawn0.refl _ | apply Drawn0.step)⟩
            · replace c9 := Bool.eq_false_iff.mpr c9
              subst c9
              have H1 : (some false) = some r := by rw [if_neg (show ¬ (false = true) by decide)] at H; exact H
              clear H
              have H := H1
              clear H1
              obtain rfl := Option.some.inj H
              have p102 : 0 ≤ (x13_1 : Int) := of_decide_eq_true (by first | (with_reducible assumption) | assumption)
              have q102 : x13_1 < (l3.length : Int) := of_decide_eq_true (by first | (with_reducible assumption) | assumption)
              obtain ⟨ad102, e102, hx102_0⟩ := Kd.at_string HR3.out x13_1 p102 q102
              cases e102
              replace p102 := eq_true p102
              replace q102 := eq_true q102
              go_wp2_with (first | ((with_reducible refine gate_callee (f := 15) rfl ?_); refine goesL_ (some 18) rfl rfl Tryd.func15 (by kernel_rfl) rfl #[.string (rdOf ByteArray.empty l3 x13_1)] rfl (by (try simp only [List.map_toArray, List.map_cons, List.map_nil]); first | done | rfl | (simp only [List.length_drop, List.length_take]; rfl)) ?_; (with_reducible refine (spec_IsWord.calls k1 (rdOf ByteArray.empty l3 x13_1) false _ A8.out).mono ?_); rintro e w' ⟨rfl, ⟨nd, rfl⟩⟩; refine ⟨_, rfl, ?_⟩))
              go_ret
              exact ⟨by first | rfl | (simp; done) | (simp [*]; done), by repeat (first | exact Drawn0.refl _ | apply Drawn0.step)⟩
          · rw [if_neg c7] at H
            exact absurd H (by simp)
        · rw [if_neg c6] at H
          exact absurd H (by simp)
      · rw [if_neg c5] at H
        have c5b0 : decide (x13_1 < (l3.length : Int)) = false := decide_eq_false c5
        clear c5
        replace H := Option.bind_eq_some_iff.mp H
        obtain ⟨t104, A100, H⟩ := H
        replace H : (if t104 = true then ((spec_IsWord.f k1 a1).bind fun t105 => (if t105 = true then (if a2.toList = ([] : List UInt8) then (some (decide ((l3.length : Int) ≤ 9))) else ((spec_IsWord.f k1 a2).bind fun t106 => (if t106 = true then (some (decide ((l3.length : Int) ≤ 9))) else (some false)))) else (some false))) else (some false)) = some r := H
        have A10 := Aside0.mk A100
        clear A100
        by_cases c11 : t104 = true
        · subst c11
          have H1 : ((spec_IsWord.f k1 a1).bind fun t105 => (if t105 = true then (if a2.toList = ([] : List UInt8) then (some (decide ((l3.length : Int) ≤ 9))) else ((spec_IsWord.f k1 a2).bind fun t106 => (if t106 = true then (some (decide ((l3.length : Int) ≤ 9))) else (some false)))) else (some false))) = some r := by rw [if_pos rfl] at H; exact H
          clear H
          have H := H1
          clear H1
          replace H := Option.bind_eq_some_iff.mp H
          obtain ⟨t105, A120, H⟩ := H
          replace H : (if t105 = true then (if a2.toList = ([] : List UInt8) then (some (decide ((l3.length : Int) ≤ 9))) else ((spec_IsWord.f k1 a2).bind fun t106 => (if t106 = true then (some (decide ((l3.length : Int) ≤ 9))) else (some false)))) else (some false)) = some r := H
          have A12 := Aside0.mk A120
          clear A120
          by_cases c13 : t105 = true
          · subst c13
            have H1 : (if a2.toList = ([] : List UInt8) then (some (decide ((l3.length : Int) ≤ 9))) else ((spec_IsWord.f k1 a2).bind fun t106 => (if t106 = true then (some (decide ((l3.length : Int) ≤ 9))) else (some false)))) = some r := by rw [if_pos rfl] at H; exact H
            clear H
            have H := H1
            clear H1
            by_cases c14 : a2.toList = ([] : List UInt8)
            · rw [if_pos c14] at H
              have c14b0 : (a2.toList == ([] : List UInt8)) = true := beq_iff_eq.mpr c14
              have c14b1 : (a2.toList != ([] : List UInt8)) = false := bne_eq_false_iff_eq.mpr c14
              clear c14
              obtain rfl := Option.some.inj H
              go_wp2_with (first | ((with_reducible refine gate_callee (f := 15) rfl ?_); refine goesL_ (some 22) rfl rfl Tryd.func15 (by kernel_rfl) rfl #[.string a0] rfl (by (try simp only [List.map_toArray, List.map_cons, List.map_nil]); first | done | rfl | (simp only [List.length_drop, List.length_take]; rfl)) ?_; (with_reducible refine (spec_IsWord.calls k1 a0 true _ A10.out).mono ?_); rintro e w' ⟨rfl, ⟨nd, rfl⟩⟩; refine ⟨_, rfl, ?_⟩) | (go_at_call 15; (with_reducible refine (spec_IsWord.calls k1 a1 true _ A12.out).mono ?_); rintro e w' ⟨rfl, ⟨nd, rfl⟩⟩))
              go_ret
              exact ⟨by first | rfl | (simp; done) | (simp [*]; done), by repeat (first | exact Drawn0.refl _ | apply Drawn0.step)⟩
            · rw [if_neg c14] at H
              have c14b0 : (a2.toList == ([] : List UInt8)) = false := beq_eq_false_iff_ne.mpr c14
              have c14b1 : (a2.toList != ([] : List UInt8)) = true := bne_iff_ne.mpr c14
              replace H := Option.bind_eq_some_iff.mp H
              obtain ⟨t106, A150, H⟩ := H
              replace H : (if t106 = true then (some (decide ((l3.length : Int) ≤ 9))) else (some false)) = some r := H
              have A15 := Aside0.mk A150
              clear A150
              by_cases c16 : t106 = true
              · subst c16
                have H1 : (some (decide ((l3.length : Int) ≤ 9))) = some r := by rw [if_pos rfl] at H; exact H
                clear H
                have H := H1
                clear H1
                obtain rfl := Option.some.inj H
                go_wp2_with (first | ((with_reducible refine gate_callee (f := 15) rfl ?_); refine goesL_ (some 22) rfl rfl Tryd.func15 (by kernel_rfl) rfl #[.string a0] rfl (by (try simp only [List.map_toArray, List.map_cons, List.map_nil]); first | done | rfl | (simp only [List.length_drop, List.length_take]; rfl)) ?_; (with_reducible refine (spec_IsWord.calls k1 a0 true _ A10.out).mono ?_); rintro e w' ⟨rfl, ⟨nd, rfl⟩⟩; refine ⟨_, rfl, ?_⟩) | (go_at_call 15; (with_reducible refine (spec_IsWord.calls k1 a1 true _ A12.out).mono ?_); rintro e w' ⟨rfl, ⟨nd, rfl⟩⟩) | (go_at_call 15; (with_reducible refine (spec_IsWord.calls k1 a2 true _ A15.out).mono ?_); rintro e w' ⟨rfl, ⟨nd, rfl⟩⟩))
                go_ret
                exact ⟨by first | rfl | (simp; done) | (simp [*]; done), by repeat (first | exact Drawn0.refl _ | apply Drawn0.step)⟩
              · replace c16 := Bool.eq_false_iff.mpr c16
                subst c16
                have H1 : (some false) = some r := by rw [if_neg (show ¬ (false = true) by decide)] at H; exact H
                clear H
                have H := H1
                clear H1
                obtain rfl := Option.some.inj H
                go_wp2_with (first | ((with_reducible refine gate_callee (f := 15) rfl ?_); refine goesL_ (some 22) rfl rfl Tryd.func15 (by kernel_rfl) rfl #[.string a0] rfl (by (try simp only [List.map_toArray, List.map_cons, List.map_nil]); first | done | rfl | (simp only [List.length_drop, List.length_take]; rfl)) ?_; (with_reducible refine (spec_IsWord.calls k1 a0 true _ A10.out).mono ?_); rintro e w' ⟨rfl, ⟨nd, rfl⟩⟩; refine ⟨_, rfl, ?_⟩) | (go_at_call 15; (with_reducible refine (spec_IsWord.calls k1 a1 true _ A12.out).mono ?_); rintro e w' ⟨rfl, ⟨nd, rfl⟩⟩) | (go_at_call 15; (with_reducible refine (spec_IsWord.calls k1 a2 false _ A15.out).mono ?_); rintro e w' ⟨rfl, ⟨nd, rfl⟩⟩))
                go_ret
                exact ⟨by first | rfl | (simp; done) | (simp [*]; done), by repeat (first | exact Drawn0.refl _ | apply Drawn0.step)⟩
          · replace c13 := Bool.eq_false_iff.mpr c13
            subst c13
            have H1 : (some false) = some r := by rw [if_neg (show ¬ (false = true) by decide)] at H; exact H
            clear H
            have H := H1
            clear H1
            obtain rfl := Option.some.inj H
            go_wp2_with (first | ((with_reducible refine gate_callee (f := 15) rfl ?_); refine goesL_ (some 22) rfl rfl Tryd.func15 (by kernel_rfl) rfl #[.string a0] rfl (by (try simp only [List.map_toArray, List.map_cons, List.map_nil]); first | done | rfl | (simp only [List.length_drop, List.length_take]; rfl)) ?_; (with_reducible refine (spec_IsWord.calls k1 a0 true _ A10.out).mono ?_); rintro e w' ⟨rfl, ⟨nd, rfl⟩⟩; refine ⟨_, rfl, ?_⟩) | (go_at_call 15; (with_reducible refine (spec_IsWord.calls k1 a1 false _ A12.out).mono ?_); rintro e w' ⟨rfl, ⟨nd, rfl⟩⟩))
            go_ret
            exact ⟨by first | rfl | (simp; done) | (simp [*]; done), by repeat (first | exact Drawn0.refl _ | apply Drawn0.step)⟩
        · replace c11 := Bool.eq_false_iff.mpr c11
          subst c11
          have H1 : (some false) = some r := by rw [if_neg (show ¬ (false = true) by decide)] at H; exact H
          clear H
          have H := H1
          clear H1
          obtain rfl := Option.some.inj H
          go_wp2_with (first | ((with_reducible refine gate_callee (f := 15) rfl ?_); refine goesL_ (some 22) rfl rfl Tryd.func15 (by kernel_rfl) rfl #[.string a0] rfl (by (try simp only [List.map_toArray, List.map_cons, List.map_nil]); first | done | rfl | (simp only [List.length_drop, List.length_take]; rfl)) ?_; (with_reducible refine (spec_IsWord.calls k1 a0 false _ A10.out).mono ?_); rintro e w' ⟨rfl, ⟨nd, rfl⟩⟩; refine ⟨_, rfl, ?_⟩))
          go_ret
          exact ⟨by first | rfl | (simp; done) | (simp [*]; done), by repeat (first | exact Drawn0.refl _ | apply Drawn0.step)⟩

-- NOT PRINTED: function 24 (pktline_NewScanner)

/-- A state of type 83 at block g of W; what its slices lead to came in by w0. -/
def IsS83 (w0 W : World) (g : Nat) (f0 : List Int) (f1 : Int) (f2 : Int) : Prop := ∃ A0 c0, W.heap[g]? = some (.cells #[.slice A0 f0.length c0, .int .i64 f1, .int .i64 f2] 83 (0, 0)) ∧ w0.heap.size ≤ g ∧ Kd.C (Kd.int .u8) w0 A0 f0.length f0
theorem IsS83.grown {w0 W : World} {g : Nat} {f0 : List Int} {f1 : Int} {f2 : Int} {W1 : World} {row : Option Nat} (h : IsS83 w0 W g f0 f1 f2) (hw : W.grownBy W1 row) (hne : some g ≠ row) : IsS83 w0 W1 g f0 f1 f2 := by
  obtain ⟨A0, c0, hb, hg, hr0⟩ := h
  exact ⟨A0, c0, blk_grown hb hw hne, hg, hr0⟩
theorem IsS83.own_neN {w0 W : World} {g : Nat} {f0 : List Int} {f1 : Int} {f2 : Int} {α : Type} {d : Kd α} {e : Nat} {base : Nat} {ok : Nat → Prop} {v : Value} {xs : List α} (h : IsS83 w0 W g f0 f1 f2) (ho : Kd.N d e W base ok v xs) (ht : e ≠ 83) : some g ≠ v.ownBlock := by
  obtain ⟨A0, c0, hb, hg, hr0⟩ := h
  exact Kd.N_ne ho hb ht
theorem IsS83.fresh {w0 W : World} {g : Nat} {f0 : List Int} {f1 : Int} {f2 : Int} (h : IsS83 w0 W g f0 f1 f2) : ∀ k, W.heap.size ≤ k → k ≠ g := by
  obtain ⟨A0, c0, hb, hg, hr0⟩ := h
  exact Kd.freshB hb
theorem IsS83.kept {w0 W : World} {g : Nat} {f0 : List Int} {f1 : Int} {f2 : Int} {W1 : World} {S : Nat → Prop} (h : IsS83 w0 W g f0 f1 f2) (hk : Kept W W1 S) (hne : ¬ S g) : IsS83 w0 W1 g f0 f1 f2 := by
  obtain ⟨A0, c0, hb, hg, hr0⟩ := h
  exact ⟨A0, c0, blk_kept hb hk hne, hg, hr0⟩
theorem IsS83.below {w0 W : World} {g : Nat} {f0 : List Int} {f1 : Int} {f2 : Int} {W1 : World} (h : IsS83 w0 W g f0 f1 f2) (hw : Below W.heap.size W W1) : IsS83 w0 W1 g f0 f1 f2 := h.grown (grown_of_below hw none) (by simp)
theorem IsS83.alloc {w0 W : World} {g : Nat} {f0 : List Int} {f1 : Int} {f2 : Int} (h : IsS83 w0 W g f0 f1 f2) (o : Obj) : IsS83 w0 (W.alloc o) g f0 f1 f2 := h.below (below_alloc (Below.refl _ _) o)
theorem IsS83.drewN {w0 W : World} {g : Nat} {f0 : List Int} {f1 : Int} {f2 : Int} (h : IsS83 w0 W g f0 f1 f2) (m : Nat) : IsS83 w0 (W.drewN m) g f0 f1 f2 := h
theorem IsS83.drew {w0 W : World} {g : Nat} {f0 : List Int} {f1 : Int} {f2 : Int} (h : IsS83 w0 W g f0 f1 f2) : IsS83 w0 W.drew g f0 f1 f2 := h
theorem IsS83.at_ {w0 W : World} {g : Nat} {f0 : List Int} {f1 : Int} {f2 : Int} {w' : World} {m : Nat} (hq : W.drewN m = w') (h : IsS83 w0 W g f0 f1 f2) : IsS83 w0 w' g f0 f1 f2 := by subst hq; exact IsS83.drewN h m
theorem IsS83.apart {w0 W : World} {g : Nat} {f0 : List Int} {f1 : Int} {f2 : Int} {α : Type} {d : Kd α} {e : Nat} {base : Nat} {ok : Nat → Prop} {v : Value} {xs : List α} (h : IsS83 w0 W g f0 f1 f2) (ho : d.R e W base ok v xs) (ht : ∀ q, q ∈ e :: d.E → q ≠ 83) : d.R e W base (fun k => ok k ∧ k ≠ g) v xs := by
  obtain ⟨A0, c0, hb, hg, hr0⟩ := h
  exact Kd.R_types ho hb ht
theorem IsS83.own_ne {w0 W : World} {g : Nat} {f0 : List Int} {f1 : Int} {f2 : Int} {α : Type} {d : Kd α} {e : Nat} {base : Nat} {ok : Nat → Prop} {v : Value} {xs : List α} (h : IsS83 w0 W g f0 f1 f2) (ho : d.R e W base ok v xs) (ht : e ≠ 83) : some g ≠ v.ownBlock := by
  obtain ⟨A0, c0, hb, hg, hr0⟩ := h
  exact Kd.R_ne ho hb ht
theorem IsS83.apartQ {w0 W : World} {g : Nat} {f0 : List Int} {f1 : Int} {f2 : Int} {α : Type} {d : Kd α} {e : Nat} {base : Nat} {ok : Nat → Prop} {v : Value} {xs : List α} (h : IsS83 w0 W g f0 f1 f2) (ho : d.Q e W base ok v xs) (ht : ∀ q, q ∈ e :: d.E → q ≠ 83) : d.Q e W base (fun k => ok k ∧ k ≠ g) v xs := by
  obtain ⟨A0, c0, hb, hg, hr0⟩ := h
  exact Kd.Q_types ho hb ht
theorem IsS83.own_neQ {w0 W : World} {g : Nat} {f0 : List Int} {f1 : Int} {f2 : Int} {α : Type} {d : Kd α} {e : Nat} {base : Nat} {ok : Nat → Prop} {v : Value} {xs : List α} (h : IsS83 w0 W g f0 f1 f2) (ho : d.Q e W base ok v xs) (ht : e ≠ 83) : some g ≠ v.ownBlock := by
  obtain ⟨A0, c0, hb, hg, hr0⟩ := h
  exact Kd.Q_ne ho hb ht
theorem IsS83.apartS {w0 W : World} {g : Nat} {f0 : List Int} {f1 : Int} {f2 : Int} {α : Type} {d : Kd α} {e : Nat} {base : Nat} {ok : Nat → Prop} {v : Value} {xs : List α} (h : IsS83 w0 W g f0 f1 f2) (ho : d.S e W base ok v xs) (ht : ∀ q, q ∈ e :: d.E → q ≠ 83) : d.S e W base (fun k => ok k ∧ k ≠ g) v xs := by
  obtain ⟨A0, c0, hb, hg, hr0⟩ := h
  exact Kd.S_types ho hb ht
theorem IsS83.own_neS {w0 W : World} {g : Nat} {f0 : List Int} {f1 : Int} {f2 : Int} {α : Type} {d : Kd α} {e : Nat} {base : Nat} {ok : Nat → Prop} {v : Value} {xs : List α} (h : IsS83 w0 W g f0 f1 f2) (ho : d.S e W base ok v xs) (ht : e ≠ 83) : some g ≠ v.ownBlock := by
  obtain ⟨A0, c0, hb, hg, hr0⟩ := h
  exact Kd.S_ne ho hb ht
theorem IsS83.lt {w0 W : World} {g : Nat} {f0 : List Int} {f1 : Int} {f2 : Int} (h : IsS83 w0 W g f0 f1 f2) : g < W.heap.size := by
  obtain ⟨A0, c0, hb, hg, hr0⟩ := h
  exact blk_lt hb
theorem IsS83.ge {w0 W : World} {g : Nat} {f0 : List Int} {f1 : Int} {f2 : Int} (h : IsS83 w0 W g f0 f1 f2) : w0.heap.size ≤ g := by
  obtain ⟨A0, c0, hb, hg, hr0⟩ := h
  exact hg
theorem IsS83.ne_blk {w0 W : World} {g : Nat} {f0 : List Int} {f1 : Int} {f2 : Int} {a : Nat} {cs : Array Value} {t : TypeId} {fr : Nat × Nat} (h : IsS83 w0 W g f0 f1 f2) (hb2 : W.heap[a]? = some (.cells cs t fr)) (ht : t ≠ 83) : g ≠ a := by
  obtain ⟨A0, c0, hb, hg, hr0⟩ := h
  rintro rfl
  rw [hb] at hb2
  injection hb2 with hb2
  injection hb2 with _ ht2
  exact ht ht2.symm
theorem IsS83.far {w0 W : World} {g : Nat} {f0 : List Int} {f1 : Int} {f2 : Int} {p : Addr} (h : IsS83 w0 W g f0 f1 f2) (hne : g ≠ p.block) (u : Value) : IsS83 w0 (W.setCell p u) g f0 f1 f2 := by
  obtain ⟨A0, c0, hb, hg, hr0⟩ := h
  exact ⟨A0, c0, blk_far hb hne u, hg, hr0⟩
theorem cellS83_0 {W : World} {g : Nat} {A0 : Option Addr} {c0 : Nat} {f0 : List Int} {f1 : Int} {f2 : Int} (h : W.heap[g]? = some (.cells #[.slice A0 f0.length c0, .int .i64 f1, .int .i64 f2] 83 (0, 0))) : W.cell? ⟨g, 0, none⟩ = some (.slice A0 f0.length c0) := (blk_cell h 0).trans rfl
theorem cellS83_1 {W : World} {g : Nat} {A0 : Option Addr} {c0 : Nat} {f0 : List Int} {f1 : Int} {f2 : Int} (h : W.heap[g]? = some (.cells #[.slice A0 f0.length c0, .int .i64 f1, .int .i64 f2] 83 (0, 0))) : W.cell? ⟨g, 1, none⟩ = some (.int .i64 f1) := (blk_cell h 1).trans rfl
theorem IsS83.set_1 {w0 W : World} {g : Nat} {f0 : List Int} {f1 : Int} {f2 : Int} (h : IsS83 w0 W g f0 f1 f2) (x : Int) : IsS83 w0 (W.setCell ⟨g, 1, none⟩ (.int .i64 x)) g f0 x f2 := by
  obtain ⟨A0, c0, hb, hg, hr0⟩ := h
  exact ⟨A0, c0, by simpa using blk_set hb 1 (.int .i64 x), hg, hr0⟩
theorem cellS83_2 {W : World} {g : Nat} {A0 : Option Addr} {c0 : Nat} {f0 : List Int} {f1 : Int} {f2 : Int} (h : W.heap[g]? = some (.cells #[.slice A0 f0.length c0, .int .i64 f1, .int .i64 f2] 83 (0, 0))) : W.cell? ⟨g, 2, none⟩ = some (.int .i64 f2) := (blk_cell h 2).trans rfl
theorem IsS83.set_2 {w0 W : World} {g : Nat} {f0 : List Int} {f1 : Int} {f2 : Int} (h : IsS83 w0 W g f0 f1 f2) (x : Int) : IsS83 w0 (W.setCell ⟨g, 2, none⟩ (.int .i64 x)) g f0 f1 x := by
  obtain ⟨A0, c0, hb, hg, hr0⟩ := h
  exact ⟨A0, c0, by simpa using blk_set hb 2 (.int .i64 x), hg, hr0⟩
theorem IsS83.new (w0 W : World) (A0 : Option Addr) (c0 : Nat) (f0 : List Int) (f1 : Int) (f2 : Int) (hB : Below w0.heap.size w0 W) (hr0 : Kd.C (Kd.int .u8) w0 A0 f0.length f0) : IsS83 w0 (W.alloc (.cells #[.slice A0 f0.length c0, .int .i64 f1, .int .i64 f2] 83)) W.heap.size f0 f1 f2 := ⟨A0, c0, by simpa using heap_alloc_new W _, hB.size, hr0⟩

/-! ### bytes_NewReader: function 25 -/
def bytes_NewReader.f (l0 : List Int) : Option (List Int × Int × Int) := some (l0, 0, (-1))
set_option maxHeartbeats 8000000 in
set_option maxRecDepth 100000 in
theorem bytes_NewReader.calls (A0 : Option Addr) (c0 : Nat) (l0 : List Int) (r1 : List Int) (r2 : Int) (r3 : Int) (w0 w : World) (hB : Below w0.heap.size w0 w) (hr0 : Kd.C (Kd.int .u8) w0 A0 l0.length l0) (hc0 : l0.length ≤ c0) (h : bytes_NewReader.f l0 = some (r1, r2, r3)) :
    Calls Tryd.prog 25 #[.slice A0 l0.length c0] w fun e w' => ∃ g_ : Nat, e = .returned (.pointer (some ⟨g_, 0, none⟩)) ∧ IsS83 w0 w' g_ r1 r2 r3 ∧ Below w0.heap.size w0 w' ∧ Below w.heap.size w w' := by
  have hu83 := Tryd.underlying83
  have HR0 := Aside0.mk hr0
  have HC0 := Aside0.mk hc0
  clear hr0 hc0
  have HBW := Aside0.mk (Below.refl w.heap.size w)
  have HW0 := Aside0.mk hB.size
  have HB := Aside0.mk hB
  clear hB
  have H : (some (l0, 0, (-1))) = some (r1, r2, r3) := h
  clear h
  simp only [Option.some.injEq, Prod.mk.injEq] at H
  obtain ⟨rfl, rfl, rfl⟩ := H
  go_enter Tryd.func25, Tryd.ntmps25
  go_wp2_with (first | ((with_reducible refine gate_dst (N := 5) rfl ?_); refine box_event ?hg (N := 5) ?hd (cs := #[.slice A0 l0.length c0, .int .i64 0, .int .i64 (-1)]) (t := 83) ?hr ?_; (case hd => rfl); (case hg => rfl); (case hr => first | (go_simp; done) | (go_simp; rfl)); intro gb107 hg w2 hbox hb; have n0_ := Aside0.mk (below_step HBW.out hb); have n1_ := Aside0.mk (below_step (by repeat (first | (with_reducible first | exact HB.out | apply below_alloc | apply pw_below_drewN | apply below_drew1) | exact HB.out)) hb); have n2_ := Aside0.mk (hbox); have n3_ := Aside0.mk ((by rw [hg]; exact (below_size (by repeat (first | (with_reducible first | exact HBW.out | apply below_alloc | apply pw_below_drewN | apply below_drew1) | exact HBW.out))) : w.heap.size ≤ gb107)); have n4_ := Aside0.mk ((Nat.le_trans HW0.out (by rw [hg]; exact (below_size (by repeat (first | (with_reducible first | exact HBW.out | apply below_alloc | apply pw_below_drewN | apply below_drew1) | exact HBW.out))) : w.heap.size ≤ gb107) : w0.heap.size ≤ gb107)); clear HBW; clear HB; have HBW := n0_; have HB := n1_; have BK107 := n2_; have GW107 := n3_; have GE107 := n4_; clear n0_ n1_ n2_ n3_ n4_; clear hb hbox hg))
  go_ret
  exact ⟨_, rfl, (show IsS83 w0 _ gb107 l0 0 (-1) from ⟨_, _, by (with_reducible repeat (first | refine blk_drewN ?_ _ | refine blk_drew ?_ | refine blk_alloc ?_ _)); exact BK107.out, GE107.out, HR0.out⟩), by repeat (first | (with_reducible first | exact HB.out | apply below_alloc | apply pw_below_drewN | apply below_drew1 | refine below_set ?_ GE107.out) | exact HB.out), by repeat (first | (with_reducible first | exact HBW.out | apply below_alloc | apply pw_below_drewN | apply below_drew1 | refine below_set ?_ GW107.out) | exact HBW.out)⟩

-- NOT PRINTED: function 46 (io_ReadAtLeast)

-- NOT PRINTED: function 37 (io_ReadFull)

-- NOT PRINTED: function 53 (pktline_asciiHexToByte)

-- NOT PRINTED: function 45 (pktline_hexDecode)

-- NOT PRINTED: function 36 (pktline_Scanner_readPayloadLen)

/-! ### bytes_Equal: function 47 -/
def bytes_Equal.f (l0 : List Int) (l1 : List Int) : Option (Bool) := some ((strOfNums l0).toList == (strOfNums l1).toList)
set_option maxHeartbeats 8000000 in
set_option maxRecDepth 100000 in
theorem bytes_Equal.calls (A0 : Option Addr) (c0 : Nat) (l0 : List Int) (A1 : Option Addr) (c1 : Nat) (l1 : List Int) (r : Bool) (w : World) (hr0 : Kd.C (Kd.int .u8) w A0 l0.length l0) (hc0 : l0.length ≤ c0) (hr1 : Kd.C (Kd.int .u8) w A1 l1.length l1) (hc1 : l1.length ≤ c1) (h : bytes_Equal.f l0 l1 = some r) :
    Calls Tryd.prog 47 #[.slice A0 l0.length c0, .slice A1 l1.length c1] w fun e w' => e = .returned (.bool r) ∧ Drawn0 w w' := by
  have HR0 := Aside0.mk hr0
  have HC0 := Aside0.mk hc0
  clear hr0 hc0
  have HR1 := Aside0.mk hr1
  have HC1 := Aside0.mk hc1
  clear hr1 hc1
  have H : (some ((strOfNums l0).toList == (strOfNums l1).toList)) = some r := h
  clear h
  obtain rfl := Option.some.inj H
  have hcv3 := Kd.C_string (P := Tryd.prog) (A := A0) (c := c0) Tryd.underlying26 Tryd.underlying5 Tryd.underlying9 HR0.out
  have hcv4 := Kd.C_string (P := Tryd.prog) (A := A1) (c := c1) Tryd.underlying26 Tryd.underlying5 Tryd.underlying9 HR1.out
  go_enter Tryd.func47, Tryd.ntmps47
  go_wp2
  go_ret
  exact ⟨by first | rfl | (simp; done) | (simp [*]; done), by repeat (first | exact Drawn0.refl _ | apply Drawn0.step)⟩

/-! ### bytes_HasPrefix: function 38 -/
def bytes_HasPrefix.f (l0 : List Int) (l1 : List Int) : Option (Bool) := if (l0.length : Int) ≥ (l1.length : Int) then (if 0 ≤ (l1.length : Int) then (if (l1.length : Int) ≤ (l0.length : Int) then ((bytes_Equal.f (l0.take ((l1.length : Int) : Int).toNat) l1).bind fun t109 => (some t109)) else (none)) else (none)) else (some false)
set_option maxHeartbeats 8000000 in
set_option maxRecDepth 100000 in
theorem bytes_HasPrefix.calls (A0 : Option Addr) (c0 : Nat) (l0 : List Int) (A1 : Option Addr) (c1 : Nat) (l1 : List Int) (r : Bool) (w : World) (hr0 : Kd.C (Kd.int .u8) w A0 l0.length l0) (hc0 : l0.length ≤ c0) (hr1 : Kd.C (Kd.int .u8) w A1 l1.length l1) (hc1 : l1.length ≤ c1) (h : bytes_HasPrefix.f l0 l1 = some r) :
    Calls Tryd.prog 38 #[.slice A0 l0.length c0, .slice A1 l1.length c1] w fun e w' => e = .returned (.bool r) ∧ Drawn0 w w' := by
  have HR0 := Aside0.mk hr0
  have HC0 := Aside0.mk hc0
  clear hr0 hc0
  have HR1 := Aside0.mk hr1
  have HC1 := Aside0.mk hc1
  clear hr1 hc1
  have H : (if (l0.length : Int) ≥ (l1.length : Int) then (if 0 ≤ (l1.length : Int) then (if (l1.length : Int) ≤ (l0.length : Int) then ((bytes_Equal.f (l0.take ((l1.length : Int) : Int).toNat) l1).bind fun t109 => (some t109)) else (none)) else (none)) else (some false)) = some r := h
  clear h
  by_cases c3 : (l0.length : Int) ≥ (l1.length : Int)
  · rw [if_pos c3] at H
    have c3b0 : decide ((l1.length : Int) ≤ (l0.length : Int)) = true := decide_eq_true c3
    have c3b1 : decide (l1.length ≤ l0.length) = true := decide_eq_true (Int.ofNat_le.mp c3)
    clear c3
    by_cases c4 : 0 ≤ (l1.length : Int)
    · rw [if_pos c4] at H
      have c4b0 := eq_true c4
      have c4b1 : decide (0 ≤ (l1.length : Int)) = true := decide_eq_true c4
      clear c4
      by_cases c5 : (l1.length : Int) ≤ (l0.length : Int)
      · rw [if_pos c5] at H
        have c5b0 := eq_true c5
        have c5b1 : decide ((l1.length : Int) ≤ (l0.length : Int)) = true := decide_eq_true c5
        clear c5
        replace H := Option.bind_eq_some_iff.mp H
        obtain ⟨t109, A60, H⟩ := H
        replace H : (some t109) = some r := H
        have A6 := Aside0.mk A60
        clear A60
        obtain rfl := Option.some.inj H
        obtain ⟨i07, hi07, _, hsz7, _⟩ := info_parts info5
        obtain ⟨hcut7, hA7, hC7⟩ := print_take_of (P := Tryd.prog) (Value.int .u8) 0 26 5 .i64 Tryd.underlying26 hi07 hsz7 A0 c0 l0 (l1.length : Int) (of_decide_eq_true (by first | (with_reducible assumption) | assumption)) (of_decide_eq_true (by first | (with_reducible assumption) | assumption)) HC0.out
        have HR108 := Aside0.mk (Kd.C_of_reads (h1 := fun _ => rfl) (hA7 _ (Kd.reads_of_C HR0.out)))
        have HC108 := Aside0.mk hC7
        clear hA7 hC7 hi07 hsz7
        generalize hq_ : l0.take ((l1.length : Int) : Int).toNat = q_ at hcut7 HR108 HC108 A6
        clear hq_
        go_enter Tryd.func38, Tryd.ntmps38
        go_wp2_with (first | (go_at_call 47; (with_reducible refine (bytes_Equal.calls _ _ q_ _ _ l1 t109 _ ?side1 ?side2 ?side3 ?side4 A6.out).mono ?_); (case side1 => repeat (first | exact HR108.out | (with_reducible refine Kd.C_alloc ?_ _) | (with_reducible refine Kd.C_drewN ?_ _) | (with_reducible refine Kd.C_drew ?_))); (case side2 => exact HC108.out); (case side3 => repeat (first | exact HR1.out | (with_reducible refine Kd.C_alloc ?_ _) | (with_reducible refine Kd.C_drewN ?_ _) | (with_reducible refine Kd.C_drew ?_))); (case side4 => exact HC1.out); rintro e w' ⟨rfl, ⟨nd, rfl⟩⟩))
        go_ret
        exact ⟨by first | rfl | (simp; done) | (simp [*]; done), by repeat (first | exact Drawn0.refl _ | apply Drawn0.step)⟩
      · rw [if_neg c5] at H
        exact absurd H (by simp)
    · rw [if_neg c4] at H
      exact absurd H (by simp)
  · rw [if_neg c3] at H
    have c3b0 : decide ((l1.length : Int) ≤ (l0.length : Int)) = false := decide_eq_false c3
    have c3b1 : decide (l1.length ≤ l0.length) = false := decide_eq_false (fun h => c3 (Int.ofNat_le.mpr h))
    clear c3
    obtain rfl := Option.some.inj H
    go_enter Tryd.func38, Tryd.ntmps38
    go_wp2
    go_ret
    exact ⟨by first | rfl | (simp; done) | (simp [*]; done), by repeat (first | exact Drawn0.refl _ | apply Drawn0.step)⟩

-- NOT PRINTED: function 63 (utf8_decodeRuneInStringSlow)

-- NOT PRINTED: function 57 (utf8_DecodeRuneInString)

/-! ### utf8_RuneStart: function 64 -/
def utf8_RuneStart.f (a0 : Int) : Option (Bool) := some ((Go.bits .and .u8 a0 192) != 128)
set_option maxHeartbeats 8000000 in
set_option maxRecDepth 100000 in
theorem utf8_RuneStart.calls (a0 : Int) (r : Bool) (w : World) (h : utf8_RuneStart.f a0 = some r) :
    Calls Tryd.prog 64 #[.int .u8 a0] w fun e w' => e = .returned (.bool r) ∧ Drawn0 w w' := by
  have H : (some ((Go.bits .and .u8 a0 192) != 128)) = some r := h
  clear h
  obtain rfl := Option.some.inj H
  go_enter Tryd.func64, Tryd.ntmps64
  go_wp2
  go_ret
  exact ⟨by first | rfl | (simp; done) | (simp [*]; done), by repeat (first | exact Drawn0.refl _ | apply Drawn0.step)⟩

-- NOT PRINTED: function 62 (utf8_DecodeLastRuneInString)

-- NOT PRINTED: function 56 (strings_lastIndexFunc)

-- NOT PRINTED: function 50 (strings_TrimRightFunc)

-- NOT PRINTED: function 59 (strings_indexFunc)

-- NOT PRINTED: function 54 (strings_TrimLeftFunc)

-- NOT PRINTED: function 48 (strings_TrimFunc)

-- NOT PRINTED: function 60 (unicode_is16)

-- NOT PRINTED: function 61 (unicode_is32)

-- NOT PRINTED: function 55 (unicode_isExcludingLatin)

-- NOT PRINTED: function 49 (unicode_IsSpace)

-- NOT PRINTED: function 40 (strings_TrimSpace)

-- NOT PRINTED: function 26 (pktline_Scanner_Scan)

-- NOT PRINTED: function 27 (pktline_Scanner_Bytes)

-- NOT PRINTED: function 28 (pktline_Scanner_Err)

-- NOT PRINTED: function 16 (impl_ReadLines)

-- NOT PRINTED: function 7 (laws_pktWorks)

-- NOT PRINTED: function 29 (packp_GitProtoRequest_validate)

-- NOT PRINTED: function 30 (pktline_NewEncoder)

-- NOT PRINTED: function 35 (pktline_Encoder_Flush)

/-! ### pktline_byteToASCIIHex: function 58 -/
def pktline_byteToASCIIHex.f (a0 : Int) : Option (Int) := if a0 < 10 then (some ((48 + a0) % 256)) else (some ((87 + a0) % 256))
set_option maxHeartbeats 8000000 in
set_option maxRecDepth 100000 in
theorem pktline_byteToASCIIHex.calls (a0 : Int) (r : Int) (w : World) (h : pktline_byteToASCIIHex.f a0 = some r) :
    Calls Tryd.prog 58 #[.int .u8 a0] w fun e w' => e = .returned (.int .u8 r) ∧ Drawn0 w w' := by
  have H : (if a0 < 10 then (some ((48 + a0) % 256)) else (some ((87 + a0) % 256))) = some r := h
  clear h
  by_cases c2 : a0 < 10
  · rw [if_pos c2] at H
    have c2b0 : decide (a0 < 10) = true := decide_eq_true c2
    clear c2
    obtain rfl := Option.some.inj H
    go_enter Tryd.func58, Tryd.ntmps58
    go_wp2
    go_ret
    exact ⟨by first | rfl | (simp; done) | (simp [*]; done), by repeat (first | exact Drawn0.refl _ | apply Drawn0.step)⟩
  · rw [if_neg c2] at H
    have c2b0 : decide (a0 < 10) = false := decide_eq_false c2
    clear c2
    obtain rfl := Option.some.inj H
    go_enter Tryd.func58, Tryd.ntmps58
    go_wp2
    go_ret
    exact ⟨by first | rfl | (simp; done) | (simp [*]; done), by repeat (first | exact Drawn0.refl _ | apply Drawn0.step)⟩

-- NOT PRINTED: function 51 (pktline_asciiHex16)

-- NOT PRINTED: function 41 (pktline_Encoder_encodeLine)

-- NOT PRINTED: function 31 (pktline_Encoder_Encode)

-- NOT PRINTED: function 17 (packp_GitProtoRequest_Encode)

-- NOT PRINTED: function 18 (bytes_Buffer_Bytes)

-- NOT PRINTED: function 8 (impl_WriteProto)

/-! ### laws_deltaSame: function 9 -/
def laws_deltaSame.f (l0 : List Int) (l1 : List Int) : Option (Bool) := some ((strOfNums l0).toList == (strOfNums l1).toList)
set_option maxHeartbeats 8000000 in
set_option maxRecDepth 100000 in
theorem laws_deltaSame.calls (A0 : Option Addr) (c0 : Nat) (l0 : List Int) (A1 : Option Addr) (c1 : Nat) (l1 : List Int) (r : Bool) (w : World) (hr0 : Kd.C (Kd.int .u8) w A0 l0.length l0) (hc0 : l0.length ≤ c0) (hr1 : Kd.C (Kd.int .u8) w A1 l1.length l1) (hc1 : l1.length ≤ c1) (h : laws_deltaSame.f l0 l1 = some r) :
    Calls Tryd.prog 9 #[.slice A0 l0.length c0, .slice A1 l1.length c1] w fun e w' => e = .returned (.bool r) ∧ Drawn0 w w' := by
  have HR0 := Aside0.mk hr0
  have HC0 := Aside0.mk hc0
  clear hr0 hc0
  have HR1 := Aside0.mk hr1
  have HC1 := Aside0.mk hc1
  clear hr1 hc1
  have H : (some ((strOfNums l0).toList == (strOfNums l1).toList)) = some r := h
  clear h
  obtain rfl := Option.some.inj H
  have hcv3 := Kd.C_string (P := Tryd.prog) (A := A0) (c := c0) Tryd.underlying26 Tryd.underlying5 Tryd.underlying9 HR0.out
  have hcv4 := Kd.C_string (P := Tryd.prog) (A := A1) (c := c1) Tryd.underlying26 Tryd.underlying5 Tryd.underlying9 HR1.out
  go_enter Tryd.func9, Tryd.ntmps9
  go_wp2
  go_ret
  exact ⟨by first | rfl | (simp; done) | (simp [*]; done), by repeat (first | exact Drawn0.refl _ | apply Drawn0.step)⟩

/-! ### spec_Hex4: function 32 -/
def spec_Hex4.l0 : Nat → Int → List Int → Int → Option (List Int)
  | 0, _, _, _ => none
  | k + 1, x0, x3, x4 => if x4 ≥ 0 then (if 0 ≤ x4 then (if 0 ≤ (Go.bits .and .i64 (shr .i64 x0 x4) 15) then (if (Go.bits .and .i64 (shr .i64 x0 x4) 15) < 16 then (if x3.length < 140737488355328 then (spec_Hex4.l0 k x0 (x3 ++ [bt (⟨#[48, 49, 50, 51, 52, 53, 54, 55, 56, 57, 97, 98, 99, 100, 101, 102]⟩ : ByteArray) (Go.bits .and .i64 (shr .i64 x0 x4) 15)]) (wrap64 (x4 - 4))) else (none)) else (none)) else (none)) else (none)) else (some x3)
def spec_Hex4.f (k : Nat) (a0 : Int) : Option (List Int) := spec_Hex4.l0 k a0 ([] : List Int) 12
theorem spec_Hex4.mono_l : ∀ k, (∀ y0 y1 y2, LeO (spec_Hex4.l0 k y0 y1 y2) (spec_Hex4.l0 (k + 1) y0 y1 y2))
  | 0 => fun _ _ _ r h => by simp [spec_Hex4.l0] at h
  | k + 1 => by
    have ih0 := spec_Hex4.mono_l k
    · intro y0 y1 y2
      unfold spec_Hex4.l0
      repeat' first
      | (with_reducible exact ih0 _ _ _)
      | (with_reducible exact LeO.refl _)
      | (with_reducible exact LeO.none _)
      | (with_reducible refine LeO.ite ?_ ?_)
      | (with_reducible refine LeO.bind ?_ (fun _ => ?_))
      | exact ih0 _ _ _
      | exact LeO.none _
      | refine LeO.ite ?_ ?_
      | refine LeO.bind ?_ (fun _ => ?_)
theorem spec_Hex4.mono : ∀ a0 k, LeO (spec_Hex4.f k a0) (spec_Hex4.f (k + 1) a0) := by
  intro a0 k
  have ih0 := spec_Hex4.mono_l k
  unfold spec_Hex4.f
  repeat' first
      | (with_reducible exact ih0 _ _ _)
      | (with_reducible exact LeO.refl _)
      | (with_reducible exact LeO.none _)
      | (with_reducible refine LeO.ite ?_ ?_)
      | (with_reducible refine LeO.bind ?_ (fun _ => ?_))
      | exact ih0 _ _ _
      | exact LeO.none _
      | refine LeO.ite ?_ ?_
      | refine LeO.bind ?_ (fun _ => ?_)
set_option maxHeartbeats 8000000 in
set_option maxRecDepth 100000 in
theorem spec_Hex4.calls (k : Nat) (a0 : Int) (r : List Int) (w : World) (h : spec_Hex4.f k a0 = some r) :
    Calls Tryd.prog 32 #[.int .i64 a0] w fun e w' => ∃ v0_ : Value, e = .returned (v0_) ∧ Kd.R (Kd.int .u8) 5 w' w.heap.size (fun _ => True) v0_ r ∧ Below w.heap.size w w' := by
  have HB := Aside0.mk (Below.refl w.heap.size w)
  have H : (spec_Hex4.l0 k a0 ([] : List Int) 12) = some r := h
  clear h
  have H' := Aside0.mk H
  clear H
  go_enter Tryd.func32, Tryd.ntmps32
  go_wp2
  go_loopg [3, 4] k (fun kq v3 v4 w' => ∃ (x3_1 : List Int) (x4_1 : Int), v4 = .int .i64 x4_1 ∧ Aside0 (spec_Hex4.l0 kq a0 x3_1 x4_1 = some r) ∧ Aside0 (kq ≤ k) ∧ Aside0 (Kd.R (Kd.int .u8) 5 w' w.heap.size (fun _ => True) v3 x3_1) ∧ Aside0 (Below w.heap.size w w'))
  case atStart => exact ⟨(([] : List Int)), (12), (by first | rfl | (simp; done) | (simp [*]; done)), H', ⟨Nat.le_refl _⟩, ⟨by first | exact Kd.R_nil _ _ _ _ _ | exact Kd.N_nil _ _ _ _ _ | exact Kd.V_nil _ _ _ _ _ | exact Kd.Q_nil _ _ _ _ _ | exact Kd.S_nil _ _ _ _ _⟩, ⟨by repeat (first | (with_reducible first | exact HB.out | apply below_alloc | apply pw_below_drewN | apply below_drew1) | exact HB.out)⟩⟩
  case round =>
    clear H'
    obtain ⟨x3_1, x4_1, rfl, HA, HK1, HO_3, HB⟩ := hrel
    cases gk with
    | zero => exact absurd HA.out (by simp [spec_Hex4.l0])
    | succ k1 =>
      have H := HA.out
      clear HA
      simp only [spec_Hex4.l0] at H
      by_cases c2 : x4_1 ≥ 0
      · rw [if_pos c2] at H
        have c2b0 : decide (0 ≤ x4_1) = true := decide_eq_true c2
        clear c2
        by_cases c3 : 0 ≤ x4_1
        · rw [if_pos c3] at H
          have c3b0 := eq_true c3
          have c3b1 : decide (0 ≤ x4_1) = true := decide_eq_true c3
          clear c3
          obtain ⟨ji4, hji4⟩ : ∃ j_ : Int, (shr .i64 a0 x4_1) = j_ := ⟨_, rfl⟩
          replace H : (if 0 ≤ (Go.bits .and .i64 (ji4) 15) then (if (Go.bits .and .i64 (ji4) 15) < 16 then (if x3_1.length < 140737488355328 then (spec_Hex4.l0 k1 a0 (x3_1 ++ [bt (⟨#[48, 49, 50, 51, 52, 53, 54, 55, 56, 57, 97, 98, 99, 100, 101, 102]⟩ : ByteArray) (Go.bits .and .i64 (ji4) 15)]) (wrap64 (x4_1 - 4))) else (none)) else (none)) else (none)) = some r := by first | (rw [hji4] at H; exact H) | (simp only [hji4] at H ⊢; exact H)
          have hji4_ : (a0 / 2 ^ min x4_1.toNat 64) = ji4 := hji4
          have hji4z : x4_1 ≤ 64 → (a0 / 2 ^ x4_1.toNat) = ji4 := shr_small hji4
          by_cases c5 : 0 ≤ (Go.bits .and .i64 (ji4) 15)
          · rw [if_pos c5] at H
            have c5b0 : decide (0 ≤ (Go.bits .and .i64 (ji4) 15)) = true := decide_eq_true c5
            clear c5
            by_cases c6 : (Go.bits .and .i64 (ji4) 15) < 16
            · rw [if_pos c6] at H
              have c6b0 : decide ((Go.bits .and .i64 (ji4) 15) < 16) = true := decide_eq_true c6
              clear c6
              by_cases c8 : x3_1.length < 140737488355328
              · rw [if_pos c8] at H
                have LMc8 := Aside0.mk c8
                clear c8
                obtain ⟨y135, hy135⟩ : ∃ y_ : List Int, y_ = (x3_1 ++ [bt (⟨#[48, 49, 50, 51, 52, 53, 54, 55, 56, 57, 97, 98, 99, 100, 101, 102]⟩ : ByteArray) (Go.bits .and .i64 (ji4) 15)]) := ⟨_, rfl⟩
                replace H : (spec_Hex4.l0 k1 a0 y135 (wrap64 (x4_1 - 4))) = some r := by first | (rw [hy135]; with_reducible exact H) | (have H2_ := (Option.bind_some _ _).symm.trans H; rw [hy135]; with_reducible exact H2_) | (have H2_ := (Option.bind_some _ _).symm.trans H; with_reducible exact H2_) | with_reducible exact H | (rw [hy135]; exact H) | exact H
                have Ny135 := Aside0.mk hy135
                clear hy135
                have H' := Aside0.mk H
                clear H
                have p7 : 0 ≤ ((Go.bits .and .i64 (ji4) 15) : Int) := of_decide_eq_true (by first | (with_reducible assumption) | assumption)
                have q7 : (Go.bits .and .i64 (ji4) 15) < (16 : Int) := of_decide_eq_true (by first | (with_reducible assumption) | assumption)
                have hx7 := bt_at (⟨#[48, 49, 50, 51, 52, 53, 54, 55, 56, 57, 97, 98, 99, 100, 101, 102]⟩ : ByteArray) (Go.bits .and .i64 (ji4) 15)
                replace p7 := eq_true p7
                replace q7 := eq_true q7
                go_wp2_with (first | ((with_reducible refine gate_builtin (b := .append) (xs := #[.tmp 9, .tmp 15]) rfl ?_); at_builtin; refine Kd.R_append (Kd.int .u8) (w0 := w) w.heap.size rfl (.tmp 9) (.tmp 15) 26 5 (.int .u8 0) 1 rfl Tryd.underlying26 info5 rfl (by decide) (by omega) u3 x3_1 (bt (⟨#[48, 49, 50, 51, 52, 53, 54, 55, 56, 57, 97, 98, 99, 100, 101, 102]⟩ : ByteArray) (Go.bits .and .i64 (ji4) 15)) [.int .u8 (bt (⟨#[48, 49, 50, 51, 52, 53, 54, 55, 56, 57, 97, 98, 99, 100, 101, 102]⟩ : ByteArray) (Go.bits .and .i64 (ji4) 15))] (fun _ => True) (fun _ => False) rfl rfl ?aP (fun _ hk => hk.elim) ?aF ?aO ?aB ?aS ?aL ?_; (case aP => exact rfl); (case aB => exact (by repeat (first | (with_reducible first | exact HB.out | apply below_alloc | apply pw_below_drewN | apply below_drew1) | exact HB.out))); (case aF => exact (fun _ _ => trivial)); (case aO => exact (by (with_reducible repeat (first | apply Kd.R_alloc | apply Kd.R_drewN | apply Kd.R_drew)); exact HO_3.out)); (case aS => exact (below_size (by repeat (first | (with_reducible first | exact HB.out | apply below_alloc | apply pw_below_drewN | apply below_drew1) | exact HB.out)))); (case aL => have := LMc8.out; omega); intro v136 w9 ho hb hg hat; rw [← Ny135.out] at ho; have n0_ := Aside0.mk (hb); have n1_ := Aside0.mk (ho); clear HB; clear HO_3; have HB := n0_; have HO137 := n1_; clear n0_ n1_; clear ho hb hg hat))
                go_roundg k1
                case measure => have := HK1.out; omega
                case rel => exact ⟨(y135), (wrap64 (x4_1 - 4)), (by first | rfl | (simp; done) | (simp [*]; done)), H', ⟨by have := HK1.out; omega⟩, ⟨by (with_reducible repeat (first | apply Kd.R_alloc | apply Kd.R_drewN | apply Kd.R_drew)); exact HO137.out⟩, ⟨by repeat (first | (with_reducible first | exact HB.out | apply below_alloc | apply pw_below_drewN | apply below_drew1) | exact HB.out)⟩⟩
              · rw [if_neg c8] at H
                exact absurd H (by simp)
            · rw [if_neg c6] at H
              exact absurd H (by simp)
          · rw [if_neg c5] at H
            exact absurd H (by simp)
        · rw [if_neg c3] at H
          exact absurd H (by simp)
      · rw [if_neg c2] at H
        have c2b0 : decide (0 ≤ x4_1) = false := decide_eq_false c2
        clear c2
        obtain rfl := Option.some.inj H
        go_wp2
        go_ret
        exact ⟨_, by first | rfl | (simp [errW_none, errW_some] <;> rfl) | (simp [*, errW_none, errW_some] <;> rfl), by (with_reducible repeat (first | apply Kd.R_alloc | apply Kd.R_drewN | apply Kd.R_drew)); exact HO_3.out, by repeat (first | (with_reducible first | exact HB.out | apply below_alloc | apply pw_below_drewN | apply below_drew1) | exact HB.out)⟩

-- NOT PRINTED: function 10 (spec_ProtoText)

-- NOT PRINTED: function 3 (laws_FnProtoFirstWritten)

end Go.Proofs.YtfjhgmnmadobjaaDoor.PFnProtoFirstWritten
