-- PRINTED BY print.sh 35421559b90ae4d0a3588c463048766b98c2df88dd9212a6774a882060cdf62d: not written by this session
import Derived.Test.YtbiflpbajgafaaaPFnIgnoreRootx0
import Derived.Test.YtbiflpbajgafaaaPFnIgnoreRootx5
namespace Go.Proofs.Ytbiflpbajgafaaa.PFnIgnoreRoot
open Go.RowKit Go.Proofs.YtbiflpbajgafaaaW.PrintWords Go.Proofs.YtbiflpbajgafaaaW.PrintLast Go.Proofs.YtbiflpbajgafaaaW.PrintMore
attribute [local go_sem] max2_int min2_int max_two min_two max_three min_three max_four min_four   -- for this text's walks alone
set_option linter.unusedVariables false
set_option linter.unusedSimpArgs false

/-! ### spec_FrontIgnored: function 16 -/
def spec_FrontIgnored.l0 : Nat → List ByteArray → Bool → List ByteArray → Bool → List ByteArray → Int → Int → Option (Bool)
  | 0, _, _, _, _, _, _, _ => none
  | k + 1, x0, x1, x2, x3, x16, x17, x18 => if x18 < x17 then (if 0 ≤ x18 then (if x18 < (x16.length : Int) then (if x18 < (x2.length : Int) then ((spec_Globs.f k (rdOf ByteArray.empty x16 x18) (rdOf ByteArray.empty x2 x18)).bind fun t130 => (if t130 = true then (spec_FrontIgnored.l0 k x0 x1 x2 x3 x16 x17 (wrap64 (x18 + 1))) else (some false))) else (none)) else (none)) else (none)) else (if x1 = true then (if (x0.length : Int) < (x2.length : Int) then (some true) else (some x3)) else (some true))
def spec_FrontIgnored.f (k : Nat) (l0 : List ByteArray) (a1 : Bool) (l2 : List ByteArray) (a3 : Bool) : Option (Bool) := if (l0.length : Int) > (l2.length : Int) then (some false) else (spec_FrontIgnored.l0 k l0 a1 l2 a3 l0 (l0.length : Int) 0)
theorem spec_FrontIgnored.mono_l : ∀ k, (∀ y0 y1 y2 y3 y4 y5 y6, LeO (spec_FrontIgnored.l0 k y0 y1 y2 y3 y4 y5 y6) (spec_FrontIgnored.l0 (k + 1) y0 y1 y2 y3 y4 y5 y6))
  | 0 => fun _ _ _ _ _ _ _ r h => by simp [spec_FrontIgnored.l0] at h
  | k + 1 => by
    have ih0 := spec_FrontIgnored.mono_l k
    · intro y0 y1 y2 y3 y4 y5 y6
      unfold spec_FrontIgnored.l0
      repeat' first
      | (with_reducible exact ih0 _ _ _ _ _ _ _)
      | (with_reducible exact spec_Globs.mono _ _ _)
      | (with_reducible exact LeO.refl _)
      | (with_reducible exact LeO.none _)
      | (with_reducible refine LeO.ite ?_ ?_)
      | (with_reducible refine LeO.bind ?_ (fun _ => ?_))
      | exact ih0 _ _ _ _ _ _ _
      | exact spec_Globs.mono _ _ _
      | exact LeO.none _
      | refine LeO.ite ?_ ?_
      | refine LeO.bind ?_ (fun _ => ?_)
theorem spec_FrontIgnored.mono : ∀ a0 a1 a2 a3 k, LeO (spec_FrontIgnored.f k a0 a1 a2 a3) (spec_FrontIgnored.f (k + 1) a0 a1 a2 a3) := by
  intro a0 a1 a2 a3 k
  have ih0 := spec_FrontIgnored.mono_l k
  unfold spec_FrontIgnored.f
  repeat' first
      | (with_reducible exact ih0 _ _ _ _ _ _ _)
      | (with_reducible exact spec_Globs.mono _ _ _)
      | (with_reducible exact LeO.refl _)
      | (with_reducible exact LeO.none _)
      | (with_reducible refine LeO.ite ?_ ?_)
      | (with_reducible refine LeO.bind ?_ (fun _ => ?_))
      | exact ih0 _ _ _ _ _ _ _
      | exact spec_Globs.mono _ _ _
      | exact LeO.none _
      | refine LeO.ite ?_ ?_
      | refine LeO.bind ?_ (fun _ => ?_)
set_option maxHeartbeats 8000000 in
set_option maxRecDepth 100000 in
theorem spec_FrontIgnored.calls (k : Nat) (A0 : Option Addr) (c0 : Nat) (l0 : List ByteArray) (a1 : Bool) (A2 : Option Addr) (c2 : Nat) (l2 : List ByteArray) (a3 : Bool) (r : Bool) (w : World) (hr0 : Kd.C Kd.string w A0 l0.length l0) (hc0 : l0.length ≤ c0) (hr2 : Kd.C Kd.string w A2 l2.length l2) (hc2 : l2.length ≤ c2) (h : spec_FrontIgnored.f k l0 a1 l2 a3 = some r) :
    Calls Try.prog 16 #[.slice A0 l0.length c0, .bool a1, .slice A2 l2.length c2, .bool a3] w fun e w' => e = .returned (.bool r) ∧ Below w.heap.size w w' := by
  have HR0 := Aside0.mk hr0
  have HC0 := Aside0.mk hc0
  clear hr0 hc0
  have HR2 := Aside0.mk hr2
  have HC2 := Aside0.mk hc2
  clear hr2 hc2
  have HB := Aside0.mk (Below.refl w.heap.size w)
  have H : (if (l0.length : Int) > (l2.length : Int) then (some false) else (spec_FrontIgnored.l0 k l0 a1 l2 a3 l0 (l0.length : Int) 0)) = some r := h
  clear h
  by_cases c5 : (l0.length : Int) > (l2.length : Int)
  · rw [if_pos c5] at H
    have c5b0 : decide ((l2.length : Int) < (l0.length : Int)) = true := decide_eq_true c5
    have c5b1 : decide (l2.length < l0.length) = true := decide_eq_true (Int.ofNat_lt.mp c5)
    clear c5
    obtain rfl := Option.some.inj H
    go_enter Try.func16, Try.ntmps16
    go_wp2
    go_ret
    exact ⟨by first | rfl | (simp [errW_none, errW_some] <;> rfl) | (simp [*, errW_none, errW_some] <;> rfl), by repeat (first | (with_reducible first | exact HB.out | apply below_alloc | apply pw_below_drewN | apply below_drew1) | exact HB.out)⟩
  · rw [if_neg c5] at H
    have c5b0 : decide ((l2.length : Int) < (l0.length : Int)) = false := decide_eq_false c5
    have c5b1 : decide (l2.length < l0.length) = false := decide_eq_false (fun h => c5 (Int.ofNat_lt.mpr h))
    clear c5
    have H' := Aside0.mk H
    clear H
    go_enter Try.func16, Try.ntmps16
    go_wp2
    go_loopg [18] k (fun kq v18 w' => ∃ (x18_1 : Int), v18 = .int .i64 x18_1 ∧ Aside0 (spec_FrontIgnored.l0 kq l0 a1 l2 a3 l0 (l0.length : Int) x18_1 = some r) ∧ Aside0 (kq ≤ k) ∧ Aside0 (Below w.heap.size w w'))
    case atStart => exact ⟨(0), (by first | rfl | (simp; done) | (simp [*]; done)), H', ⟨Nat.le_refl _⟩, ⟨by repeat (first | (with_reducible first | exact HB.out | apply below_alloc | apply pw_below_drewN | apply below_drew1) | exact HB.out)⟩⟩
    case round =>
      clear H'
      try clear c1
      try clear c2
      try clear p2
      try clear c5
      try clear c5b0
      try clear c5b1
      obtain ⟨x18_1, rfl, HA, HK1, HB⟩ := hrel
      cases gk with
      | zero => exact absurd HA.out (by simp [spec_FrontIgnored.l0])
      | succ k1 =>
        have H := HA.out
        clear HA
        simp only [spec_FrontIgnored.l0] at H
        by_cases c6 : x18_1 < (l0.length : Int)
        · rw [if_pos c6] at H
          have c6b0 : decide (x18_1 < (l0.length : Int)) = true := decide_eq_true c6
          clear c6
          by_cases c7 : 0 ≤ x18_1
          · rw [if_pos c7] at H
            have c7b0 : decide (0 ≤ x18_1) = true := decide_eq_true c7
            clear c7
            by_cases c8 : x18_1 < (l0.length : Int)
            · rw [if_pos c8] at H
              have c8b0 : decide (x18_1 < (l0.length : Int)) = true := decide_eq_true c8
              clear c8
              by_cases c9 : x18_1 < (l2.length : Int)
              · rw [if_pos c9] at H
                have c9b0 : decide (x18_1 < (l2.length : Int)) = true := decide_eq_true c9
                clear c9
                replace H := Option.bind_eq_some_iff.mp H
                obtain ⟨t130, A100, H⟩ := H
                replace H : (if t130 = true then (spec_FrontIgnored.l0 k1 l0 a1 l2 a3 l0 (l0.length : Int) (wrap64 (x18_1 + 1))) else (some false)) = some r := H
                have A10 := Aside0.mk A100
                clear A100
                by_cases c11 : t130 = true
                · subst c11
                  have H1 : (spec_FrontIgnored.l0 k1 l0 a1 l2 a3 l0 (l0.length : Int) (wrap64 (x18_1 + 1))) = some r := by rw [if_pos rfl] at H; exact H
                  clear H
                  have H := H1
                  clear H1
                  have H' := Aside0.mk H
                  clear H
                  have p128 : 0 ≤ (x18_1 : Int) := of_decide_eq_true (by first | (with_reducible assumption) | assumption)
                  have q128 : x18_1 < (l0.length : Int) := of_decide_eq_true (by first | (with_reducible assumption) | assumption)
                  obtain ⟨ad128, e128, hx128_0⟩ := Kd.at_string HR0.out x18_1 p128 q128
                  cases e128
                  replace hx128_0 := (HB.out.cell (World.block_lt_of_cell? w _ hx128_0)).trans hx128_0
                  replace p128 := eq_true p128
                  replace q128 := eq_true q128
                  have p129 : 0 ≤ (x18_1 : Int) := of_decide_eq_true (by first | (with_reducible assumption) | assumption)
                  have q129 : x18_1 < (l2.length : Int) := of_decide_eq_true (by first | (with_reducible assumption) | assumption)
                  obtain ⟨ad129, e129, hx129_0⟩ := Kd.at_string HR2.out x18_1 p129 q129
                  cases e129
                  replace hx129_0 := (HB.out.cell (World.block_lt_of_cell? w _ hx129_0)).trans hx129_0
                  replace p129 := eq_true p129
                  replace q129 := eq_true q129
                  go_wp2_with (first | ((with_reducible refine gate_callee (f := 10) rfl ?_); refine goesL_ (some 28) rfl rfl Try.func10 (by kernel_rfl) rfl #[.string (rdOf ByteArray.empty l0 x18_1), .string (rdOf ByteArray.empty l2 x18_1)] rfl (by (try simp only [List.map_toArray, List.map_cons, List.map_nil]); first | done | rfl | (simp only [List.length_drop, List.length_take]; rfl)) ?_; (with_reducible refine (spec_Globs.calls k1 (rdOf ByteArray.empty l0 x18_1) (rdOf ByteArray.empty l2 x18_1) true _ A10.out).mono ?_); rintro e w12 ⟨rfl, hb⟩; refine ⟨_, rfl, ?_⟩; have n0_ := Aside0.mk (below_step (by repeat (first | (with_reducible first | exact HB.out | apply below_alloc | apply pw_below_drewN | apply below_drew1) | exact HB.out)) hb); clear HB; have HB := n0_; clear n0_; (try clear hb); (try clear hb2); (try clear hk); (try clear hi)))
                  go_roundg k1
                  case measure => have := HK1.out; omega
                  case rel => exact ⟨(wrap64 (x18_1 + 1)), (by first | rfl | (simp; done) | (simp [*]; done)), H', ⟨by have := HK1.out; omega⟩, ⟨by repeat (first | (with_reducible first | exact HB.out | apply below_alloc | apply pw_below_drewN | apply below_drew1) | exact HB.out)⟩⟩
                · replace c11 := Bool.eq_false_iff.mpr c11
                  subst c11
                  have H1 : (some false) = some r := by rw [if_neg (show ¬ (false = true) by decide)] at H; exact H
                  clear H
                  have H := H1
                  clear H1
                  obtain rfl := Option.some.inj H
                  have p128 : 0 ≤ (x18_1 : Int) := of_decide_eq_true (by first | (with_reducible assumption) | assumption)
                  have q128 : x18_1 < (l0.length : Int) := of_decide_eq_true (by first | (with_reducible assumption) | assumption)
                  obtain ⟨ad128, e128, hx128_0⟩ := Kd.at_string HR0.out x18_1 p128 q128
                  cases e128
                  replace hx128_0 := (HB.out.cell (World.block_lt_of_cell? w _ hx128_0)).trans hx128_0
                  replace p128 := eq_true p128
                  replace q128 := eq_true q128
                  have p129 : 0 ≤ (x18_1 : Int) := of_decide_eq_true (by first | (with_reducible assumption) | assumption)
                  have q129 : x18_1 < (l2.length : Int) := of_decide_eq_true (by first | (with_reducible assumption) | assumption)
                  obtain ⟨ad129, e129, hx129_0⟩ := Kd.at_string HR2.out x18_1 p129 q129
                  cases e129
                  replace hx129_0 := (HB.out.cell (World.block_lt_of_cell? w _ hx129_0)).trans hx129_0
                  replace p129 := eq_true p129
                  replace q129 := eq_true q129
                  go_wp2_with (first | ((with_reducible refine gate_callee (f := 10) rfl ?_); refine goesL_ (some 28) rfl rfl Try.func10 (by kernel_rfl) rfl #[.string (rdOf ByteArray.empty l0 x18_1), .string (rdOf ByteArray.empty l2 x18_1)] rfl (by (try simp only [List.map_toArray, List.map_cons, List.map_nil]); first | done | rfl | (simp only [List.length_drop, List.length_take]; rfl)) ?_; (with_reducible refine (spec_Globs.calls k1 (rdOf ByteArray.empty l0 x18_1) (rdOf ByteArray.empty l2 x18_1) false _ A10.out).mono ?_); rintro e w13 ⟨rfl, hb⟩; refine ⟨_, rfl, ?_⟩; have n0_ := Aside0.mk (below_step (by repeat (first | (with_reducible first | exact HB.out | apply below_alloc | apply pw_below_drewN | apply below_drew1) | exact HB.out)) hb); clear HB; have HB := n0_; clear n0_; (try clear hb); (try clear hb2); (try clear hk); (try clear hi)))
                  go_ret
                  exact ⟨by first | rfl | (simp [errW_none, errW_some] <;> rfl) | (simp [*, errW_none, errW_some] <;> rfl), by repeat (first | (with_reducible first | exact HB.out | apply below_alloc | apply pw_below_drewN | apply below_drew1) | exact HB.out)⟩
              · rw [if_neg c9] at H
                exact absurd H (by simp)
            · rw [if_neg c8] at H
              exact absurd H (by simp)
          · rw [if_neg c7] at H
            exact absurd H (by simp)
        · rw [if_neg c6] at H
          have c6b0 : decide (x18_1 < (l0.length : Int)) = false := decide_eq_false c6
          clear c6
          by_cases c14 : a1 = true
          · subst c14
            have H1 : (if (l0.length : Int) < (l2.length : Int) then (some true) else (some a3)) = some r := by rw [if_pos rfl] at H; exact H
            clear H
            have H := H1
            clear H1
            by_cases c15 : (l0.length : Int) < (l2.length : Int)
            · rw [if_pos c15] at H
              have c15b0 : decide ((l0.length : Int) < (l2.length : Int)) = true := decide_eq_true c15
              have c15b1 : decide (l0.length < l2.length) = true := decide_eq_true (Int.ofNat_lt.mp c15)
              clear c15
              obtain rfl := Option.some.inj H
              go_wp2
              go_ret
              exact ⟨by first | rfl | (simp [errW_none, errW_some] <;> rfl) | (simp [*, errW_none, errW_some] <;> rfl), by repeat (first | (with_reducible first | exact HB.out | apply below_alloc | apply pw_below_drewN | apply below_drew1) | exact HB.out)⟩
            · rw [if_neg c15] at H
              have c15b0 : decide ((l0.length : Int) < (l2.length : Int)) = false := decide_eq_false c15
              have c15b1 : decide (l0.length < l2.length) = false := decide_eq_false (fun h => c15 (Int.ofNat_lt.mpr h))
              clear c15
              obtain rfl := Option.some.inj H
              go_wp2
              go_ret
              exact ⟨by first | rfl | (simp [errW_none, errW_some] <;> rfl) | (simp [*, errW_none, errW_some] <;> rfl), by repeat (first | (with_reducible first | exact HB.out | apply below_alloc | apply pw_below_drewN | apply below_drew1) | exact HB.out)⟩
          · replace c14 := Bool.eq_false_iff.mpr c14
            subst c14
            have H1 : (some true) = some r := by rw [if_neg (show ¬ (false = true) by decide)] at H; exact H
            clear H
            have H := H1
            clear H1
            obtain rfl := Option.some.inj H
            go_wp2
            go_ret
            exact ⟨by first | rfl | (simp [errW_none, errW_some] <;> rfl) | (simp [*, errW_none, errW_some] <;> rfl), by repeat (first | (with_reducible first | exact HB.out | apply below_alloc | apply pw_below_drewN | apply below_drew1) | exact HB.out)⟩

-- NOT PRINTED: function 5 (laws_FnIgnoreRoot)

end Go.Proofs.Ytbiflpbajgafaaa.PFnIgnoreRoot
