/- A contract of a function of the specification, as a printer of the kit wrote it, some facts added. -/
import Derived.Test.YtiibeefadgmicaaDoorPFnRevStepsx0
import Derived.Test.YtiibeefadgmicaaDoorPFnRevStepsx1
namespace Go.Proofs.YtiibeefadgmicaaDoor.PFnRevSteps
open Go.RowKit Go.Proofs.YtiibeefadgmicaaDoorW.PrintWords Go.Proofs.YtiibeefadgmicaaDoorW.PrintLast Go.Proofs.YtiibeefadgmicaaDoorW.PrintMore
attribute [local go_sem] max2_int min2_int max_two min_two max_three min_three max_four min_four   -- for this text's walks alone
set_option linter.unusedVariables false
set_option linter.unusedSimpArgs false

attribute [local go_sem high] eqA29
/-! ### spec_AreSteps: function 10 -/
def spec_AreSteps.l0 : Nat → List (S29) → List (S29) → Int → Int → Option (Bool)
  | 0, _, _, _, _ => none
  | k + 1, x0, x5, x6, x7 => if x7 < x6 then (if 0 ≤ x7 then (if x7 < (x5.length : Int) then (if ((((rd_T29 x5 x7).f0).toList) == ([84, 105, 108, 100, 101, 80, 97, 116, 104] : List UInt8) && ((((rd_T29 x5 x7).f1).toList) == ([] : List UInt8) && (!((rd_T29 x5 x7).f3)))) = true then (if ((rd_T29 x5 x7).f2) < 0 then (some false) else (if ((rd_T29 x5 x7).f2) > 1000000 then (some false) else (spec_AreSteps.l0 k x0 x5 x6 (wrap64 (x7 + 1))))) else (if ((((rd_T29 x5 x7).f0).toList) == ([67, 97, 114, 101, 116, 80, 97, 116, 104] : List UInt8) && ((((rd_T29 x5 x7).f1).toList) == ([] : List UInt8) && (!((rd_T29 x5 x7).f3)))) = true then (if ((rd_T29 x5 x7).f2) < 0 then (some false) else (if ((rd_T29 x5 x7).f2) > 2 then (some false) else (spec_AreSteps.l0 k x0 x5 x6 (wrap64 (x7 + 1))))) else (some false))) else (none)) else (none)) else (some (decide ((x0.length : Int) ≤ 100)))
def spec_AreSteps.f (k : Nat) (l0 : List (S29)) : Option (Bool) := spec_AreSteps.l0 k l0 l0 (l0.length : Int) 0
theorem spec_AreSteps.mono_l : ∀ k, (∀ y0 y1 y2 y3, LeO (spec_AreSteps.l0 k y0 y1 y2 y3) (spec_AreSteps.l0 (k + 1) y0 y1 y2 y3))
  | 0 => fun _ _ _ _ r h => by simp [spec_AreSteps.l0] at h
  | k + 1 => by
    have ih0 := spec_AreSteps.mono_l k
    · intro y0 y1 y2 y3
      unfold spec_AreSteps.l0
      repeat' first
      | (with_reducible exact ih0 _ _ _ _)
      | (with_reducible exact LeO.refl _)
      | (with_reducible exact LeO.none _)
      | (with_reducible refine LeO.ite ?_ ?_)
      | (with_reducible refine LeO.bind ?_ (fun _ => ?_))
      | exact ih0 _ _ _ _
      | exact LeO.none _
      | refine LeO.ite ?_ ?_
      | refine LeO.bind ?_ (fun _ => ?_)
theorem spec_AreSteps.mono : ∀ a0 k, LeO (spec_AreSteps.f k a0) (spec_AreSteps.f (k + 1) a0) := by
  intro a0 k
  have ih0 := spec_AreSteps.mono_l k
  unfold spec_AreSteps.f
  repeat' first
      | (with_reducible exact ih0 _ _ _ _)
      | (with_reducible exact LeO.refl _)
      | (with_reducible exact LeO.none _)
      | (with_reducible refine LeO.ite ?_ ?_)
      | (with_reducible refine LeO.bind ?_ (fun _ => ?_))
      | exact ih0 _ _ _ _
      | exact LeO.none _
      | refine LeO.ite ?_ ?_
      | refine LeO.bind ?_ (fun _ => ?_)
set_option maxHeartbeats 8000000 in
set_option maxRecDepth 100000 in
theorem spec_AreSteps.calls (k : Nat) (A0 : Option Addr) (c0 : Nat) (l0 : List (S29)) (r : Bool) (w : World) (hr0 : Kd.C k29 w A0 l0.length l0) (hc0 : l0.length ≤ c0) (h : spec_AreSteps.f k l0 = some r) :
    Calls Tryd.prog 10 #[.slice A0 l0.length c0] w fun e w' => e = .returned (.bool r) ∧ Below w.heap.size w w' := by
  have hu29 := Tryd.underlying29
  have HR0 := Aside0.mk hr0
  have HC0 := Aside0.mk hc0
  clear hr0 hc0
  have HB := Aside0.mk (Below.refl w.heap.size w)
  have H : (spec_AreSteps.l0 k l0 l0 (l0.length : Int) 0) = some r := h
  clear h
  have H' := Aside0.mk H
  clear H
  go_enter Tryd.func10, Tryd.ntmps10
  go_wp2
  go_loopg [7] k (fun kq v7 w' => ∃ (x7_1 : Int), v7 = .int .i64 x7_1 ∧ Aside0 (spec_AreSteps.l0 kq l0 l0 (l0.length : Int) x7_1 = some r) ∧ Aside0 (kq ≤ k) ∧ Aside0 (Below w.heap.size w w'))
  case atStart => exact ⟨(0), (by first | rfl | (simp; done) | (simp [*]; done)), H', ⟨Nat.le_refl _⟩, ⟨by repeat (first | (with_reducible first | exact HB.out | apply below_alloc | apply pw_below_drewN | apply below_drew1) | exact HB.out)⟩⟩
  case round =>
    clear H'
    try clear c1
    obtain ⟨x7_1, rfl, HA, HK1, HB⟩ := hrel
    cases gk with
    | zero => exact absurd HA.out (by simp [spec_AreSteps.l0])
    | succ k1 =>
      have H := HA.out
      clear HA
      simp only [spec_AreSteps.l0] at H
      by_cases c2 : x7_1 < (l0.length : Int)
      · rw [if_pos c2] at H
        have c2b0 : decide (x7_1 < (l0.length : Int)) = true := decide_eq_true c2
        clear c2
        by_cases c3 : 0 ≤ x7_1
        · rw [if_pos c3] at H
          have c3b0 : decide (0 ≤ x7_1) = true := decide_eq_true c3
          clear c3
          by_cases c4 : x7_1 < (l0.length : Int)
          · rw [if_pos c4] at H
            have c4b0 : decide (x7_1 < (l0.length : Int)) = true := decide_eq_true c4
            clear c4
            by_cases c5 : ((((rd_T29 l0 x7_1).f0).toList) == ([84, 105, 108, 100, 101, 80, 97, 116, 104] : List UInt8) && ((((rd_T29 l0 x7_1).f1).toList) == ([] : List UInt8) && (!((rd_T29 l0 x7_1).f3)))) = true
            · rw [if_pos c5] at H
              have c5b0 : ((((rd_T29 l0 x7_1).f0).toList) == ([84, 105, 108, 100, 101, 80, 97, 116, 104] : List UInt8) && ((((rd_T29 l0 x7_1).f1).toList) == ([] : List UInt8) && (!((rd_T29 l0 x7_1).f3)))) = true := c5
              (try (have c5b1 : decide ((((rd_T29 l0 x7_1).f0).toList) = ([84, 105, 108, 100, 101, 80, 97, 116, 104] : List UInt8) && ((((rd_T29 l0 x7_1).f1).toList) == ([] : List UInt8) && (!((rd_T29 l0 x7_1).f3)))) = true := by simpa using c5))
              (try (have c5b8 : decide ((((rd_T29 l0 x7_1).f0).toList) = ([84, 105, 108, 100, 101, 80, 97, 116, 104] : List UInt8) && ((((rd_T29 l0 x7_1).f1).toList).isEmpty && (!((rd_T29 l0 x7_1).f3)))) = true := by simpa using c5))
              (try (have c5b2 : ((((rd_T29 l0 x7_1).f0).toList) == ([84, 105, 108, 100, 101, 80, 97, 116, 104] : List UInt8) && ((((rd_T29 l0 x7_1).f1).toList) == ([] : List UInt8) && (!((rd_T29 l0 x7_1).f3)))) = true := by simpa using c5))
              (try (have c5b9 : ((((rd_T29 l0 x7_1).f0).toList) == ([84, 105, 108, 100, 101, 80, 97, 116, 104] : List UInt8) && ((((rd_T29 l0 x7_1).f1).toList).isEmpty && (!((rd_T29 l0 x7_1).f3)))) = true := by simpa using c5))
              clear c5
              by_cases c6 : ((rd_T29 l0 x7_1).f2) < 0
              · rw [if_pos c6] at H
                have c6b0 : decide (((rd_T29 l0 x7_1).f2) < 0) = true := decide_eq_true c6
                clear c6
                obtain rfl := Option.some.inj H
                have p105 : 0 ≤ (x7_1 : Int) := of_decide_eq_true (by first | (with_reducible assumption) | assumption)
                have q105 : x7_1 < (l0.length : Int) := of_decide_eq_true (by first | (with_reducible assumption) | assumption)
                obtain ⟨ad105, e105, hx105_0, hx105_1, hx105_2, hx105_3⟩ := at_T29 HR0.out x7_1 p105 q105
                cases e105
                replace hx105_0 := (HB.out.cell (World.block_lt_of_cell? w _ hx105_0)).trans hx105_0
                replace hx105_1 := (HB.out.cell (World.block_lt_of_cell? w _ hx105_1)).trans hx105_1
                replace hx105_2 := (HB.out.cell (World.block_lt_of_cell? w _ hx105_2)).trans hx105_2
                replace hx105_3 := (HB.out.cell (World.block_lt_of_cell? w _ hx105_3)).trans hx105_3
                replace p105 := eq_true p105
                replace q105 := eq_true q105
                go_wp2_with (first | ((with_reducible refine gate_dst (N := 4) rfl ?_); refine box_event ?hg (N := 4) ?hd (cs := #[.string (⟨#[]⟩ : ByteArray), .string (⟨#[]⟩ : ByteArray), .int .i64 0, .bool false]) (t := 29) ?hr ?_; (case hd => rfl); (case hg => rfl); (case hr => first | (go_simp; done) | (go_simp; rfl)); intro gb106 hg w7 hbox hb; have n0_ := Aside0.mk (below_step (by repeat (first | (with_reducible first | exact HB.out | apply below_alloc | apply pw_below_drewN | apply below_drew1) | exact HB.out)) hb); have n1_ := Aside0.mk (hbox); have n2_ := Aside0.mk ((by rw [hg]; exact (below_size (by repeat (first | (with_reducible first | exact HB.out | apply below_alloc | apply pw_below_drewN | apply below_drew1) | exact HB.out))) : w.heap.size ≤ gb106)); have n3_ := Aside0.mk ((by rw [hg]; exact (below_size (by repeat (first | (with_reducible first | exact HB.out | apply below_alloc | apply pw_below_drewN | apply below_drew1) | exact HB.out))) : w.heap.size ≤ gb106)); clear HB; have HB := n0_; have BK106 := n1_; have GW106 := n2_; have GE106 := n3_; clear n0_ n1_ n2_ n3_; clear hb hbox hg; have hcz8_0 : w7.cell? ⟨gb106, 0, none⟩ = some (.string (⟨#[]⟩ : ByteArray)) := (blk_cell BK106.out 0).trans rfl; have hcz8_1 : w7.cell? ⟨gb106, 1, none⟩ = some (.string (⟨#[]⟩ : ByteArray)) := (blk_cell BK106.out 1).trans rfl; have hcz8_2 : w7.cell? ⟨gb106, 2, none⟩ = some (.int .i64 0) := (blk_cell BK106.out 2).trans rfl; have hcz8_3 : w7.cell? ⟨gb106, 3, none⟩ = some (.bool false) := (blk_cell BK106.out 3).trans rfl; have hfz8_0 := blk_frozen BK106.out 0; have hfz8_1 := blk_frozen BK106.out 1; have hfz8_2 := blk_frozen BK106.out 2; have hfz8_3 := blk_frozen BK106.out 3))
                go_ret
                exact ⟨by first | rfl | (simp [errW_none, errW_some] <;> rfl) | (simp [*, errW_none, errW_some] <;> rfl), by repeat (first | (with_reducible first | exact HB.out | apply below_alloc | apply pw_below_drewN | apply below_drew1 | refine below_set ?_ GE106.out) | exact HB.out)⟩
              · rw [if_neg c6] at H
                have c6b0 : decide (((rd_T29 l0 x7_1).f2) < 0) = false := decide_eq_false c6
                clear c6
                by_cases c9 : ((rd_T29 l0 x7_1).f2) > 1000000
                · rw [if_pos c9] at H
                  have c9b0 : decide (1000000 < ((rd_T29 l0 x7_1).f2)) = true := decide_eq_true c9
                  clear c9
                  obtain rfl := Option.some.inj H
                  have p105 : 0 ≤ (x7_1 : Int) := of_decide_eq_true (by first | (with_reducible assumption) | assumption)
                  have q105 : x7_1 < (l0.length : Int) := of_decide_eq_true (by first | (with_reducible assumption) | assumption)
                  obtain ⟨ad105, e105, hx105_0, hx105_1, hx105_2, hx105_3⟩ := at_T29 HR0.out x7_1 p105 q105
                  cases e105
                  replace hx105_0 := (HB.out.cell (World.block_lt_of_cell? w _ hx105_0)).trans hx105_0
                  replace hx105_1 := (HB.out.cell (World.block_lt_of_cell? w _ hx105_1)).trans hx105_1
                  replace hx105_2 := (HB.out.cell (World.block_lt_of_cell? w _ hx105_2)).trans hx105_2
                  replace hx105_3 := (HB.out.cell (World.block_lt_of_cell? w _ hx105_3)).trans hx105_3
                  replace p105 := eq_true p105
                  replace q105 := eq_true q105
                  go_wp2_with (first | ((with_reducible refine gate_dst (N := 4) rfl ?_); refine box_event ?hg (N := 4) ?hd (cs := #[.string (⟨#[]⟩ : ByteArray), .string (⟨#[]⟩ : ByteArray), .int .i64 0, .bool false]) (t := 29) ?hr ?_; (case hd => rfl); (case hg => rfl); (case hr => first | (go_simp; done) | (go_simp; rfl)); intro gb106 hg w10 hbox hb; have n0_ := Aside0.mk (below_step (by repeat (first | (with_reducible first | exact HB.out | apply below_alloc | apply pw_below_drewN | apply below_drew1) | exact HB.out)) hb); have n1_ := Aside0.mk (hbox); have n2_ := Aside0.mk ((by rw [hg]; exact (below_size (by repeat (first | (with_reducible first | exact HB.out | apply below_alloc | apply pw_below_drewN | apply below_drew1) | exact HB.out))) : w.heap.size ≤ gb106)); have n3_ := Aside0.mk ((by rw [hg]; exact (below_size (by repeat (first | (with_reducible first | exact HB.out | apply below_alloc | apply pw_below_drewN | apply below_drew1) | exact HB.out))) : w.heap.size ≤ gb106)); clear HB; have HB := n0_; have BK106 := n1_; have GW106 := n2_; have GE106 := n3_; clear n0_ n1_ n2_ n3_; clear hb hbox hg; have hcz11_0 : w10.cell? ⟨gb106, 0, none⟩ = some (.string (⟨#[]⟩ : ByteArray)) := (blk_cell BK106.out 0).trans rfl; have hcz11_1 : w10.cell? ⟨gb106, 1, none⟩ = some (.string (⟨#[]⟩ : ByteArray)) := (blk_cell BK106.out 1).trans rfl; have hcz11_2 : w10.cell? ⟨gb106, 2, none⟩ = some (.int .i64 0) := (blk_cell BK106.out 2).trans rfl; have hcz11_3 : w10.cell? ⟨gb106, 3, none⟩ = some (.bool false) := (blk_cell BK106.out 3).trans rfl; have hfz11_0 := blk_frozen BK106.out 0; have hfz11_1 := blk_frozen BK106.out 1; have hfz11_2 := blk_frozen BK106.out 2; have hfz11_3 := blk_frozen BK106.out 3))
                  go_ret
                  exact ⟨by first | rfl | (simp [errW_none, errW_some] <;> rfl) | (simp [*, errW_none, errW_some] <;> rfl), by repeat (first | (with_reducible first | exact HB.out | apply below_alloc | apply pw_below_drewN | apply below_drew1 | refine below_set ?_ GE106.out) | exact HB.out)⟩
                · rw [if_neg c9] at H
                  have c9b0 : decide (1000000 < ((rd_T29 l0 x7_1).f2)) = false := decide_eq_false c9
                  clear c9
                  have H' := Aside0.mk H
                  clear H
                  have p105 : 0 ≤ (x7_1 : Int) := of_decide_eq_true (by first | (with_reducible assumption) | assumption)
                  have q105 : x7_1 < (l0.length : Int) := of_decide_eq_true (by first | (with_reducible assumption) | assumption)
                  obtain ⟨ad105, e105, hx105_0, hx105_1, hx105_2, hx105_3⟩ := at_T29 HR0.out x7_1 p105 q105
                  cases e105
                  replace hx105_0 := (HB.out.cell (World.block_lt_of_cell? w _ hx105_0)).trans hx105_0
                  replace hx105_1 := (HB.out.cell (World.block_lt_of_cell? w _ hx105_1)).trans hx105_1
                  replace hx105_2 := (HB.out.cell (World.block_lt_of_cell? w _ hx105_2)).trans hx105_2
                  replace hx105_3 := (HB.out.cell (World.block_lt_of_cell? w _ hx105_3)).trans hx105_3
                  replace p105 := eq_true p105
                  replace q105 := eq_true q105
                  go_wp2_with (first | ((with_reducible refine gate_dst (N := 4) rfl ?_); refine box_event ?hg (N := 4) ?hd (cs := #[.string (⟨#[]⟩ : ByteArray), .string (⟨#[]⟩ : ByteArray), .int .i64 0, .bool false]) (t := 29) ?hr ?_; (case hd => rfl); (case hg => rfl); (case hr => first | (go_simp; done) | (go_simp; rfl)); intro gb106 hg w12 hbox hb; have n0_ := Aside0.mk (below_step (by repeat (first | (with_reducible first | exact HB.out | apply below_alloc | apply pw_below_drewN | apply below_drew1) | exact HB.out)) hb); have n1_ := Aside0.mk (hbox); have n2_ := Aside0.mk ((by rw [hg]; exact (below_size (by repeat (first | (with_reducible first | exact HB.out | apply below_alloc | apply pw_below_drewN | apply below_drew1) | exact HB.out))) : w.heap.size ≤ gb106)); have n3_ := Aside0.mk ((by rw [hg]; exact (below_size (by repeat (first | (with_reducible first | exact HB.out | apply below_alloc | apply pw_below_drewN | apply below_drew1) | exact HB.out))) : w.heap.size ≤ gb106)); clear HB; have HB := n0_; have BK106 := n1_; have GW106 := n2_; have GE106 := n3_; clear n0_ n1_ n2_ n3_; clear hb hbox hg; have hcz13_0 : w12.cell? ⟨gb106, 0, none⟩ = some (.string (⟨#[]⟩ : ByteArray)) := (blk_cell BK106.out 0).trans rfl; have hcz13_1 : w12.cell? ⟨gb106, 1, none⟩ = some (.string (⟨#[]⟩ : ByteArray)) := (blk_cell BK106.out 1).trans rfl; have hcz13_2 : w12.cell? ⟨gb106, 2, none⟩ = some (.int .i64 0) := (blk_cell BK106.out 2).trans rfl; have hcz13_3 : w12.cell? ⟨gb106, 3, none⟩ = some (.bool false) := (blk_cell BK106.out 3).trans rfl; have hfz13_0 := blk_frozen BK106.out 0; have hfz13_1 := blk_frozen BK106.out 1; have hfz13_2 := blk_frozen BK106.out 2; have hfz13_3 := blk_frozen BK106.out 3))
                  go_roundg k1
                  case measure => have := HK1.out; omega
                  case rel => exact ⟨(wrap64 (x7_1 + 1)), (by first | rfl | (simp; done) | (simp [*]; done)), H', ⟨by have := HK1.out; omega⟩, ⟨by repeat (first | (with_reducible first | exact HB.out | apply below_alloc | apply pw_below_drewN | apply below_drew1 | refine below_set ?_ GE106.out) | exact HB.out)⟩⟩
            · rw [if_neg c5] at H
              have c5b0 : ((((rd_T29 l0 x7_1).f0).toList) == ([84, 105, 108, 100, 101, 80, 97, 116, 104] : List UInt8) && ((((rd_T29 l0 x7_1).f1).toList) == ([] : List UInt8) && (!((rd_T29 l0 x7_1).f3)))) = false := by simpa using c5
              (try (have c5b1 : decide ((((rd_T29 l0 x7_1).f0).toList) = ([84, 105, 108, 100, 101, 80, 97, 116, 104] : List UInt8) && ((((rd_T29 l0 x7_1).f1).toList) == ([] : List UInt8) && (!((rd_T29 l0 x7_1).f3)))) = false := by simpa using c5))
              (try (have c5b8 : decide ((((rd_T29 l0 x7_1).f0).toList) = ([84, 105, 108, 100, 101, 80, 97, 116, 104] : List UInt8) && ((((rd_T29 l0 x7_1).f1).toList).isEmpty && (!((rd_T29 l0 x7_1).f3)))) = false := by simpa using c5))
              (try (have c5b2 : ((((rd_T29 l0 x7_1).f0).toList) == ([84, 105, 108, 100, 101, 80, 97, 116, 104] : List UInt8) && ((((rd_T29 l0 x7_1).f1).toList) == ([] : List UInt8) && (!((rd_T29 l0 x7_1).f3)))) = false := by simpa using c5))
              (try (have c5b9 : ((((rd_T29 l0 x7_1).f0).toList) == ([84, 105, 108, 100, 101, 80, 97, 116, 104] : List UInt8) && ((((rd_T29 l0 x7_1).f1).toList).isEmpty && (!((rd_T29 l0 x7_1).f3)))) = false := by simpa using c5))
              (try (have c5b3 : ¬ ((((rd_T29 l0 x7_1).f0).toList) = ([84, 105, 108, 100, 101, 80, 97, 116, 104] : List UInt8) && ((((rd_T29 l0 x7_1).f1).toList) == ([] : List UInt8) && (!((rd_T29 l0 x7_1).f3)))) := by simpa using c5))
              (try (have c5b10 : ¬ ((((rd_T29 l0 x7_1).f0).toList) = ([84, 105, 108, 100, 101, 80, 97, 116, 104] : List UInt8) && ((((rd_T29 l0 x7_1).f1).toList).isEmpty && (!((rd_T29 l0 x7_1).f3)))) := by simpa using c5))
              clear c5
              by_cases c14 : ((((rd_T29 l0 x7_1).f0).toList) == ([67, 97, 114, 101, 116, 80, 97, 116, 104] : List UInt8) && ((((rd_T29 l0 x7_1).f1).toList) == ([] : List UInt8) && (!((rd_T29 l0 x7_1).f3)))) = true
              · rw [if_pos c14] at H
                have c14b0 : ((((rd_T29 l0 x7_1).f0).toList) == ([67, 97, 114, 101, 116, 80, 97, 116, 104] : List UInt8) && ((((rd_T29 l0 x7_1).f1).toList) == ([] : List UInt8) && (!((rd_T29 l0 x7_1).f3)))) = true := c14
                (try (have c14b1 : decide ((((rd_T29 l0 x7_1).f0).toList) = ([67, 97, 114, 101, 116, 80, 97, 116, 104] : List UInt8) && ((((rd_T29 l0 x7_1).f1).toList) == ([] : List UInt8) && (!((rd_T29 l0 x7_1).f3)))) = true := by simpa using c14))
                (try (have c14b8 : decide ((((rd_T29 l0 x7_1).f0).toList) = ([67, 97, 114, 101, 116, 80, 97, 116, 104] : List UInt8) && ((((rd_T29 l0 x7_1).f1).toList).isEmpty && (!((rd_T29 l0 x7_1).f3)))) = true := by simpa using c14))
                (try (have c14b2 : ((((rd_T29 l0 x7_1).f0).toList) == ([67, 97, 114, 101, 116, 80, 97, 116, 104] : List UInt8) && ((((rd_T29 l0 x7_1).f1).toList) == ([] : List UInt8) && (!((rd_T29 l0 x7_1).f3)))) = true := by simpa using c14))
                (try (have c14b9 : ((((rd_T29 l0 x7_1).f0).toList) == ([67, 97, 114, 101, 116, 80, 97, 116, 104] : List UInt8) && ((((rd_T29 l0 x7_1).f1).toList).isEmpty && (!((rd_T29 l0 x7_1).f3)))) = true := by simpa using c14))
                clear c14
                by_cases c15 : ((rd_T29 l0 x7_1).f2) < 0
                · rw [if_pos c15] at H
                  have c15b0 : decide (((rd_T29 l0 x7_1).f2) < 0) = true := decide_eq_true c15
                  clear c15
                  obtain rfl := Option.some.inj H
                  have p105 : 0 ≤ (x7_1 : Int) := of_decide_eq_true (by first | (with_reducible assumption) | assumption)
                  have q105 : x7_1 < (l0.length : Int) := of_decide_eq_true (by first | (with_reducible assumption) | assumption)
                  obtain ⟨ad105, e105, hx105_0, hx105_1, hx105_2, hx105_3⟩ := at_T29 HR0.out x7_1 p105 q105
                  cases e105
                  replace hx105_0 := (HB.out.cell (World.block_lt_of_cell? w _ hx105_0)).trans hx105_0
                  replace hx105_1 := (HB.out.cell (World.block_lt_of_cell? w _ hx105_1)).trans hx105_1
                  replace hx105_2 := (HB.out.cell (World.block_lt_of_cell? w _ hx105_2)).trans hx105_2
                  replace hx105_3 := (HB.out.cell (World.block_lt_of_cell? w _ hx105_3)).trans hx105_3
                  replace p105 := eq_true p105
                  replace q105 := eq_true q105
                  go_wp2_with (first | ((with_reducible refine gate_dst (N := 4) rfl ?_); refine box_event ?hg (N := 4) ?hd (cs := #[.string (⟨#[]⟩ : ByteArray), .string (⟨#[]⟩ : ByteArray), .int .i64 0, .bool false]) (t := 29) ?hr ?_; (case hd => rfl); (case hg => rfl); (case hr => first | (go_simp; done) | (go_simp; rfl)); intro gb106 hg w16 hbox hb; have n0_ := Aside0.mk (below_step (by repeat (first | (with_reducible first | exact HB.out | apply below_alloc | apply pw_below_drewN | apply below_drew1) | exact HB.out)) hb); have n1_ := Aside0.mk (hbox); have n2_ := Aside0.mk ((by rw [hg]; exact (below_size (by repeat (first | (with_reducible first | exact HB.out | apply below_alloc | apply pw_below_drewN | apply below_drew1) | exact HB.out))) : w.heap.size ≤ gb106)); have n3_ := Aside0.mk ((by rw [hg]; exact (below_size (by repeat (first | (with_reducible first | exact HB.out | apply below_alloc | apply pw_below_drewN | apply below_drew1) | exact HB.out))) : w.heap.size ≤ gb106)); clear HB; have HB := n0_; have BK106 := n1_; have GW106 := n2_; have GE106 := n3_; clear n0_ n1_ n2_ n3_; clear hb hbox hg; have hcz17_0 : w16.cell? ⟨gb106, 0, none⟩ = some (.string (⟨#[]⟩ : ByteArray)) := (blk_cell BK106.out 0).trans rfl; have hcz17_1 : w16.cell? ⟨gb106, 1, none⟩ = some (.string (⟨#[]⟩ : ByteArray)) := (blk_cell BK106.out 1).trans rfl; have hcz17_2 : w16.cell? ⟨gb106, 2, none⟩ = some (.int .i64 0) := (blk_cell BK106.out 2).trans rfl; have hcz17_3 : w16.cell? ⟨gb106, 3, none⟩ = some (.bool false) := (blk_cell BK106.out 3).trans rfl; have hfz17_0 := blk_frozen BK106.out 0; have hfz17_1 := blk_frozen BK106.out 1; have hfz17_2 := blk_frozen BK106.out 2; have hfz17_3 := blk_frozen BK106.out 3))
                  go_ret
                  exact ⟨by first | rfl | (simp [errW_none, errW_some] <;> rfl) | (simp [*, errW_none, errW_some] <;> rfl), by repeat (first | (with_reducible first | exact HB.out | apply below_alloc | apply pw_below_drewN | apply below_drew1 | refine below_set ?_ GE106.out) | exact HB.out)⟩
                · rw [if_neg c15] at H
                  have c15b0 : decide (((rd_T29 l0 x7_1).f2) < 0) = false := decide_eq_false c15
                  clear c15
                  by_cases c18 : ((rd_T29 l0 x7_1).f2) > 2
                  · rw [if_pos c18] at H
                    have c18b0 : decide (2 < ((rd_T29 l0 x7_1).f2)) = true := decide_eq_true c18
                    clear c18
                    obtain rfl := Option.some.inj H
                    have p105 : 0 ≤ (x7_1 : Int) := of_decide_eq_true (by first | (with_reducible assumption) | assumption)
                    have q105 : x7_1 < (l0.length : Int) := of_decide_eq_true (by first | (with_reducible assumption) | assumption)
                    obtain ⟨ad105, e105, hx105_0, hx105_1, hx105_2, hx105_3⟩ := at_T29 HR0.out x7_1 p105 q105
                    cases e105
                    replace hx105_0 := (HB.out.cell (World.block_lt_of_cell? w _ hx105_0)).trans hx105_0
                    replace hx105_1 := (HB.out.cell (World.block_lt_of_cell? w _ hx105_1)).trans hx105_1
                    replace hx105_2 := (HB.out.cell (World.block_lt_of_cell? w _ hx105_2)).trans hx105_2
                    replace hx105_3 := (HB.out.cell (World.block_lt_of_cell? w _ hx105_3)).trans hx105_3
                    replace p105 := eq_true p105
                    replace q105 := eq_true q105
                    go_wp2_with (first | ((with_reducible refine gate_dst (N := 4) rfl ?_); refine box_event ?hg (N := 4) ?hd (cs := #[.string (⟨#[]⟩ : ByteArray), .string (⟨#[]⟩ : ByteArray), .int .i64 0, .bool false]) (t := 29) ?hr ?_; (case hd => rfl); (case hg => rfl); (case hr => first | (go_simp; done) | (go_simp; rfl)); intro gb106 hg w19 hbox hb; have n0_ := Aside0.mk (below_step (by repeat (first | (with_reducible first | exact HB.out | apply below_alloc | apply pw_below_drewN | apply below_drew1) | exact HB.out)) hb); have n1_ := Aside0.mk (hbox); have n2_ := Aside0.mk ((by rw [hg]; exact (below_size (by repeat (first | (with_reducible first | exact HB.out | apply below_alloc | apply pw_below_drewN | apply below_drew1) | exact HB.out))) : w.heap.size ≤ gb106)); have n3_ := Aside0.mk ((by rw [hg]; exact (below_size (by repeat (first | (with_reducible first | exact HB.out | apply below_alloc | apply pw_below_drewN | apply below_drew1) | exact HB.out))) : w.heap.size ≤ gb106)); clear HB; have HB := n0_; have BK106 := n1_; have GW106 := n2_; have GE106 := n3_; clear n0_ n1_ n2_ n3_; clear hb hbox hg; have hcz20_0 : w19.cell? ⟨gb106, 0, none⟩ = some (.string (⟨#[]⟩ : ByteArray)) := (blk_cell BK106.out 0).trans rfl; have hcz20_1 : w19.cell? ⟨gb106, 1, none⟩ = some (.string (⟨#[]⟩ : ByteArray)) := (blk_cell BK106.out 1).trans rfl; have hcz20_2 : w19.cell? ⟨gb106, 2, none⟩ = some (.int .i64 0) := (blk_cell BK106.out 2).trans rfl; have hcz20_3 : w19.cell? ⟨gb106, 3, none⟩ = some (.bool false) := (blk_cell BK106.out 3).trans rfl; have hfz20_0 := blk_frozen BK106.out 0; have hfz20_1 := blk_frozen BK106.out 1; have hfz20_2 := blk_frozen BK106.out 2; have hfz20_3 := blk_frozen BK106.out 3))
                    go_ret
                    exact ⟨by first | rfl | (simp [errW_none, errW_some] <;> rfl) | (simp [*, errW_none, errW_some] <;> rfl), by repeat (first | (with_reducible first | exact HB.out | apply below_alloc | apply pw_below_drewN | apply below_drew1 | refine below_set ?_ GE106.out) | exact HB.out)⟩
                  · rw [if_neg c18] at H
                    have c18b0 : decide (2 < ((rd_T29 l0 x7_1).f2)) = false := decide_eq_false c18
                    clear c18
                    have H' := Aside0.mk H
                    clear H
                    have p105 : 0 ≤ (x7_1 : Int) := of_decide_eq_true (by first | (with_reducible assumption) | assumption)
                    have q105 : x7_1 < (l0.length : Int) := of_decide_eq_true (by first | (with_reducible assumption) | assumption)
                    obtain ⟨ad105, e105, hx105_0, hx105_1, hx105_2, hx105_3⟩ := at_T29 HR0.out x7_1 p105 q105
                    cases e105
                    replace hx105_0 := (HB.out.cell (World.block_lt_of_cell? w _ hx105_0)).trans hx105_0
                    replace hx105_1 := (HB.out.cell (World.block_lt_of_cell? w _ hx105_1)).trans hx105_1
                    replace hx105_2 := (HB.out.cell (World.block_lt_of_cell? w _ hx105_2)).trans hx105_2
                    replace hx105_3 := (HB.out.cell (World.block_lt_of_cell? w _ hx105_3)).trans hx105_3
                    replace p105 := eq_true p105
                    replace q105 := eq_true q105
                    go_wp2_with (first | ((with_reducible refine gate_dst (N := 4) rfl ?_); refine box_event ?hg (N := 4) ?hd (cs := #[.string (⟨#[]⟩ : ByteArray), .string (⟨#[]⟩ : ByteArray), .int .i64 0, .bool false]) (t := 29) ?hr ?_; (case hd => rfl); (case hg => rfl); (case hr => first | (go_simp; done) | (go_simp; rfl)); intro gb106 hg w21 hbox hb; have n0_ := Aside0.mk (below_step (by repeat (first | (with_reducible first | exact HB.out | apply below_alloc | apply pw_below_drewN | apply below_drew1) | exact HB.out)) hb); have n1_ := Aside0.mk (hbox); have n2_ := Aside0.mk ((by rw [hg]; exact (below_size (by repeat (first | (with_reducible first | exact HB.out | apply below_alloc | apply pw_below_drewN | apply below_drew1) | exact HB.out))) : w.heap.size ≤ gb106)); have n3_ := Aside0.mk ((by rw [hg]; exact (below_size (by repeat (first | (with_reducible first | exact HB.out | apply below_alloc | apply pw_below_drewN | apply below_drew1) | exact HB.out))) : w.heap.size ≤ gb106)); clear HB; have HB := n0_; have BK106 := n1_; have GW106 := n2_; have GE106 := n3_; clear n0_ n1_ n2_ n3_; clear hb hbox hg; have hcz22_0 : w21.cell? ⟨gb106, 0, none⟩ = some (.string (⟨#[]⟩ : ByteArray)) := (blk_cell BK106.out 0).trans rfl; have hcz22_1 : w21.cell? ⟨gb106, 1, none⟩ = some (.string (⟨#[]⟩ : ByteArray)) := (blk_cell BK106.out 1).trans rfl; have hcz22_2 : w21.cell? ⟨gb106, 2, none⟩ = some (.int .i64 0) := (blk_cell BK106.out 2).trans rfl; have hcz22_3 : w21.cell? ⟨gb106, 3, none⟩ = some (.bool false) := (blk_cell BK106.out 3).trans rfl; have hfz22_0 := blk_frozen BK106.out 0; have hfz22_1 := blk_frozen BK106.out 1; have hfz22_2 := blk_frozen BK106.out 2; have hfz22_3 := blk_frozen BK106.out 3))
                    go_roundg k1
                    case measure => have := HK1.out; omega
                    case rel => exact ⟨(wrap64 (x7_1 + 1)), (by first | rfl | (simp; done) | (simp [*]; done)), H', ⟨by have := HK1.out; omega⟩, ⟨by repeat (first | (with_reducible first | exact HB.out | apply below_alloc | apply pw_below_drewN | apply below_drew1 | refine below_set ?_ GE106.out) | exact HB.out)⟩⟩
              · rw [if_neg c14] at H
                have c14b0 : ((((rd_T29 l0 x7_1).f0).toList) == ([67, 97, 114, 101, 116, 80, 97, 116, 104] : List UInt8) && ((((rd_T29 l0 x7_1).f1).toList) == ([] : List UInt8) && (!((rd_T29 l0 x7_1).f3)))) = false := by simpa using c14
                (try (have c14b1 : decide ((((rd_T29 l0 x7_1).f0).toList) = ([67, 97, 114, 101, 116, 80, 97, 116, 104] : List UInt8) && ((((rd_T29 l0 x7_1).f1).toList) == ([] : List UInt8) && (!((rd_T29 l0 x7_1).f3)))) = false := by simpa using c14))
                (try (have c14b8 : decide ((((rd_T29 l0 x7_1).f0).toList) = ([67, 97, 114, 101, 116, 80, 97, 116, 104] : List UInt8) && ((((rd_T29 l0 x7_1).f1).toList).isEmpty && (!((rd_T29 l0 x7_1).f3)))) = false := by simpa using c14))
                (try (have c14b2 : ((((rd_T29 l0 x7_1).f0).toList) == ([67, 97, 114, 101, 116, 80, 97, 116, 104] : List UInt8) && ((((rd_T29 l0 x7_1).f1).toList) == ([] : List UInt8) && (!((rd_T29 l0 x7_1).f3)))) = false := by simpa using c14))
                (try (have c14b9 : ((((rd_T29 l0 x7_1).f0).toList) == ([67, 97, 114, 101, 116, 80, 97, 116, 104] : List UInt8) && ((((rd_T29 l0 x7_1).f1).toList).isEmpty && (!((rd_T29 l0 x7_1).f3)))) = false := by simpa using c14))
                (try (have c14b3 : ¬ ((((rd_T29 l0 x7_1).f0).toList) = ([67, 97, 114, 101, 116, 80, 97, 116, 104] : List UInt8) && ((((rd_T29 l0 x7_1).f1).toList) == ([] : List UInt8) && (!((rd_T29 l0 x7_1).f3)))) := by simpa using c14))
                (try (have c14b10 : ¬ ((((rd_T29 l0 x7_1).f0).toList) = ([67, 97, 114, 101, 116, 80, 97, 116, 104] : List UInt8) && ((((rd_T29 l0 x7_1).f1).toList).isEmpty && (!((rd_T29 l0 x7_1).f3)))) := by simpa using c14))
                clear c14
                obtain rfl := Option.some.inj H
                have p105 : 0 ≤ (x7_1 : Int) := of_decide_eq_true (by first | (with_reducible assumption) | assumption)
                have q105 : x7_1 < (l0.length : Int) := of_decide_eq_true (by first | (with_reducible assumption) | assumption)
                obtain ⟨ad105, e105, hx105_0, hx105_1, hx105_2, hx105_3⟩ := at_T29 HR0.out x7_1 p105 q105
                cases e105
                replace hx105_0 := (HB.out.cell (World.block_lt_of_cell? w _ hx105_0)).trans hx105_0
                replace hx105_1 := (HB.out.cell (World.block_lt_of_cell? w _ hx105_1)).trans hx105_1
                replace hx105_2 := (HB.out.cell (World.block_lt_of_cell? w _ hx105_2)).trans hx105_2
                replace hx105_3 := (HB.out.cell (World.block_lt_of_cell? w _ hx105_3)).trans hx105_3
                replace p105 := eq_true p105
                replace q105 := eq_true q105
                go_wp2_with (first | ((with_reducible refine gate_dst (N := 4) rfl ?_); refine box_event ?hg (N := 4) ?hd (cs := #[.string (⟨#[]⟩ : ByteArray), .string (⟨#[]⟩ : ByteArray), .int .i64 0, .bool false]) (t := 29) ?hr ?_; (case hd => rfl); (case hg => rfl); (case hr => first | (go_simp; done) | (go_simp; rfl)); intro gb106 hg w23 hbox hb; have n0_ := Aside0.mk (below_step (by repeat (first | (with_reducible first | exact HB.out | apply below_alloc | apply pw_below_drewN | apply below_drew1) | exact HB.out)) hb); have n1_ := Aside0.mk (hbox); have n2_ := Aside0.mk ((by rw [hg]; exact (below_size (by repeat (first | (with_reducible first | exact HB.out | apply below_alloc | apply pw_below_drewN | apply below_drew1) | exact HB.out))) : w.heap.size ≤ gb106)); have n3_ := Aside0.mk ((by rw [hg]; exact (below_size (by repeat (first | (with_reducible first | exact HB.out | apply below_alloc | apply pw_below_drewN | apply below_drew1) | exact HB.out))) : w.heap.size ≤ gb106)); clear HB; have HB := n0_; have BK106 := n1_; have GW106 := n2_; have GE106 := n3_; clear n0_ n1_ n2_ n3_; clear hb hbox hg; have hcz24_0 : w23.cell? ⟨gb106, 0, none⟩ = some (.string (⟨#[]⟩ : ByteArray)) := (blk_cell BK106.out 0).trans rfl; have hcz24_1 : w23.cell? ⟨gb106, 1, none⟩ = some (.string (⟨#[]⟩ : ByteArray)) := (blk_cell BK106.out 1).trans rfl; have hcz24_2 : w23.cell? ⟨gb106, 2, none⟩ = some (.int .i64 0) := (blk_cell BK106.out 2).trans rfl; have hcz24_3 : w23.cell? ⟨gb106, 3, none⟩ = some (.bool false) := (blk_cell BK106.out 3).trans rfl; have hfz24_0 := blk_frozen BK106.out 0; have hfz24_1 := blk_frozen BK106.out 1; have hfz24_2 := blk_frozen BK106.out 2; have hfz24_3 := blk_frozen BK106.out 3))
                go_ret
                exact ⟨by first | rfl | (simp [errW_none, errW_some] <;> rfl) | (simp [*, errW_none, errW_some] <;> rfl), by repeat (first | (with_reducible first | exact HB.out | apply below_alloc | apply pw_below_drewN | apply below_drew1 | refine below_set ?_ GE106.out) | exact HB.out)⟩
          · rw [if_neg c4] at H
            exact absurd H (by simp)
        · rw [if_neg c3] at H
          exact absurd H (by simp)
      · rw [if_neg c2] at H
        have c2b0 : decide (x7_1 < (l0.length : Int)) = false := decide_eq_false c2
        clear c2
        obtain rfl := Option.some.inj H
        go_wp2
        go_ret
        exact ⟨by first | rfl | (simp [errW_none, errW_some] <;> rfl) | (simp [*, errW_none, errW_some] <;> rfl), by repeat (first | (with_reducible first | exact HB.out | apply below_alloc | apply pw_below_drewN | apply below_drew1) | exact HB.out)⟩


end Go.Proofs.YtiibeefadgmicaaDoor.PFnRevSteps
