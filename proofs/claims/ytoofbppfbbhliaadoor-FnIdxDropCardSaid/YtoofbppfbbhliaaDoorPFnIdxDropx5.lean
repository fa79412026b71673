-- PRINTED BY print.sh 35421559b90ae4d0a3588c463048766b98c2df88dd9212a6774a882060cdf62d: not written by this session
import Derived.Test.YtoofbppfbbhliaaDoorPFnIdxDropx0
import Derived.Test.YtoofbppfbbhliaaDoorPFnIdxDropx1
namespace Go.Proofs.YtoofbppfbbhliaaDoor.PFnIdxDrop
open Go.RowKit Go.Proofs.YtoofbppfbbhliaaDoorW.PrintWords Go.Proofs.YtoofbppfbbhliaaDoorW.PrintLast Go.Proofs.YtoofbppfbbhliaaDoorW.PrintMore
attribute [local go_sem] max2_int min2_int max_two min_two max_three min_three max_four min_four   -- for this text's walks alone
set_option linter.unusedVariables false
set_option linter.unusedSimpArgs false

attribute [local go_sem high] eqA35
/-! ### hex_DecodedLen: function 104 -/
def hex_DecodedLen.f (a0 : Int) : Option (Int) := some (wrap64 (Int.tdiv a0 2))
set_option maxHeartbeats 8000000 in
set_option maxRecDepth 100000 in
theorem hex_DecodedLen.calls (a0 : Int) (r : Int) (w : World) (h : hex_DecodedLen.f a0 = some r) :
    Calls Tryd.prog 104 #[.int .i64 a0] w fun e w' => e = .returned (.int .i64 r) ∧ Drawn0 w w' := by
  have H : (some (wrap64 (Int.tdiv a0 2))) = some r := h
  clear h
  obtain rfl := Option.some.inj H
  go_enter Tryd.func104, Tryd.ntmps104
  go_wp2
  go_ret
  exact ⟨by first | rfl | (simp; done) | (simp [*]; done), by repeat (first | exact Drawn0.refl _ | apply Drawn0.step)⟩

-- NOT PRINTED: function 105 (hex_Decode)

-- NOT PRINTED: function 77 (hex_DecodeString)

-- NOT PRINTED: function 47 (plumbing_NewHash)

/-! ### zztime_Unix: function 108 -/
def zztime_Unix.f (a0 : Int) (a1 : Int) : Option (Int × Int × Int) := if (Int.tmod a1 1000000000) < 0 then (some (wrap64 ((wrap64 ((wrap64 (a0 + (wrap64 (Int.tdiv a1 1000000000)))) - 1)) + 62135596800), wrap64 ((Int.tmod a1 1000000000) + 1000000000), 0)) else (some (wrap64 ((wrap64 (a0 + (wrap64 (Int.tdiv a1 1000000000)))) + 62135596800), Int.tmod a1 1000000000, 0))
set_option maxHeartbeats 8000000 in
set_option maxRecDepth 100000 in
theorem zztime_Unix.calls (a0 : Int) (a1 : Int) (r1 : Int) (r2 : Int) (r3 : Int) (w : World) (h : zztime_Unix.f a0 a1 = some (r1, r2, r3)) :
    Calls Tryd.prog 108 #[.int .i64 a0, .int .i64 a1] w fun e w' => e = .returned (.agg #[.int .i64 r1, .int .i64 r2, .int .i64 r3]) ∧ Below w.heap.size w w' := by
  have hu132 := Tryd.underlying132
  have HB := Aside0.mk (Below.refl w.heap.size w)
  have H : (if (Int.tmod a1 1000000000) < 0 then (some (wrap64 ((wrap64 ((wrap64 (a0 + (wrap64 (Int.tdiv a1 1000000000)))) - 1)) + 62135596800), wrap64 ((Int.tmod a1 1000000000) + 1000000000), 0)) else (some (wrap64 ((wrap64 (a0 + (wrap64 (Int.tdiv a1 1000000000)))) + 62135596800), Int.tmod a1 1000000000, 0))) = some (r1, r2, r3) := h
  clear h
  by_cases c3 : (Int.tmod a1 1000000000) < 0
  · rw [if_pos c3] at H
    have c3b0 : decide ((Int.tmod a1 1000000000) < 0) = true := decide_eq_true c3
    clear c3
    simp only [Option.some.injEq, Prod.mk.injEq] at H
    obtain ⟨rfl, rfl, rfl⟩ := H
    go_enter Tryd.func108, Tryd.ntmps108
    go_wp2_with (first | ((with_reducible refine gate_dst (N := 4) rfl ?_); refine box_event ?hg (N := 4) ?hd (cs := #[.int .i64 0, .int .i64 0, .int .i64 0]) (t := 132) ?hr ?_; (case hd => rfl); (case hg => rfl); (case hr => first | (go_simp; done) | (go_simp; rfl)); intro gb126 hg w4 hbox hb; have n0_ := Aside0.mk (below_step (by repeat (first | (with_reducible first | exact HB.out | apply below_alloc | apply pw_below_drewN | apply below_drew1) | exact HB.out)) hb); have n1_ := Aside0.mk (hbox); have n2_ := Aside0.mk ((by rw [hg]; exact (below_size (by repeat (first | (with_reducible first | exact HB.out | apply below_alloc | apply pw_below_drewN | apply below_drew1) | exact HB.out))) : w.heap.size ≤ gb126)); have n3_ := Aside0.mk ((by rw [hg]; exact (below_size (by repeat (first | (with_reducible first | exact HB.out | apply below_alloc | apply pw_below_drewN | apply below_drew1) | exact HB.out))) : w.heap.size ≤ gb126)); clear HB; have HB := n0_; have BK126 := n1_; have GW126 := n2_; have GE126 := n3_; clear n0_ n1_ n2_ n3_; clear hb hbox hg; have hcz5_0 : w4.cell? ⟨gb126, 0, none⟩ = some (.int .i64 0) := (blk_cell BK126.out 0).trans rfl; have hcz5_1 : w4.cell? ⟨gb126, 1, none⟩ = some (.int .i64 0) := (blk_cell BK126.out 1).trans rfl; have hcz5_2 : w4.cell? ⟨gb126, 2, none⟩ = some (.int .i64 0) := (blk_cell BK126.out 2).trans rfl; have hfz5_0 := blk_frozen BK126.out 0; have hfz5_1 := blk_frozen BK126.out 1; have hfz5_2 := blk_frozen BK126.out 2))
    refine bodyPost_ret (results_cell_row rfl _ _ gb126 132 #[.int .i64 (wrap64 ((wrap64 ((wrap64 (a0 + (wrap64 (Int.tdiv a1 1000000000)))) - 1)) + 62135596800)), .int .i64 (wrap64 ((Int.tmod a1 1000000000) + 1000000000)), .int .i64 0] (0, 0) _ rfl (by (with_reducible repeat (first | refine blk_drewN ?_ _ | refine blk_drew ?_ | refine blk_alloc ?_ _)); refine blk_put (cs := #[.int .i64 (wrap64 ((wrap64 ((wrap64 (a0 + (wrap64 (Int.tdiv a1 1000000000)))) - 1)) + 62135596800)), .int .i64 (wrap64 ((Int.tmod a1 1000000000) + 1000000000)), .int .i64 0]) ?_ 2 _ rfl; (with_reducible repeat (first | refine blk_drewN ?_ _ | refine blk_drew ?_ | refine blk_alloc ?_ _)); refine blk_put (cs := #[.int .i64 (wrap64 ((wrap64 ((wrap64 (a0 + (wrap64 (Int.tdiv a1 1000000000)))) - 1)) + 62135596800)), .int .i64 0, .int .i64 0]) ?_ 1 _ rfl; (with_reducible repeat (first | refine blk_drewN ?_ _ | refine blk_drew ?_ | refine blk_alloc ?_ _)); refine blk_put (cs := #[.int .i64 0, .int .i64 0, .int .i64 0]) ?_ 0 _ rfl; (with_reducible repeat (first | refine blk_drewN ?_ _ | refine blk_drew ?_ | refine blk_alloc ?_ _)); exact BK126.out) Tryd.underlying132 rfl (by kernel_rfl)) rfl ?_
    exact ⟨by first | rfl | (simp [errW_none, errW_some] <;> rfl) | (simp [*, errW_none, errW_some] <;> rfl), by repeat (first | (with_reducible first | exact HB.out | apply below_alloc | apply pw_below_drewN | apply below_drew1 | refine below_set ?_ GE126.out) | exact HB.out)⟩
  · rw [if_neg c3] at H
    have c3b0 : decide ((Int.tmod a1 1000000000) < 0) = false := decide_eq_false c3
    clear c3
    simp only [Option.some.injEq, Prod.mk.injEq] at H
    obtain ⟨rfl, rfl, rfl⟩ := H
    go_enter Tryd.func108, Tryd.ntmps108
    go_wp2_with (first | ((with_reducible refine gate_dst (N := 4) rfl ?_); refine box_event ?hg (N := 4) ?hd (cs := #[.int .i64 0, .int .i64 0, .int .i64 0]) (t := 132) ?hr ?_; (case hd => rfl); (case hg => rfl); (case hr => first | (go_simp; done) | (go_simp; rfl)); intro gb126 hg w6 hbox hb; have n0_ := Aside0.mk (below_step (by repeat (first | (with_reducible first | exact HB.out | apply below_alloc | apply pw_below_drewN | apply below_drew1) | exact HB.out)) hb); have n1_ := Aside0.mk (hbox); have n2_ := Aside0.mk ((by rw [hg]; exact (below_size (by repeat (first | (with_reducible first | exact HB.out | apply below_alloc | apply pw_below_drewN | apply below_drew1) | exact HB.out))) : w.heap.size ≤ gb126)); have n3_ := Aside0.mk ((by rw [hg]; exact (below_size (by repeat (first | (with_reducible first | exact HB.out | apply below_alloc | apply pw_below_drewN | apply below_drew1) | exact HB.out))) : w.heap.size ≤ gb126)); clear HB; have HB := n0_; have BK126 := n1_; have GW126 := n2_; have GE126 := n3_; clear n0_ n1_ n2_ n3_; clear hb hbox hg; have hcz7_0 : w6.cell? ⟨gb126, 0, none⟩ = some (.int .i64 0) := (blk_cell BK126.out 0).trans rfl; have hcz7_1 : w6.cell? ⟨gb126, 1, none⟩ = some (.int .i64 0) := (blk_cell BK126.out 1).trans rfl; have hcz7_2 : w6.cell? ⟨gb126, 2, none⟩ = some (.int .i64 0) := (blk_cell BK126.out 2).trans rfl; have hfz7_0 := blk_frozen BK126.out 0; have hfz7_1 := blk_frozen BK126.out 1; have hfz7_2 := blk_frozen BK126.out 2))
    refine bodyPost_ret (results_cell_row rfl _ _ gb126 132 #[.int .i64 (wrap64 ((wrap64 (a0 + (wrap64 (Int.tdiv a1 1000000000)))) + 62135596800)), .int .i64 (Int.tmod a1 1000000000), .int .i64 0] (0, 0) _ rfl (by (with_reducible repeat (first | refine blk_drewN ?_ _ | refine blk_drew ?_ | refine blk_alloc ?_ _)); refine blk_put (cs := #[.int .i64 (wrap64 ((wrap64 (a0 + (wrap64 (Int.tdiv a1 1000000000)))) + 62135596800)), .int .i64 (Int.tmod a1 1000000000), .int .i64 0]) ?_ 2 _ rfl; (with_reducible repeat (first | refine blk_drewN ?_ _ | refine blk_drew ?_ | refine blk_alloc ?_ _)); refine blk_put (cs := #[.int .i64 (wrap64 ((wrap64 (a0 + (wrap64 (Int.tdiv a1 1000000000)))) + 62135596800)), .int .i64 0, .int .i64 0]) ?_ 1 _ rfl; (with_reducible repeat (first | refine blk_drewN ?_ _ | refine blk_drew ?_ | refine blk_alloc ?_ _)); refine blk_put (cs := #[.int .i64 0, .int .i64 0, .int .i64 0]) ?_ 0 _ rfl; (with_reducible repeat (first | refine blk_drewN ?_ _ | refine blk_drew ?_ | refine blk_alloc ?_ _)); exact BK126.out) Tryd.underlying132 rfl (by kernel_rfl)) rfl ?_
    exact ⟨by first | rfl | (simp [errW_none, errW_some] <;> rfl) | (simp [*, errW_none, errW_some] <;> rfl), by repeat (first | (with_reducible first | exact HB.out | apply below_alloc | apply pw_below_drewN | apply below_drew1 | refine below_set ?_ GE126.out) | exact HB.out)⟩

/-! ### impl_timeOf: function 80 -/
def impl_timeOf.f (a0_0 : Int) (a0_1 : Int) : Option (Int × Int × Int) := if a0_0 = 0 then (if a0_1 = 0 then (some (0, 0, 0)) else ((zztime_Unix.f a0_0 a0_1).bind fun bt129 => (some (bt129.1, bt129.2.1, bt129.2.2)))) else ((zztime_Unix.f a0_0 a0_1).bind fun bt132 => (some (bt132.1, bt132.2.1, bt132.2.2)))
set_option maxHeartbeats 8000000 in
set_option maxRecDepth 100000 in
theorem impl_timeOf.calls (a0_0 : Int) (a0_1 : Int) (r1 : Int) (r2 : Int) (r3 : Int) (w : World) (h : impl_timeOf.f a0_0 a0_1 = some (r1, r2, r3)) :
    Calls Tryd.prog 80 #[.agg #[.int .i64 a0_0, .int .i64 a0_1]] w fun e w' => e = .returned (.agg #[.int .i64 r1, .int .i64 r2, .int .i64 r3]) ∧ Below w.heap.size w w' := by
  have hu32 := Tryd.underlying32
  have hu132 := Tryd.underlying132
  have HB := Aside0.mk (Below.refl w.heap.size w)
  have H : (if a0_0 = 0 then (if a0_1 = 0 then (some (0, 0, 0)) else ((zztime_Unix.f a0_0 a0_1).bind fun bt129 => (some (bt129.1, bt129.2.1, bt129.2.2)))) else ((zztime_Unix.f a0_0 a0_1).bind fun bt132 => (some (bt132.1, bt132.2.1, bt132.2.2)))) = some (r1, r2, r3) := h
  clear h
  by_cases c2 : a0_0 = 0
  · rw [if_pos c2] at H
    have c2b0 : (a0_0 == 0) = true := beq_iff_eq.mpr c2
    have c2b1 : (a0_0 != 0) = false := bne_eq_false_iff_eq.mpr c2
    clear c2
    by_cases c3 : a0_1 = 0
    · rw [if_pos c3] at H
      have c3b0 : (a0_1 == 0) = true := beq_iff_eq.mpr c3
      have c3b1 : (a0_1 != 0) = false := bne_eq_false_iff_eq.mpr c3
      clear c3
      simp only [Option.some.injEq, Prod.mk.injEq] at H
      obtain ⟨rfl, rfl, rfl⟩ := H
      go_enter Tryd.func80, Tryd.ntmps80
      go_wp2_with (first | ((with_reducible refine gate_dst (N := 1) rfl ?_); refine box_event ?hg (N := 1) ?hd (cs := #[.int .i64 a0_0, .int .i64 a0_1]) (t := 32) ?hr ?_; (case hd => rfl); (case hg => rfl); (case hr => first | (go_simp; done) | (go_simp; rfl)); intro gb127 hg w4 hbox hb; have n0_ := Aside0.mk (below_step (by repeat (first | (with_reducible first | exact HB.out | apply below_alloc | apply pw_below_drewN | apply below_drew1) | exact HB.out)) hb); have n1_ := Aside0.mk (hbox); have n2_ := Aside0.mk ((by rw [hg]; exact (below_size (by repeat (first | (with_reducible first | exact HB.out | apply below_alloc | apply pw_below_drewN | apply below_drew1) | exact HB.out))) : w.heap.size ≤ gb127)); have n3_ := Aside0.mk ((by rw [hg]; exact (below_size (by repeat (first | (with_reducible first | exact HB.out | apply below_alloc | apply pw_below_drewN | apply below_drew1) | exact HB.out))) : w.heap.size ≤ gb127)); clear HB; have HB := n0_; have BK127 := n1_; have GW127 := n2_; have GE127 := n3_; clear n0_ n1_ n2_ n3_; clear hb hbox hg) | ((with_reducible refine gate_dst (N := 2) rfl ?_); refine box_event ?hg (N := 2) ?hd (cs := #[.int .i64 0, .int .i64 0, .int .i64 0]) (t := 132) ?hr ?_; (case hd => rfl); (case hg => rfl); (case hr => first | (go_simp; done) | (go_simp; rfl)); intro gb128 hg w5 hbox hb; have n0_ := Aside0.mk (blk_below (g := gb127) (o := .cells #[.int .i64 a0_0, .int .i64 a0_1] 32 (0, 0)) (by (with_reducible repeat (first | refine blk_drewN ?_ _ | refine blk_drew ?_ | refine blk_alloc ?_ _)); exact BK127.out) hb); have n1_ := Aside0.mk (below_step (by repeat (first | (with_reducible first | exact HB.out | apply below_alloc | apply pw_below_drewN | apply below_drew1 | refine below_set ?_ GE127.out) | exact HB.out)) hb); have n2_ := Aside0.mk (hbox); have n3_ := Aside0.mk ((by rw [hg]; exact (below_size (by repeat (first | (with_reducible first | exact HB.out | apply below_alloc | apply pw_below_drewN | apply below_drew1 | refine below_set ?_ GE127.out) | exact HB.out))) : w.heap.size ≤ gb128)); have n4_ := Aside0.mk ((by rw [hg]; exact (below_size (by repeat (first | (with_reducible first | exact HB.out | apply below_alloc | apply pw_below_drewN | apply below_drew1 | refine below_set ?_ GE127.out) | exact HB.out))) : w.heap.size ≤ gb128)); have n5_ := Aside0.mk ((by rw [hg]; exact Nat.ne_of_lt (blk_lt (g := gb127) (o := .cells #[.int .i64 a0_0, .int .i64 a0_1] 32 (0, 0)) (by (with_reducible repeat (first | refine blk_drewN ?_ _ | refine blk_drew ?_ | refine blk_alloc ?_ _)); exact BK127.out)) : gb127 ≠ gb128)); have n6_ := Aside0.mk ((by rw [hg]; exact Nat.ne_of_gt (blk_lt (g := gb127) (o := .cells #[.int .i64 a0_0, .int .i64 a0_1] 32 (0, 0)) (by (with_reducible repeat (first | refine blk_drewN ?_ _ | refine blk_drew ?_ | refine blk_alloc ?_ _)); exact BK127.out)) : gb128 ≠ gb127)); clear BK127; clear HB; have BK127 := n0_; have HB := n1_; have BK128 := n2_; have GW128 := n3_; have GE128 := n4_; have NB127_128 := n5_; have NB128_127 := n6_; clear n0_ n1_ n2_ n3_ n4_ n5_ n6_; clear hb hbox hg; have hnb6 := NB127_128.out; have hnc6 := NB128_127.out; have hcz7_0 : w5.cell? ⟨gb127, 0, none⟩ = some (.int .i64 a0_0) := (blk_cell BK127.out 0).trans rfl; have hcz7_1 : w5.cell? ⟨gb127, 1, none⟩ = some (.int .i64 a0_1) := (blk_cell BK127.out 1).trans rfl; have hfz7_0 := blk_frozen BK127.out 0; have hfz7_1 := blk_frozen BK127.out 1; have hcz8_0 : w5.cell? ⟨gb128, 0, none⟩ = some (.int .i64 0) := (blk_cell BK128.out 0).trans rfl; have hcz8_1 : w5.cell? ⟨gb128, 1, none⟩ = some (.int .i64 0) := (blk_cell BK128.out 1).trans rfl; have hcz8_2 : w5.cell? ⟨gb128, 2, none⟩ = some (.int .i64 0) := (blk_cell BK128.out 2).trans rfl; have hfz8_0 := blk_frozen BK128.out 0; have hfz8_1 := blk_frozen BK128.out 1; have hfz8_2 := blk_frozen BK128.out 2))
      refine bodyPost_ret (results_cell_row rfl _ _ gb128 132 #[.int .i64 0, .int .i64 0, .int .i64 0] (0, 0) _ rfl (by (with_reducible repeat (first | refine blk_drewN ?_ _ | refine blk_drew ?_ | refine blk_alloc ?_ _)); refine blk_put (cs := #[.int .i64 0, .int .i64 0, .int .i64 0]) ?_ 2 _ rfl; (with_reducible repeat (first | refine blk_drewN ?_ _ | refine blk_drew ?_ | refine blk_alloc ?_ _)); refine blk_put (cs := #[.int .i64 0, .int .i64 0, .int .i64 0]) ?_ 1 _ rfl; (with_reducible repeat (first | refine blk_drewN ?_ _ | refine blk_drew ?_ | refine blk_alloc ?_ _)); refine blk_put (cs := #[.int .i64 0, .int .i64 0, .int .i64 0]) ?_ 0 _ rfl; (with_reducible repeat (first | refine blk_drewN ?_ _ | refine blk_drew ?_ | refine blk_alloc ?_ _)); exact BK128.out) Tryd.underlying132 rfl (by kernel_rfl)) rfl ?_
      exact ⟨by first | rfl | (simp [errW_none, errW_some] <;> rfl) | (simp [*, errW_none, errW_some] <;> rfl), by repeat (first | (with_reducible first | exact HB.out | apply below_alloc | apply pw_below_drewN | apply below_drew1 | refine below_set ?_ GE127.out | refine below_set ?_ GE128.out) | exact HB.out)⟩
    · rw [if_neg c3] at H
      have c3b0 : (a0_1 == 0) = false := beq_eq_false_iff_ne.mpr c3
      have c3b1 : (a0_1 != 0) = true := bne_iff_ne.mpr c3
      replace H := Option.bind_eq_some_iff.mp H
      obtain ⟨⟨t129, t130, t131⟩, A90, H⟩ := H
      replace H : (some (t129, t130, t131)) = some (r1, r2, r3) := H
      have A9 := Aside0.mk A90
      clear A90
      simp only [Option.some.injEq, Prod.mk.injEq] at H
      obtain ⟨rfl, rfl, rfl⟩ := H
      go_enter Tryd.func80, Tryd.ntmps80
      go_wp2_with (first | ((with_reducible refine gate_dst (N := 1) rfl ?_); refine box_event ?hg (N := 1) ?hd (cs := #[.int .i64 a0_0, .int .i64 a0_1]) (t := 32) ?hr ?_; (case hd => rfl); (case hg => rfl); (case hr => first | (go_simp; done) | (go_simp; rfl)); intro gb127 hg w10 hbox hb; have n0_ := Aside0.mk (below_step (by repeat (first | (with_reducible first | exact HB.out | apply below_alloc | apply pw_below_drewN | apply below_drew1) | exact HB.out)) hb); have n1_ := Aside0.mk (hbox); have n2_ := Aside0.mk ((by rw [hg]; exact (below_size (by repeat (first | (with_reducible first | exact HB.out | apply below_alloc | apply pw_below_drewN | apply below_drew1) | exact HB.out))) : w.heap.size ≤ gb127)); have n3_ := Aside0.mk ((by rw [hg]; exact (below_size (by repeat (first | (with_reducible first | exact HB.out | apply below_alloc | apply pw_below_drewN | apply below_drew1) | exact HB.out))) : w.heap.size ≤ gb127)); clear HB; have HB := n0_; have BK127 := n1_; have GW127 := n2_; have GE127 := n3_; clear n0_ n1_ n2_ n3_; clear hb hbox hg) | ((with_reducible refine gate_dst (N := 2) rfl ?_); refine box_event ?hg (N := 2) ?hd (cs := #[.int .i64 0, .int .i64 0, .int .i64 0]) (t := 132) ?hr ?_; (case hd => rfl); (case hg => rfl); (case hr => first | (go_simp; done) | (go_simp; rfl)); intro gb128 hg w11 hbox hb; have n0_ := Aside0.mk (blk_below (g := gb127) (o := .cells #[.int .i64 a0_0, .int .i64 a0_1] 32 (0, 0)) (by (with_reducible repeat (first | refine blk_drewN ?_ _ | refine blk_drew ?_ | refine blk_alloc ?_ _)); exact BK127.out) hb); have n1_ := Aside0.mk (below_step (by repeat (first | (with_reducible first | exact HB.out | apply below_alloc | apply pw_below_drewN | apply below_drew1 | refine below_set ?_ GE127.out) | exact HB.out)) hb); have n2_ := Aside0.mk (hbox); have n3_ := Aside0.mk ((by rw [hg]; exact (below_size (by repeat (first | (with_reducible first | exact HB.out | apply below_alloc | apply pw_below_drewN | apply below_drew1 | refine below_set ?_ GE127.out) | exact HB.out))) : w.heap.size ≤ gb128)); have n4_ := Aside0.mk ((by rw [hg]; exact (below_size (by repeat (first | (with_reducible first | exact HB.out | apply below_alloc | apply pw_below_drewN | apply below_drew1 | refine below_set ?_ GE127.out) | exact HB.out))) : w.heap.size ≤ gb128)); have n5_ := Aside0.mk ((by rw [hg]; exact Nat.ne_of_lt (blk_lt (g := gb127) (o := .cells #[.int .i64 a0_0, .int .i64 a0_1] 32 (0, 0)) (by (with_reducible repeat (first | refine blk_drewN ?_ _ | refine blk_drew ?_ | refine blk_alloc ?_ _)); exact BK127.out)) : gb127 ≠ gb128)); have n6_ := Aside0.mk ((by rw [hg]; exact Nat.ne_of_gt (blk_lt (g := gb127) (o := .cells #[.int .i64 a0_0, .int .i64 a0_1] 32 (0, 0)) (by (with_reducible repeat (first | refine blk_drewN ?_ _ | refine blk_drew ?_ | refine blk_alloc ?_ _)); exact BK127.out)) : gb128 ≠ gb127)); clear BK127; clear HB; have BK127 := n0_; have HB := n1_; have BK128 := n2_; have GW128 := n3_; have GE128 := n4_; have NB127_128 := n5_; have NB128_127 := n6_; clear n0_ n1_ n2_ n3_ n4_ n5_ n6_; clear hb hbox hg; have hnb12 := NB127_128.out; have hnc12 := NB128_127.out; have hcz13_0 : w11.cell? ⟨gb127, 0, none⟩ = some (.int .i64 a0_0) := (blk_cell BK127.out 0).trans rfl; have hcz13_1 : w11.cell? ⟨gb127, 1, none⟩ = some (.int .i64 a0_1) := (blk_cell BK127.out 1).trans rfl; have hfz13_0 := blk_frozen BK127.out 0; have hfz13_1 := blk_frozen BK127.out 1) | ((with_reducible refine gate_callee (f := 108) rfl ?_); refine goesL_ (some 16) rfl rfl Tryd.func108 (by kernel_rfl) rfl #[.int .i64 a0_0, .int .i64 a0_1] rfl (by (try simp only [List.map_toArray, List.map_cons, List.map_nil]); first | done | rfl | (simp only [List.length_drop, List.length_take]; rfl)) ?_; (with_reducible refine (zztime_Unix.calls a0_0 a0_1 t129 t130 t131 _ A9.out).mono ?_); rintro e w14 ⟨rfl, hb⟩; refine ⟨_, rfl, ?_⟩; have n0_ := Aside0.mk (blk_below (g := gb127) (o := .cells #[.int .i64 a0_0, .int .i64 a0_1] 32 (0, 0)) (by (with_reducible repeat (first | refine blk_drewN ?_ _ | refine blk_drew ?_ | refine blk_alloc ?_ _)); exact BK127.out) hb); have n1_ := Aside0.mk (blk_below (g := gb128) (o := .cells #[.int .i64 0, .int .i64 0, .int .i64 0] 132 (0, 0)) (by (with_reducible repeat (first | refine blk_drewN ?_ _ | refine blk_drew ?_ | refine blk_alloc ?_ _)); exact BK128.out) hb); have n2_ := Aside0.mk (below_step (by repeat (first | (with_reducible first | exact HB.out | apply below_alloc | apply pw_below_drewN | apply below_drew1 | refine below_set ?_ GE127.out | refine below_set ?_ GE128.out) | exact HB.out)) hb); clear BK127; clear BK128; clear HB; have BK127 := n0_; have BK128 := n1_; have HB := n2_; clear n0_ n1_ n2_; (try clear hb); (try clear hb2); (try clear hk); (try clear hi); have hcz15_0 : w14.cell? ⟨gb128, 0, none⟩ = some (.int .i64 0) := (blk_cell BK128.out 0).trans rfl; have hcz15_1 : w14.cell? ⟨gb128, 1, none⟩ = some (.int .i64 0) := (blk_cell BK128.out 1).trans rfl; have hcz15_2 : w14.cell? ⟨gb128, 2, none⟩ = some (.int .i64 0) := (blk_cell BK128.out 2).trans rfl; have hfz15_0 := blk_frozen BK128.out 0; have hfz15_1 := blk_frozen BK128.out 1; have hfz15_2 := blk_frozen BK128.out 2))
      refine bodyPost_ret (results_cell_row rfl _ _ gb128 132 #[.int .i64 t129, .int .i64 t130, .int .i64 t131] (0, 0) _ rfl (by (with_reducible repeat (first | refine blk_drewN ?_ _ | refine blk_drew ?_ | refine blk_alloc ?_ _)); refine blk_put (cs := #[.int .i64 t129, .int .i64 t130, .int .i64 0]) ?_ 2 _ rfl; (with_reducible repeat (first | refine blk_drewN ?_ _ | refine blk_drew ?_ | refine blk_alloc ?_ _)); refine blk_put (cs := #[.int .i64 t129, .int .i64 0, .int .i64 0]) ?_ 1 _ rfl; (with_reducible repeat (first | refine blk_drewN ?_ _ | refine blk_drew ?_ | refine blk_alloc ?_ _)); refine blk_put (cs := #[.int .i64 0, .int .i64 0, .int .i64 0]) ?_ 0 _ rfl; (with_reducible repeat (first | refine blk_drewN ?_ _ | refine blk_drew ?_ | refine blk_alloc ?_ _)); exact BK128.out) Tryd.underlying132 rfl (by kernel_rfl)) rfl ?_
      exact ⟨by first | rfl | (simp [errW_none, errW_some] <;> rfl) | (simp [*, errW_none, errW_some] <;> rfl), by repeat (first | (with_reducible first | exact HB.out | apply below_alloc | apply pw_below_drewN | apply below_drew1 | refine below_set ?_ GE127.out | refine below_set ?_ GE128.out) | exact HB.out)⟩
  · rw [if_neg c2] at H
    have c2b0 : (a0_0 == 0) = false := beq_eq_false_iff_ne.mpr c2
    have c2b1 : (a0_0 != 0) = true := bne_iff_ne.mpr c2
    replace H := Option.bind_eq_some_iff.mp H
    obtain ⟨⟨t132, t133, t134⟩, A160, H⟩ := H
    replace H : (some (t132, t133, t134)) = some (r1, r2, r3) := H
    have A16 := Aside0.mk A160
    clear A160
    simp only [Option.some.injEq, Prod.mk.injEq] at H
    obtain ⟨rfl, rfl, rfl⟩ := H
    go_enter Tryd.func80, Tryd.ntmps80
    go_wp2_with (first | ((with_reducible refine gate_dst (N := 1) rfl ?_); refine box_event ?hg (N := 1) ?hd (cs := #[.int .i64 a0_0, .int .i64 a0_1]) (t := 32) ?hr ?_; (case hd => rfl); (case hg => rfl); (case hr => first | (go_simp; done) | (go_simp; rfl)); intro gb127 hg w17 hbox hb; have n0_ := Aside0.mk (below_step (by repeat (first | (with_reducible first | exact HB.out | apply below_alloc | apply pw_below_drewN | apply below_drew1) | exact HB.out)) hb); have n1_ := Aside0.mk (hbox); have n2_ := Aside0.mk ((by rw [hg]; exact (below_size (by repeat (first | (with_reducible first | exact HB.out | apply below_alloc | apply pw_below_drewN | apply below_drew1) | exact HB.out))) : w.heap.size ≤ gb127)); have n3_ := Aside0.mk ((by rw [hg]; exact (below_size (by repeat (first | (with_reducible first | exact HB.out | apply below_alloc | apply pw_below_drewN | apply below_drew1) | exact HB.out))) : w.heap.size ≤ gb127)); clear HB; have HB := n0_; have BK127 := n1_; have GW127 := n2_; have GE127 := n3_; clear n0_ n1_ n2_ n3_; clear hb hbox hg) | ((with_reducible refine gate_dst (N := 2) rfl ?_); refine box_event ?hg (N := 2) ?hd (cs := #[.int .i64 0, .int .i64 0, .int .i64 0]) (t := 132) ?hr ?_; (case hd => rfl); (case hg => rfl); (case hr => first | (go_simp; done) | (go_simp; rfl)); intro gb128 hg w18 hbox hb; have n0_ := Aside0.mk (blk_below (g := gb127) (o := .cells #[.int .i64 a0_0, .int .i64 a0_1] 32 (0, 0)) (by (with_reducible repeat (first | refine blk_drewN ?_ _ | refine blk_drew ?_ | refine blk_alloc ?_ _)); exact BK127.out) hb); have n1_ := Aside0.mk (below_step (by repeat (first | (with_reducible first | exact HB.out | apply below_alloc | apply pw_below_drewN | apply below_drew1 | refine below_set ?_ GE127.out) | exact HB.out)) hb); have n2_ := Aside0.mk (hbox); have n3_ := Aside0.mk ((by rw [hg]; exact (below_size (by repeat (first | (with_reducible first | exact HB.out | apply below_alloc | apply pw_below_drewN | apply below_drew1 | refine below_set ?_ GE127.out) | exact HB.out))) : w.heap.size ≤ gb128)); have n4_ := Aside0.mk ((by rw [hg]; exact (below_size (by repeat (first | (with_reducible first | exact HB.out | apply below_alloc | apply pw_below_drewN | apply below_drew1 | refine below_set ?_ GE127.out) | exact HB.out))) : w.heap.size ≤ gb128)); have n5_ := Aside0.mk ((by rw [hg]; exact Nat.ne_of_lt (blk_lt (g := gb127) (o := .cells #[.int .i64 a0_0, .int .i64 a0_1] 32 (0, 0)) (by (with_reducible repeat (first | refine blk_drewN ?_ _ | refine blk_drew ?_ | refine blk_alloc ?_ _)); exact BK127.out)) : gb127 ≠ gb128)); have n6_ := Aside0.mk ((by rw [hg]; exact Nat.ne_of_gt (blk_lt (g := gb127) (o := .cells #[.int .i64 a0_0, .int .i64 a0_1] 32 (0, 0)) (by (with_reducible repeat (first | refine blk_drewN ?_ _ | refine blk_drew ?_ | refine blk_alloc ?_ _)); exact BK127.out)) : gb128 ≠ gb127)); clear BK127; clear HB; have BK127 := n0_; have HB := n1_; have BK128 := n2_; have GW128 := n3_; have GE128 := n4_; have NB127_128 := n5_; have NB128_127 := n6_; clear n0_ n1_ n2_ n3_ n4_ n5_ n6_; clear hb hbox hg; have hnb19 := NB127_128.out; have hnc19 := NB128_127.out; have hcz20_0 : w18.cell? ⟨gb127, 0, none⟩ = some (.int .i64 a0_0) := (blk_cell BK127.out 0).trans rfl; have hcz20_1 : w18.cell? ⟨gb127, 1, none⟩ = some (.int .i64 a0_1) := (blk_cell BK127.out 1).trans rfl; have hfz20_0 := blk_frozen BK127.out 0; have hfz20_1 := blk_frozen BK127.out 1) | ((with_reducible refine gate_callee (f := 108) rfl ?_); refine goesL_ (some 16) rfl rfl Tryd.func108 (by kernel_rfl) rfl #[.int .i64 a0_0, .int .i64 a0_1] rfl (by (try simp only [List.map_toArray, List.map_cons, List.map_nil]); first | done | rfl | (simp only [List.length_drop, List.length_take]; rfl)) ?_; (with_reducible refine (zztime_Unix.calls a0_0 a0_1 t132 t133 t134 _ A16.out).mono ?_); rintro e w21 ⟨rfl, hb⟩; refine ⟨_, rfl, ?_⟩; have n0_ := Aside0.mk (blk_below (g := gb127) (o := .cells #[.int .i64 a0_0, .int .i64 a0_1] 32 (0, 0)) (by (with_reducible repeat (first | refine blk_drewN ?_ _ | refine blk_drew ?_ | refine blk_alloc ?_ _)); exact BK127.out) hb); have n1_ := Aside0.mk (blk_below (g := gb128) (o := .cells #[.int .i64 0, .int .i64 0, .int .i64 0] 132 (0, 0)) (by (with_reducible repeat (first | refine blk_drewN ?_ _ | refine blk_drew ?_ | refine blk_alloc ?_ _)); exact BK128.out) hb); have n2_ := Aside0.mk (below_step (by repeat (first | (with_reducible first | exact HB.out | apply below_alloc | apply pw_below_drewN | apply below_drew1 | refine below_set ?_ GE127.out | refine below_set ?_ GE128.out) | exact HB.out)) hb); clear BK127; clear BK128; clear HB; have BK127 := n0_; have BK128 := n1_; have HB := n2_; clear n0_ n1_ n2_; (try clear hb); (try clear hb2); (try clear hk); (try clear hi); have hcz22_0 : w21.cell? ⟨gb128, 0, none⟩ = some (.int .i64 0) := (blk_cell BK128.out 0).trans rfl; have hcz22_1 : w21.cell? ⟨gb128, 1, none⟩ = some (.int .i64 0) := (blk_cell BK128.out 1).trans rfl; have hcz22_2 : w21.cell? ⟨gb128, 2, none⟩ = some (.int .i64 0) := (blk_cell BK128.out 2).trans rfl; have hfz22_0 := blk_frozen BK128.out 0; have hfz22_1 := blk_frozen BK128.out 1; have hfz22_2 := blk_frozen BK128.out 2))
    refine bodyPost_ret (results_cell_row rfl _ _ gb128 132 #[.int .i64 t132, .int .i64 t133, .int .i64 t134] (0, 0) _ rfl (by (with_reducible repeat (first | refine blk_drewN ?_ _ | refine blk_drew ?_ | refine blk_alloc ?_ _)); refine blk_put (cs := #[.int .i64 t132, .int .i64 t133, .int .i64 0]) ?_ 2 _ rfl; (with_reducible repeat (first | refine blk_drewN ?_ _ | refine blk_drew ?_ | refine blk_alloc ?_ _)); refine blk_put (cs := #[.int .i64 t132, .int .i64 0, .int .i64 0]) ?_ 1 _ rfl; (with_reducible repeat (first | refine blk_drewN ?_ _ | refine blk_drew ?_ | refine blk_alloc ?_ _)); refine blk_put (cs := #[.int .i64 0, .int .i64 0, .int .i64 0]) ?_ 0 _ rfl; (with_reducible repeat (first | refine blk_drewN ?_ _ | refine blk_drew ?_ | refine blk_alloc ?_ _)); exact BK128.out) Tryd.underlying132 rfl (by kernel_rfl)) rfl ?_
    exact ⟨by first | rfl | (simp [errW_none, errW_some] <;> rfl) | (simp [*, errW_none, errW_some] <;> rfl), by repeat (first | (with_reducible first | exact HB.out | apply below_alloc | apply pw_below_drewN | apply below_drew1 | refine below_set ?_ GE127.out | refine below_set ?_ GE128.out) | exact HB.out)⟩

-- NOT PRINTED: function 51 (impl_indexOf)

-- NOT PRINTED: function 52 (index_Index_Remove)

/-! ### hex_EncodedLen: function 106 -/
def hex_EncodedLen.f (a0 : Int) : Option (Int) := some (wrap64 (a0 * 2))
set_option maxHeartbeats 8000000 in
set_option maxRecDepth 100000 in
theorem hex_EncodedLen.calls (a0 : Int) (r : Int) (w : World) (h : hex_EncodedLen.f a0 = some r) :
    Calls Tryd.prog 106 #[.int .i64 a0] w fun e w' => e = .returned (.int .i64 r) ∧ Drawn0 w w' := by
  have H : (some (wrap64 (a0 * 2))) = some r := h
  clear h
  obtain rfl := Option.some.inj H
  go_enter Tryd.func106, Tryd.ntmps106
  go_wp2
  go_ret
  exact ⟨by first | rfl | (simp; done) | (simp [*]; done), by repeat (first | exact Drawn0.refl _ | apply Drawn0.step)⟩

/-! ### hex_Encode: function 107 -/
def hex_Encode.l0 : Nat → List Int → List Int → Int → List Int → Int → Int → Option (Int × List Int)
  | 0, _, _, _, _, _, _ => none
  | k + 1, x0, x1, x5, x8, x9, x10 => if x10 < x9 then (if 0 ≤ x10 then (if x10 < (x8.length : Int) then (if 0 ≤ ((rd x8 x10) / 16) then (if ((rd x8 x10) / 16) < 16 then (if 0 ≤ x5 then (if x5 < (x0.length : Int) then (if 0 ≤ (Go.bits .and .u8 (rd x8 x10) 15) then (if (Go.bits .and .u8 (rd x8 x10) 15) < 16 then (if 0 ≤ (wrap64 (x5 + 1)) then (if (wrap64 (x5 + 1)) < (x0.length : Int) then (hex_Encode.l0 k ((x0.set (x5 : Int).toNat (bt (⟨#[48, 49, 50, 51, 52, 53, 54, 55, 56, 57, 97, 98, 99, 100, 101, 102]⟩ : ByteArray) ((rd x8 x10) / 16))).set ((wrap64 (x5 + 1)) : Int).toNat (bt (⟨#[48, 49, 50, 51, 52, 53, 54, 55, 56, 57, 97, 98, 99, 100, 101, 102]⟩ : ByteArray) (Go.bits .and .u8 (rd x8 x10) 15))) x1 (wrap64 (x5 + 2)) x8 x9 (wrap64 (x10 + 1))) else (none)) else (none)) else (none)) else (none)) else (none)) else (none)) else (none)) else (none)) else (none)) else (none)) else (some (wrap64 ((x1.length : Int) * 2), x0))
def hex_Encode.f (k : Nat) (l0 : List Int) (l1 : List Int) : Option (Int × List Int) := hex_Encode.l0 k l0 l1 0 l1 (l1.length : Int) 0
theorem hex_Encode.mono_l : ∀ k, (∀ y0 y1 y2 y3 y4 y5, LeO (hex_Encode.l0 k y0 y1 y2 y3 y4 y5) (hex_Encode.l0 (k + 1) y0 y1 y2 y3 y4 y5))
  | 0 => fun _ _ _ _ _ _ r h => by simp [hex_Encode.l0] at h
  | k + 1 => by
    have ih0 := hex_Encode.mono_l k
    · intro y0 y1 y2 y3 y4 y5
      unfold hex_Encode.l0
      repeat' first
      | (with_reducible exact ih0 _ _ _ _ _ _)
      | (with_reducible exact LeO.refl _)
      | (with_reducible exact LeO.none _)
      | (with_reducible refine LeO.ite ?_ ?_)
      | (with_reducible refine LeO.bind ?_ (fun _ => ?_))
      | exact ih0 _ _ _ _ _ _
      | exact LeO.none _
      | refine LeO.ite ?_ ?_
      | refine LeO.bind ?_ (fun _ => ?_)
theorem hex_Encode.mono : ∀ a0 a1 k, LeO (hex_Encode.f k a0 a1) (hex_Encode.f (k + 1) a0 a1) := by
  intro a0 a1 k
  have ih0 := hex_Encode.mono_l k
  unfold hex_Encode.f
  repeat' first
      | (with_reducible exact ih0 _ _ _ _ _ _)
      | (with_reducible exact LeO.refl _)
      | (with_reducible exact LeO.none _)
      | (with_reducible refine LeO.ite ?_ ?_)
      | (with_reducible refine LeO.bind ?_ (fun _ => ?_))
      | exact ih0 _ _ _ _ _ _
      | exact LeO.none _
      | refine LeO.ite ?_ ?_
      | refine LeO.bind ?_ (fun _ => ?_)
set_option maxHeartbeats 8000000 in
set_option maxRecDepth 100000 in
theorem hex_Encode.calls (k : Nat) (P0_ : Nat → Prop) (u9000_ : Value) (l0 : List Int) (A1 : Option Addr) (c1 : Nat) (l1 : List Int) (r1 : Int) (r2 : List Int) (w0 w : World) (hB : Below w0.heap.size w0 w) (ho0 : Kd.R (Kd.int .u8) 5 w w0.heap.size P0_ u9000_ l0) (hr1 : ∀ W_, Kept w W_ (fun k_ => P0_ k_) → Kd.C (Kd.int .u8) W_ A1 l1.length l1) (hc1 : l1.length ≤ c1) (h : hex_Encode.f k l0 l1 = some (r1, r2)) :
    Calls Tryd.prog 107 #[u9000_, .slice A1 l1.length c1] w fun e w' => e = .returned (.int .i64 r1) ∧ Kd.R (Kd.int .u8) 5 w' w0.heap.size (fun k_ => (P0_ k_ ∨ w.heap.size ≤ k_)) u9000_ r2 ∧ Below w0.heap.size w0 w' ∧ Kept w w' (fun k_ => P0_ k_) := by
  have HO0 := Aside0.mk (show Kd.R (Kd.int .u8) 5 w w0.heap.size (fun k_ => (P0_ k_ ∨ w.heap.size ≤ k_)) u9000_ l0 from Kd.R_mono ho0 (fun k_ hk => (.inl hk)))
  have HR1 := Aside0.mk hr1
  have HC1 := Aside0.mk hc1
  clear hr1 hc1
  have HK := Aside0.mk (Kept.refl w (fun k_ => P0_ k_))
  have HW0 := Aside0.mk hB.size
  have HB := Aside0.mk hB
  clear hB
  have H : (hex_Encode.l0 k l0 l1 0 l1 (l1.length : Int) 0) = some (r1, r2) := h
  clear h
  have H' := Aside0.mk H
  clear H
  go_enter Tryd.func107, Tryd.ntmps107
  go_wp2
  go_loopg [5, 10] k (fun kq v5 v10 w' => ∃ (x0_1 : List Int) (x5_1 : Int) (x10_1 : Int), v5 = .int .i64 x5_1 ∧ v10 = .int .i64 x10_1 ∧ Aside0 (hex_Encode.l0 kq x0_1 l1 x5_1 l1 (l1.length : Int) x10_1 = some (r1, r2)) ∧ Aside0 (kq ≤ k) ∧ Aside0 (Kd.R (Kd.int .u8) 5 w' w0.heap.size (fun k_ => (P0_ k_ ∨ w.heap.size ≤ k_)) u9000_ x0_1) ∧ Aside0 (Kept w w' (fun k_ => P0_ k_)) ∧ Aside0 (Below w0.heap.size w0 w'))
  case atStart => exact ⟨(l0), (0), (0), (by first | rfl | (simp; done) | (simp [*]; done)), (by first | rfl | (simp; done) | (simp [*]; done)), H', ⟨Nat.le_refl _⟩, ⟨by (with_reducible repeat (first | apply Kd.R_alloc | apply Kd.R_drewN | apply Kd.R_drew)); exact HO0.out⟩, ⟨by repeat (first | (with_reducible first | exact HK.out | apply Kept.alloc | apply Kept.drewN | apply Kept.drew) | exact HK.out)⟩, ⟨by repeat (first | (with_reducible first | exact HB.out | apply below_alloc | apply pw_below_drewN | apply below_drew1) | exact HB.out)⟩⟩
  case round =>
    clear H'
    try clear c1
    try clear p2
    obtain ⟨x0_1, x5_1, x10_1, rfl, rfl, HA, HK1, HO_0, HK, HB⟩ := hrel
    cases gk with
    | zero => exact absurd HA.out (by simp [hex_Encode.l0])
    | succ k1 =>
      have H := HA.out
      clear HA
      simp only [hex_Encode.l0] at H
      by_cases c3 : x10_1 < (l1.length : Int)
      · rw [if_pos c3] at H
        have c3b0 : decide (x10_1 < (l1.length : Int)) = true := decide_eq_true c3
        clear c3
        by_cases c4 : 0 ≤ x10_1
        · rw [if_pos c4] at H
          have c4b0 : decide (0 ≤ x10_1) = true := decide_eq_true c4
          clear c4
          by_cases c5 : x10_1 < (l1.length : Int)
          · rw [if_pos c5] at H
            have c5b0 : decide (x10_1 < (l1.length : Int)) = true := decide_eq_true c5
            clear c5
            obtain ⟨ji6, hji6⟩ : ∃ j_ : Int, ((rd l1 x10_1) / 16) = j_ := ⟨_, rfl⟩
            replace H : (if 0 ≤ (ji6) then (if (ji6) < 16 then (if 0 ≤ x5_1 then (if x5_1 < (x0_1.length : Int) then (if 0 ≤ (Go.bits .and .u8 (rd l1 x10_1) 15) then (if (Go.bits .and .u8 (rd l1 x10_1) 15) < 16 then (if 0 ≤ (wrap64 (x5_1 + 1)) then (if (wrap64 (x5_1 + 1)) < (x0_1.length : Int) then (hex_Encode.l0 k1 ((x0_1.set (x5_1 : Int).toNat (bt (⟨#[48, 49, 50, 51, 52, 53, 54, 55, 56, 57, 97, 98, 99, 100, 101, 102]⟩ : ByteArray) (ji6))).set ((wrap64 (x5_1 + 1)) : Int).toNat (bt (⟨#[48, 49, 50, 51, 52, 53, 54, 55, 56, 57, 97, 98, 99, 100, 101, 102]⟩ : ByteArray) (Go.bits .and .u8 (rd l1 x10_1) 15))) l1 (wrap64 (x5_1 + 2)) l1 (l1.length : Int) (wrap64 (x10_1 + 1))) else (none)) else (none)) else (none)) else (none)) else (none)) else (none)) else (none)) else (none)) = some (r1, r2) := by first | (rw [hji6] at H; exact H) | (simp only [hji6] at H ⊢; exact H)
            by_cases c7 : 0 ≤ (ji6)
            · rw [if_pos c7] at H
              have c7b0 : decide (0 ≤ (ji6)) = true := decide_eq_true c7
              clear c7
              by_cases c8 : (ji6) < 16
              · rw [if_pos c8] at H
                have c8b0 : decide ((ji6) < 16) = true := decide_eq_true c8
                clear c8
                by_cases c10 : 0 ≤ x5_1
                · rw [if_pos c10] at H
                  have c10b0 : decide (0 ≤ x5_1) = true := decide_eq_true c10
                  clear c10
                  by_cases c11 : x5_1 < (x0_1.length : Int)
                  · rw [if_pos c11] at H
                    have c11b0 : decide (x5_1 < (x0_1.length : Int)) = true := decide_eq_true c11
                    clear c11
                    obtain ⟨y136, hy136⟩ : ∃ y_ : List Int, y_ = (x0_1.set (x5_1 : Int).toNat (bt (⟨#[48, 49, 50, 51, 52, 53, 54, 55, 56, 57, 97, 98, 99, 100, 101, 102]⟩ : ByteArray) (ji6))) := ⟨_, rfl⟩
                    replace H : (if 0 ≤ (Go.bits .and .u8 (rd l1 x10_1) 15) then (if (Go.bits .and .u8 (rd l1 x10_1) 15) < 16 then (if 0 ≤ (wrap64 (x5_1 + 1)) then (if (wrap64 (x5_1 + 1)) < (x0_1.length : Int) then (hex_Encode.l0 k1 (y136.set ((wrap64 (x5_1 + 1)) : Int).toNat (bt (⟨#[48, 49, 50, 51, 52, 53, 54, 55, 56, 57, 97, 98, 99, 100, 101, 102]⟩ : ByteArray) (Go.bits .and .u8 (rd l1 x10_1) 15))) l1 (wrap64 (x5_1 + 2)) l1 (l1.length : Int) (wrap64 (x10_1 + 1))) else (none)) else (none)) else (none)) else (none)) = some (r1, r2) := by first | (rw [hy136]; with_reducible exact H) | (have H2_ := (Option.bind_some _ _).symm.trans H; rw [hy136]; with_reducible exact H2_) | (have H2_ := (Option.bind_some _ _).symm.trans H; with_reducible exact H2_) | with_reducible exact H | (rw [hy136]; exact H) | exact H
                    have Ny136 := Aside0.mk hy136
                    clear hy136
                    by_cases c13 : 0 ≤ (Go.bits .and .u8 (rd l1 x10_1) 15)
                    · rw [if_pos c13] at H
                      have c13b0 : decide (0 ≤ (Go.bits .and .u8 (rd l1 x10_1) 15)) = true := decide_eq_true c13
                      clear c13
                      by_cases c14 : (Go.bits .and .u8 (rd l1 x10_1) 15) < 16
                      · rw [if_pos c14] at H
                        have c14b0 : decide ((Go.bits .and .u8 (rd l1 x10_1) 15) < 16) = true := decide_eq_true c14
                        clear c14
                        obtain ⟨ji16, hji16⟩ : ∃ j_ : Int, (wrap64 (x5_1 + 1)) = j_ := ⟨_, rfl⟩
                        replace H : (if 0 ≤ (ji16) then (if (ji16) < (x0_1.length : Int) then (hex_Encode.l0 k1 (y136.set ((ji16) : Int).toNat (bt (⟨#[48, 49, 50, 51, 52, 53, 54, 55, 56, 57, 97, 98, 99, 100, 101, 102]⟩ : ByteArray) (Go.bits .and .u8 (rd l1 x10_1) 15))) l1 (wrap64 (x5_1 + 2)) l1 (l1.length : Int) (wrap64 (x10_1 + 1))) else (none)) else (none)) = some (r1, r2) := by first | (rw [hji16] at H; exact H) | (simp only [hji16] at H ⊢; exact H)
                        have hji16w : (IntKind.i64.wrap (x5_1 + 1)) = ji16 := (i64_w _).trans hji16
                        by_cases c17 : 0 ≤ (ji16)
                        · rw [if_pos c17] at H
                          have c17b0 : decide (0 ≤ (ji16)) = true := decide_eq_true c17
                          clear c17
                          by_cases c18 : (ji16) < (x0_1.length : Int)
                          · rw [if_pos c18] at H
                            have c18b0 : decide ((ji16) < (x0_1.length : Int)) = true := decide_eq_true c18
                            clear c18
                            obtain ⟨y137, hy137⟩ : ∃ y_ : List Int, y_ = (y136.set ((ji16) : Int).toNat (bt (⟨#[48, 49, 50, 51, 52, 53, 54, 55, 56, 57, 97, 98, 99, 100, 101, 102]⟩ : ByteArray) (Go.bits .and .u8 (rd l1 x10_1) 15))) := ⟨_, rfl⟩
                            replace H : (hex_Encode.l0 k1 y137 l1 (wrap64 (x5_1 + 2)) l1 (l1.length : Int) (wrap64 (x10_1 + 1))) = some (r1, r2) := by first | (rw [hy137]; with_reducible exact H) | (have H2_ := (Option.bind_some _ _).symm.trans H; rw [hy137]; with_reducible exact H2_) | (have H2_ := (Option.bind_some _ _).symm.trans H; with_reducible exact H2_) | with_reducible exact H | (rw [hy137]; exact H) | exact H
                            have Ny137 := Aside0.mk hy137
                            clear hy137
                            have H' := Aside0.mk H
                            clear H
                            have p135 : 0 ≤ (x10_1 : Int) := of_decide_eq_true (by first | (with_reducible assumption) | assumption)
                            have q135 : x10_1 < (l1.length : Int) := of_decide_eq_true (by first | (with_reducible assumption) | assumption)
                            obtain ⟨ad135, e135, hx135_0⟩ := Kd.at_int (Kd.C_kept_now HR1.out HK.out) x10_1 p135 q135
                            cases e135
                            replace p135 := eq_true p135
                            replace q135 := eq_true q135
                            have p9 : 0 ≤ ((ji6) : Int) := of_decide_eq_true (by first | (with_reducible assumption) | assumption)
                            have q9 : (ji6) < (16 : Int) := of_decide_eq_true (by first | (with_reducible assumption) | assumption)
                            have hx9 := bt_at (⟨#[48, 49, 50, 51, 52, 53, 54, 55, 56, 57, 97, 98, 99, 100, 101, 102]⟩ : ByteArray) (ji6)
                            replace p9 := eq_true p9
                            replace q9 := eq_true q9
                            have p12 : 0 ≤ (x5_1 : Int) := of_decide_eq_true (by first | (with_reducible assumption) | assumption)
                            have q12 : (x5_1 : Int) < ((x0_1.length : Int) : Int) := of_decide_eq_true (by first | (with_reducible assumption) | assumption)
                            obtain ⟨go12, co12, eo12, gb12, gl12, cl12, HG12⟩ := Kd.R_form HO_0.out (by omega)
                            (first | cases eo12 | (injection eo12 with ea_ en_ ec_; (first | subst ea_ | (injection ea_ with ea_; subst ea_)); subst ec_; clear en_))
                            have GB12 := Aside0.mk gb12
                            have GG12 := Aside0.mk HG12
                            clear gb12 gl12 HG12
                            have HMgo12 := Aside0.mk (show (P0_ go12 ∨ w.heap.size ≤ go12) from (HO_0.out.1 _ rfl))
                            obtain ⟨hx12_0, hf12_0⟩ := Kd.R_celln 0 HO_0.out (x5_1 : Int) p12 q12
                            replace p12 := eq_true p12
                            replace q12 := eq_true q12
                            have HP20 := Kd.R_putg HO_0.out (x5_1 : Int) (bt (⟨#[48, 49, 50, 51, 52, 53, 54, 55, 56, 57, 97, 98, 99, 100, 101, 102]⟩ : ByteArray) (ji6))
                            go_wp2_with (first | ((with_reducible refine gate_store (t := 5) (p := 19) rfl ?_); refine store_event (t := 5) (p := 19) (v := ?vo_w21) (w1 := (wr.setCell ⟨go12, (x5_1 : Int).toNat, none⟩ (.int .u8 (bt (⟨#[48, 49, 50, 51, 52, 53, 54, 55, 56, 57, 97, 98, 99, 100, 101, 102]⟩ : ByteArray) (ji6))))) ?hg ?ho ?hn ?hr ?_; (case ho => rfl); (case hg => rfl); (case hn => rfl); (case hr => first | (go_simp; done) | (go_simp; rfl)); intro w21 hw; have hg : wr.grownBy w21 (some go12) := (by rw [hw]; exact HP20.2); have hp_ : Kd.R (Kd.int .u8) 5 w21 w0.heap.size (fun k_ => (P0_ k_ ∨ w.heap.size ≤ k_)) (.slice (some ⟨go12, 0, none⟩) x0_1.length co12) y136 := (by rw [hw, Ny136.out]; exact HP20.1); clear HP20; have n0_ := Aside0.mk (hp_); have n1_ := Aside0.mk ((by rw [hw]; exact below_set (HB.out) GB12.out : Below w0.heap.size w0 w21)); have n2_ := Aside0.mk (Kept.of_grown (S := (fun k_ => P0_ k_)) hg (by repeat (first | (with_reducible first | exact HK.out | apply Kept.alloc | apply Kept.drewN | apply Kept.drew) | exact HK.out)) (fun k_ e_ => (HO_0.out.1 k_ e_))); clear HO_0; clear HB; clear HK; have HO_0 := n0_; have HB := n1_; have HK := n2_; clear n0_ n1_ n2_; clear hg hw hp_; have p15 : 0 ≤ ((Go.bits .and .u8 (rd l1 x10_1) 15) : Int) := of_decide_eq_true (by first | (with_reducible assumption) | assumption); have q15 : (Go.bits .and .u8 (rd l1 x10_1) 15) < (16 : Int) := of_decide_eq_true (by first | (with_reducible assumption) | assumption); have hx15 := bt_at (⟨#[48, 49, 50, 51, 52, 53, 54, 55, 56, 57, 97, 98, 99, 100, 101, 102]⟩ : ByteArray) (Go.bits .and .u8 (rd l1 x10_1) 15); replace p15 := eq_true p15; replace q15 := eq_true q15; have p19 : 0 ≤ ((ji16) : Int) := of_decide_eq_true (by first | (with_reducible assumption) | assumption); have q19 : ((ji16) : Int) < ((x0_1.length : Int) : Int) := of_decide_eq_true (by first | (with_reducible assumption) | assumption); obtain ⟨hx19_0, hf19_0⟩ := Kd.R_celln 0 HO_0.out ((ji16) : Int) p19 q19; replace p19 := eq_true p19; replace q19 := eq_true q19; obtain ⟨hy22_, hz22_⟩ := Kd.R_celln 0 HO_0.out ((ji16) : Int) (of_decide_eq_true (by first | (with_reducible assumption) | assumption)) (of_decide_eq_true (by first | (with_reducible assumption) | assumption)); have HP22 := Kd.R_putg HO_0.out ((ji16) : Int) (bt (⟨#[48, 49, 50, 51, 52, 53, 54, 55, 56, 57, 97, 98, 99, 100, 101, 102]⟩ : ByteArray) (Go.bits .and .u8 (rd l1 x10_1) 15))) | ((with_reducible refine gate_store (t := 5) (p := 26) rfl ?_); refine store_event (t := 5) (p := 26) (v := ?vo_w23) (w1 := (w21.setCell ⟨go12, ((ji16) : Int).toNat, none⟩ (.int .u8 (bt (⟨#[48, 49, 50, 51, 52, 53, 54, 55, 56, 57, 97, 98, 99, 100, 101, 102]⟩ : ByteArray) (Go.bits .and .u8 (rd l1 x10_1) 15))))) ?hg ?ho ?hn ?hr ?_; (case ho => rfl); (case hg => rfl); (case hn => rfl); (case hr => first | (go_simp; done) | (go_simp; rfl)); intro w23 hw; have hg : w21.grownBy w23 (some go12) := (by rw [hw]; exact HP22.2); have hp_ : Kd.R (Kd.int .u8) 5 w23 w0.heap.size (fun k_ => (P0_ k_ ∨ w.heap.size ≤ k_)) (.slice (some ⟨go12, 0, none⟩) x0_1.length co12) y137 := (by rw [hw, Ny137.out]; exact HP22.1); clear HP22; have n0_ := Aside0.mk (hp_); have n1_ := Aside0.mk ((by rw [hw]; exact below_set (HB.out) GB12.out : Below w0.heap.size w0 w23)); have n2_ := Aside0.mk (Kept.of_grown (S := (fun k_ => P0_ k_)) hg (by repeat (first | (with_reducible first | exact HK.out | apply Kept.alloc | apply Kept.drewN | apply Kept.drew) | exact HK.out)) (fun k_ e_ => (HO_0.out.1 k_ e_))); clear HO_0; clear HB; clear HK; have HO_0 := n0_; have HB := n1_; have HK := n2_; clear n0_ n1_ n2_; clear hg hw hp_))
                            go_roundg k1
                            case measure => have := HK1.out; omega
                            case rel => exact ⟨(y137), (wrap64 (x5_1 + 2)), (wrap64 (x10_1 + 1)), (by first | rfl | (simp; done) | (simp [*]; done)), (by first | rfl | (simp; done) | (simp [*]; done)), H', ⟨by have := HK1.out; omega⟩, ⟨by (with_reducible repeat (first | apply Kd.R_alloc | apply Kd.R_drewN | apply Kd.R_drew)); exact HO_0.out⟩, ⟨by repeat (first | (with_reducible first | exact HK.out | apply Kept.alloc | apply Kept.drewN | apply Kept.drew) | exact HK.out)⟩, ⟨by repeat (first | (with_reducible first | exact HB.out | apply below_alloc | apply pw_below_drewN | apply below_drew1) | exact HB.out)⟩⟩
                          · rw [if_neg c18] at H
                            exact absurd H (by simp)
                        · rw [if_neg c17] at H
                          exact absurd H (by simp)
                      · rw [if_neg c14] at H
                        exact absurd H (by simp)
                    · rw [if_neg c13] at H
                      exact absurd H (by simp)
                  · rw [if_neg c11] at H
                    exact absurd H (by simp)
                · rw [if_neg c10] at H
                  exact absurd H (by simp)
              · rw [if_neg c8] at H
                exact absurd H (by simp)
            · rw [if_neg c7] at H
              exact absurd H (by simp)
          · rw [if_neg c5] at H
            exact absurd H (by simp)
        · rw [if_neg c4] at H
          exact absurd H (by simp)
      · rw [if_neg c3] at H
        have c3b0 : decide (x10_1 < (l1.length : Int)) = false := decide_eq_false c3
        clear c3
        simp only [Option.some.injEq, Prod.mk.injEq] at H
        obtain ⟨rfl, rfl⟩ := H
        go_wp2
        go_ret
        exact ⟨by first | rfl | (simp [errW_none, errW_some] <;> rfl) | (simp [*, errW_none, errW_some] <;> rfl), by (with_reducible repeat (first | apply Kd.R_alloc | apply Kd.R_drewN | apply Kd.R_drew)); exact HO_0.out, by repeat (first | (with_reducible first | exact HB.out | apply below_alloc | apply pw_below_drewN | apply below_drew1) | exact HB.out), by repeat (first | (with_reducible first | exact HK.out | apply Kept.alloc | apply Kept.drewN | apply Kept.drew) | exact HK.out)⟩

/-! ### hex_EncodeToString: function 78 -/
def hex_EncodeToString.f (k : Nat) (l0 : List Int) : Option (ByteArray) := (hex_EncodedLen.f (l0.length : Int)).bind fun t138 => (if 0 ≤ t138 then (if (t138 : Int).toNat ≤ 281474976710656 then ((hex_Encode.f k (List.replicate (t138 : Int).toNat 0) l0).bind fun bt142 => (some (strOfNums bt142.2))) else (none)) else (none))
theorem hex_EncodeToString.mono : ∀ a0 k, LeO (hex_EncodeToString.f k a0) (hex_EncodeToString.f (k + 1) a0) := by
  intro a0 k
  unfold hex_EncodeToString.f
  repeat' first
      | (with_reducible exact hex_Encode.mono _ _ _)
      | (with_reducible exact LeO.refl _)
      | (with_reducible exact LeO.none _)
      | (with_reducible refine LeO.ite ?_ ?_)
      | (with_reducible refine LeO.bind ?_ (fun _ => ?_))
      | exact hex_Encode.mono _ _ _
      | exact LeO.none _
      | refine LeO.ite ?_ ?_
      | refine LeO.bind ?_ (fun _ => ?_)
set_option maxHeartbeats 8000000 in
set_option maxRecDepth 100000 in
theorem hex_EncodeToString.calls (k : Nat) (A0 : Option Addr) (c0 : Nat) (l0 : List Int) (r : ByteArray) (w : World) (hr0 : Kd.C (Kd.int .u8) w A0 l0.length l0) (hc0 : l0.length ≤ c0) (h : hex_EncodeToString.f k l0 = some r) :
    Calls Tryd.prog 78 #[.slice A0 l0.length c0] w fun e w' => e = .returned (.string r) ∧ Below w.heap.size w w' := by
  have HR0 := Aside0.mk hr0
  have HC0 := Aside0.mk hc0
  clear hr0 hc0
  have HB := Aside0.mk (Below.refl w.heap.size w)
  have H : ((hex_EncodedLen.f (l0.length : Int)).bind fun t138 => (if 0 ≤ t138 then (if (t138 : Int).toNat ≤ 281474976710656 then ((hex_Encode.f k (List.replicate (t138 : Int).toNat 0) l0).bind fun bt142 => (some (strOfNums bt142.2))) else (none)) else (none))) = some r := h
  clear h
  replace H := Option.bind_eq_some_iff.mp H
  obtain ⟨t138, A20, H⟩ := H
  replace H : (if 0 ≤ t138 then (if (t138 : Int).toNat ≤ 281474976710656 then ((hex_Encode.f k (List.replicate (t138 : Int).toNat 0) l0).bind fun bt142 => (some (strOfNums bt142.2))) else (none)) else (none)) = some r := H
  have A2 := Aside0.mk A20
  clear A20
  by_cases c3 : 0 ≤ t138
  · rw [if_pos c3] at H
    have c3b0 := eq_true c3
    have c3b1 : decide (0 ≤ t138) = true := decide_eq_true c3
    clear c3
    by_cases c4 : (t138 : Int).toNat ≤ 281474976710656
    · rw [if_pos c4] at H
      have c4b0 := eq_true c4
      have c4b1 : decide ((t138 : Int).toNat ≤ 281474976710656) = true := decide_eq_true c4
      clear c4
      obtain ⟨y139, hy139⟩ : ∃ y_ : List Int, y_ = (List.replicate (t138 : Int).toNat 0) := ⟨_, rfl⟩
      replace H : ((hex_Encode.f k y139 l0).bind fun bt142 => (some (strOfNums bt142.2))) = some r := by first | (rw [hy139]; with_reducible exact H) | (have H2_ := (Option.bind_some _ _).symm.trans H; rw [hy139]; with_reducible exact H2_) | (have H2_ := (Option.bind_some _ _).symm.trans H; with_reducible exact H2_) | with_reducible exact H | (rw [hy139]; exact H) | exact H
      have Ny139 := Aside0.mk hy139
      clear hy139
      replace H := Option.bind_eq_some_iff.mp H
      obtain ⟨⟨t142, t143⟩, A50, H⟩ := H
      replace H : (some (strOfNums t143)) = some r := H
      have A5 := Aside0.mk A50
      clear A50
      obtain rfl := Option.some.inj H
      go_enter Tryd.func78, Tryd.ntmps78
      go_wp2_with (first | ((with_reducible refine gate_callee (f := 106) rfl ?_); refine goesL_ (some 6) rfl rfl Tryd.func106 (by kernel_rfl) rfl #[.int .i64 (l0.length : Int)] rfl (by (try simp only [List.map_toArray, List.map_cons, List.map_nil]); first | done | rfl | (simp only [List.length_drop, List.length_take]; rfl)) ?_; (with_reducible refine (hex_EncodedLen.calls (l0.length : Int) t138 _ A2.out).mono ?_); rintro e w' ⟨rfl, ⟨nd, rfl⟩⟩; refine ⟨_, rfl, ?_⟩) | ((with_reducible refine gate_dst (N := 7) rfl ?_); refine Kd.R_make (Kd.int .u8) _ 5 rfl (N := 7) rfl 44 _ _ rfl t138 rfl rfl Tryd.underlying44 (.int .u8 0) 1 info5 rfl (by decide) (by omega) 0 (ok := fun _ => True) (okp := fun _ => True) rfl (fun _ hk => hk) trivial (of_decide_eq_true (by first | (with_reducible assumption) | assumption)) (Nat.le_trans (Nat.mul_le_mul_right _ (of_decide_eq_true (by first | (with_reducible assumption) | assumption) : t138.toNat ≤ 281474976710656)) (by omega)) (Below.refl _ _) (Nat.le_refl _) ?_; intro v140 w6 ho7 hb hg_ hnew_; clear hg_ hnew_; (first | rw [← Ny139.out] at ho7 | (simp only [Int.reduceToNat] at ho7; rw [← Ny139.out] at ho7)); have n0_ := Aside0.mk (Kd.R_lower ho7 (below_size (by repeat (first | (with_reducible first | exact HB.out | apply below_alloc | apply pw_below_drewN | apply below_drew1) | exact HB.out)))); have n1_ := Aside0.mk (below_step (by repeat (first | (with_reducible first | exact HB.out | apply below_alloc | apply pw_below_drewN | apply below_drew1) | exact HB.out)) hb); clear HB; have HO141 := n0_; have HB := n1_; clear n0_ n1_; clear hb ho7; obtain ⟨Ao8, co8, eo8⟩ := Kd.R_slice HO141.out; subst eo8) | ((with_reducible refine gate_callee (f := 107) rfl ?_); refine goesL_ (some 10) rfl rfl Tryd.func107 (by kernel_rfl) rfl #[.slice Ao8 y139.length co8, .slice A0 l0.length c0] rfl (by (try simp only [List.map_toArray, List.map_cons, List.map_nil]); first | done | rfl | (simp only [List.length_drop, List.length_take]; rfl)) ?_; (with_reducible refine (hex_Encode.calls k (fun k_ => some k_ = (.slice Ao8 y139.length co8 : Value).ownBlock) (.slice Ao8 y139.length co8) y139 _ _ l0 t142 t143 w _ ?side1 ?side2 ?side3 ?side4 A5.out).mono ?_); (case side1 => repeat (first | (with_reducible first | exact HB.out | apply below_alloc | apply pw_below_drewN | apply below_drew1) | exact HB.out)); (case side2 => exact Kd.R_tight rfl HO141.out); (case side3 => exact Kd.C_kept_came (Kd.heap_int .u8) HR0.out (by repeat (first | (with_reducible first | exact HB.out | apply below_alloc | apply pw_below_drewN | apply below_drew1) | exact HB.out)) (fun k_ hs_ => (fun e_ => Kd.R_base HO141.out k_ e_.symm) hs_)); (case side4 => exact HC0.out); rintro e w9 ⟨rfl, hy0, hb, hkp⟩; refine ⟨_, rfl, ?_⟩; have n0_ := Aside0.mk (Kd.R_reok rfl hy0 (fun k_ e_ => HO141.out.1 k_ e_)); have n1_ := Aside0.mk (hb); clear HO141; clear HB; have HO141 := n0_; have HB := n1_; clear n0_ n1_; (try clear hb); (try clear hkp); (try clear hy0); have hcv10 := own_string (P := Tryd.prog) Tryd.underlying44 Tryd.underlying5 Tryd.underlying9 (Kd.own_of_R HO141.out)))
      go_ret
      exact ⟨by first | rfl | (simp [errW_none, errW_some] <;> rfl) | (simp [*, errW_none, errW_some] <;> rfl), by repeat (first | (with_reducible first | exact HB.out | apply below_alloc | apply pw_below_drewN | apply below_drew1) | exact HB.out)⟩
    · rw [if_neg c4] at H
      exact absurd H (by simp)
  · rw [if_neg c3] at H
    exact absurd H (by simp)

-- NOT PRINTED: function 48 (plumbing_Hash_String)

/-! ### zztime_Time_IsZero: function 126 -/
def zztime_Time_IsZero.f (a0_0 : Int) (a0_1 : Int) (a0_2 : Int) : Option (Bool) := if a0_0 = 0 then (some (a0_1 == 0)) else (some false)
set_option maxHeartbeats 8000000 in
set_option maxRecDepth 100000 in
theorem zztime_Time_IsZero.calls (a0_0 : Int) (a0_1 : Int) (a0_2 : Int) (r : Bool) (w : World) (h : zztime_Time_IsZero.f a0_0 a0_1 a0_2 = some r) :
    Calls Tryd.prog 126 #[.agg #[.int .i64 a0_0, .int .i64 a0_1, .int .i64 a0_2]] w fun e w' => e = .returned (.bool r) ∧ Below w.heap.size w w' := by
  have hu132 := Tryd.underlying132
  have HB := Aside0.mk (Below.refl w.heap.size w)
  have H : (if a0_0 = 0 then (some (a0_1 == 0)) else (some false)) = some r := h
  clear h
  by_cases c2 : a0_0 = 0
  · rw [if_pos c2] at H
    have c2b0 : (a0_0 == 0) = true := beq_iff_eq.mpr c2
    have c2b1 : (a0_0 != 0) = false := bne_eq_false_iff_eq.mpr c2
    clear c2
    obtain rfl := Option.some.inj H
    go_enter Tryd.func126, Tryd.ntmps126
    go_wp2_with (first | ((with_reducible refine gate_dst (N := 1) rfl ?_); refine box_event ?hg (N := 1) ?hd (cs := #[.int .i64 a0_0, .int .i64 a0_1, .int .i64 a0_2]) (t := 132) ?hr ?_; (case hd => rfl); (case hg => rfl); (case hr => first | (go_simp; done) | (go_simp; rfl)); intro gb144 hg w3 hbox hb; have n0_ := Aside0.mk (below_step (by repeat (first | (with_reducible first | exact HB.out | apply below_alloc | apply pw_below_drewN | apply below_drew1) | exact HB.out)) hb); have n1_ := Aside0.mk (hbox); have n2_ := Aside0.mk ((by rw [hg]; exact (below_size (by repeat (first | (with_reducible first | exact HB.out | apply below_alloc | apply pw_below_drewN | apply below_drew1) | exact HB.out))) : w.heap.size ≤ gb144)); have n3_ := Aside0.mk ((by rw [hg]; exact (below_size (by repeat (first | (with_reducible first | exact HB.out | apply below_alloc | apply pw_below_drewN | apply below_drew1) | exact HB.out))) : w.heap.size ≤ gb144)); clear HB; have HB := n0_; have BK144 := n1_; have GW144 := n2_; have GE144 := n3_; clear n0_ n1_ n2_ n3_; clear hb hbox hg; have hcz4_0 : w3.cell? ⟨gb144, 0, none⟩ = some (.int .i64 a0_0) := (blk_cell BK144.out 0).trans rfl; have hcz4_1 : w3.cell? ⟨gb144, 1, none⟩ = some (.int .i64 a0_1) := (blk_cell BK144.out 1).trans rfl; have hcz4_2 : w3.cell? ⟨gb144, 2, none⟩ = some (.int .i64 a0_2) := (blk_cell BK144.out 2).trans rfl; have hfz4_0 := blk_frozen BK144.out 0; have hfz4_1 := blk_frozen BK144.out 1; have hfz4_2 := blk_frozen BK144.out 2))
    go_ret
    exact ⟨by first | rfl | (simp [errW_none, errW_some] <;> rfl) | (simp [*, errW_none, errW_some] <;> rfl), by repeat (first | (with_reducible first | exact HB.out | apply below_alloc | apply pw_below_drewN | apply below_drew1 | refine below_set ?_ GE144.out) | exact HB.out)⟩
  · rw [if_neg c2] at H
    have c2b0 : (a0_0 == 0) = false := beq_eq_false_iff_ne.mpr c2
    have c2b1 : (a0_0 != 0) = true := bne_iff_ne.mpr c2
    obtain rfl := Option.some.inj H
    go_enter Tryd.func126, Tryd.ntmps126
    go_wp2_with (first | ((with_reducible refine gate_dst (N := 1) rfl ?_); refine box_event ?hg (N := 1) ?hd (cs := #[.int .i64 a0_0, .int .i64 a0_1, .int .i64 a0_2]) (t := 132) ?hr ?_; (case hd => rfl); (case hg => rfl); (case hr => first | (go_simp; done) | (go_simp; rfl)); intro gb144 hg w5 hbox hb; have n0_ := Aside0.mk (below_step (by repeat (first | (with_reducible first | exact HB.out | apply below_alloc | apply pw_below_drewN | apply below_drew1) | exact HB.out)) hb); have n1_ := Aside0.mk (hbox); have n2_ := Aside0.mk ((by rw [hg]; exact (below_size (by repeat (first | (with_reducible first | exact HB.out | apply below_alloc | apply pw_below_drewN | apply below_drew1) | exact HB.out))) : w.heap.size ≤ gb144)); have n3_ := Aside0.mk ((by rw [hg]; exact (below_size (by repeat (first | (with_reducible first | exact HB.out | apply below_alloc | apply pw_below_drewN | apply below_drew1) | exact HB.out))) : w.heap.size ≤ gb144)); clear HB; have HB := n0_; have BK144 := n1_; have GW144 := n2_; have GE144 := n3_; clear n0_ n1_ n2_ n3_; clear hb hbox hg; have hcz6_0 : w5.cell? ⟨gb144, 0, none⟩ = some (.int .i64 a0_0) := (blk_cell BK144.out 0).trans rfl; have hcz6_1 : w5.cell? ⟨gb144, 1, none⟩ = some (.int .i64 a0_1) := (blk_cell BK144.out 1).trans rfl; have hcz6_2 : w5.cell? ⟨gb144, 2, none⟩ = some (.int .i64 a0_2) := (blk_cell BK144.out 2).trans rfl; have hfz6_0 := blk_frozen BK144.out 0; have hfz6_1 := blk_frozen BK144.out 1; have hfz6_2 := blk_frozen BK144.out 2))
    go_ret
    exact ⟨by first | rfl | (simp [errW_none, errW_some] <;> rfl) | (simp [*, errW_none, errW_some] <;> rfl), by repeat (first | (with_reducible first | exact HB.out | apply below_alloc | apply pw_below_drewN | apply below_drew1 | refine below_set ?_ GE144.out) | exact HB.out)⟩

/-! ### zztime_Time_Unix: function 127 -/
def zztime_Time_Unix.f (a0_0 : Int) (a0_1 : Int) (a0_2 : Int) : Option (Int) := some (wrap64 (a0_0 - 62135596800))
set_option maxHeartbeats 8000000 in
set_option maxRecDepth 100000 in
theorem zztime_Time_Unix.calls (a0_0 : Int) (a0_1 : Int) (a0_2 : Int) (r : Int) (w : World) (h : zztime_Time_Unix.f a0_0 a0_1 a0_2 = some r) :
    Calls Tryd.prog 127 #[.agg #[.int .i64 a0_0, .int .i64 a0_1, .int .i64 a0_2]] w fun e w' => e = .returned (.int .i64 r) ∧ Below w.heap.size w w' := by
  have hu132 := Tryd.underlying132
  have HB := Aside0.mk (Below.refl w.heap.size w)
  have H : (some (wrap64 (a0_0 - 62135596800))) = some r := h
  clear h
  obtain rfl := Option.some.inj H
  go_enter Tryd.func127, Tryd.ntmps127
  go_wp2_with (first | ((with_reducible refine gate_dst (N := 1) rfl ?_); refine box_event ?hg (N := 1) ?hd (cs := #[.int .i64 a0_0, .int .i64 a0_1, .int .i64 a0_2]) (t := 132) ?hr ?_; (case hd => rfl); (case hg => rfl); (case hr => first | (go_simp; done) | (go_simp; rfl)); intro gb145 hg w2 hbox hb; have n0_ := Aside0.mk (below_step (by repeat (first | (with_reducible first | exact HB.out | apply below_alloc | apply pw_below_drewN | apply below_drew1) | exact HB.out)) hb); have n1_ := Aside0.mk (hbox); have n2_ := Aside0.mk ((by rw [hg]; exact (below_size (by repeat (first | (with_reducible first | exact HB.out | apply below_alloc | apply pw_below_drewN | apply below_drew1) | exact HB.out))) : w.heap.size ≤ gb145)); have n3_ := Aside0.mk ((by rw [hg]; exact (below_size (by repeat (first | (with_reducible first | exact HB.out | apply below_alloc | apply pw_below_drewN | apply below_drew1) | exact HB.out))) : w.heap.size ≤ gb145)); clear HB; have HB := n0_; have BK145 := n1_; have GW145 := n2_; have GE145 := n3_; clear n0_ n1_ n2_ n3_; clear hb hbox hg; have hcz3_0 : w2.cell? ⟨gb145, 0, none⟩ = some (.int .i64 a0_0) := (blk_cell BK145.out 0).trans rfl; have hcz3_1 : w2.cell? ⟨gb145, 1, none⟩ = some (.int .i64 a0_1) := (blk_cell BK145.out 1).trans rfl; have hcz3_2 : w2.cell? ⟨gb145, 2, none⟩ = some (.int .i64 a0_2) := (blk_cell BK145.out 2).trans rfl; have hfz3_0 := blk_frozen BK145.out 0; have hfz3_1 := blk_frozen BK145.out 1; have hfz3_2 := blk_frozen BK145.out 2))
  go_ret
  exact ⟨by first | rfl | (simp [errW_none, errW_some] <;> rfl) | (simp [*, errW_none, errW_some] <;> rfl), by repeat (first | (with_reducible first | exact HB.out | apply below_alloc | apply pw_below_drewN | apply below_drew1 | refine below_set ?_ GE145.out) | exact HB.out)⟩

/-! ### zztime_Time_Nanosecond: function 128 -/
def zztime_Time_Nanosecond.f (a0_0 : Int) (a0_1 : Int) (a0_2 : Int) : Option (Int) := some a0_1
set_option maxHeartbeats 8000000 in
set_option maxRecDepth 100000 in
theorem zztime_Time_Nanosecond.calls (a0_0 : Int) (a0_1 : Int) (a0_2 : Int) (r : Int) (w : World) (h : zztime_Time_Nanosecond.f a0_0 a0_1 a0_2 = some r) :
    Calls Tryd.prog 128 #[.agg #[.int .i64 a0_0, .int .i64 a0_1, .int .i64 a0_2]] w fun e w' => e = .returned (.int .i64 r) ∧ Below w.heap.size w w' := by
  have hu132 := Tryd.underlying132
  have HB := Aside0.mk (Below.refl w.heap.size w)
  have H : (some a0_1) = some r := h
  clear h
  obtain rfl := Option.some.inj H
  go_enter Tryd.func128, Tryd.ntmps128
  go_wp2_with (first | ((with_reducible refine gate_dst (N := 1) rfl ?_); refine box_event ?hg (N := 1) ?hd (cs := #[.int .i64 a0_0, .int .i64 a0_1, .int .i64 a0_2]) (t := 132) ?hr ?_; (case hd => rfl); (case hg => rfl); (case hr => first | (go_simp; done) | (go_simp; rfl)); intro gb146 hg w2 hbox hb; have n0_ := Aside0.mk (below_step (by repeat (first | (with_reducible first | exact HB.out | apply below_alloc | apply pw_below_drewN | apply below_drew1) | exact HB.out)) hb); have n1_ := Aside0.mk (hbox); have n2_ := Aside0.mk ((by rw [hg]; exact (below_size (by repeat (first | (with_reducible first | exact HB.out | apply below_alloc | apply pw_below_drewN | apply below_drew1) | exact HB.out))) : w.heap.size ≤ gb146)); have n3_ := Aside0.mk ((by rw [hg]; exact (below_size (by repeat (first | (with_reducible first | exact HB.out | apply below_alloc | apply pw_below_drewN | apply below_drew1) | exact HB.out))) : w.heap.size ≤ gb146)); clear HB; have HB := n0_; have BK146 := n1_; have GW146 := n2_; have GE146 := n3_; clear n0_ n1_ n2_ n3_; clear hb hbox hg; have hcz3_0 : w2.cell? ⟨gb146, 0, none⟩ = some (.int .i64 a0_0) := (blk_cell BK146.out 0).trans rfl; have hcz3_1 : w2.cell? ⟨gb146, 1, none⟩ = some (.int .i64 a0_1) := (blk_cell BK146.out 1).trans rfl; have hcz3_2 : w2.cell? ⟨gb146, 2, none⟩ = some (.int .i64 a0_2) := (blk_cell BK146.out 2).trans rfl; have hfz3_0 := blk_frozen BK146.out 0; have hfz3_1 := blk_frozen BK146.out 1; have hfz3_2 := blk_frozen BK146.out 2))
  go_ret
  exact ⟨by first | rfl | (simp [errW_none, errW_some] <;> rfl) | (simp [*, errW_none, errW_some] <;> rfl), by repeat (first | (with_reducible first | exact HB.out | apply below_alloc | apply pw_below_drewN | apply below_drew1 | refine below_set ?_ GE146.out) | exact HB.out)⟩

/-! ### impl_stampOf: function 109 -/
def impl_stampOf.f (a0_0 : Int) (a0_1 : Int) (a0_2 : Int) : Option (Int × Int) := (zztime_Time_IsZero.f a0_0 a0_1 a0_2).bind fun t149 => (if t149 = true then (some (0, 0)) else ((zztime_Time_Unix.f a0_0 a0_1 a0_2).bind fun t150 => ((zztime_Time_Nanosecond.f a0_0 a0_1 a0_2).bind fun t151 => (some (t150, t151)))))
set_option maxHeartbeats 8000000 in
set_option maxRecDepth 100000 in
theorem impl_stampOf.calls (a0_0 : Int) (a0_1 : Int) (a0_2 : Int) (r1 : Int) (r2 : Int) (w : World) (h : impl_stampOf.f a0_0 a0_1 a0_2 = some (r1, r2)) :
    Calls Tryd.prog 109 #[.agg #[.int .i64 a0_0, .int .i64 a0_1, .int .i64 a0_2]] w fun e w' => e = .returned (.agg #[.int .i64 r1, .int .i64 r2]) ∧ Below w.heap.size w w' := by
  have hu132 := Tryd.underlying132
  have hu32 := Tryd.underlying32
  have HB := Aside0.mk (Below.refl w.heap.size w)
  have H : ((zztime_Time_IsZero.f a0_0 a0_1 a0_2).bind fun t149 => (if t149 = true then (some (0, 0)) else ((zztime_Time_Unix.f a0_0 a0_1 a0_2).bind fun t150 => ((zztime_Time_Nanosecond.f a0_0 a0_1 a0_2).bind fun t151 => (some (t150, t151)))))) = some (r1, r2) := h
  clear h
  replace H := Option.bind_eq_some_iff.mp H
  obtain ⟨t149, A20, H⟩ := H
  replace H : (if t149 = true then (some (0, 0)) else ((zztime_Time_Unix.f a0_0 a0_1 a0_2).bind fun t150 => ((zztime_Time_Nanosecond.f a0_0 a0_1 a0_2).bind fun t151 => (some (t150, t151))))) = some (r1, r2) := H
  have A2 := Aside0.mk A20
  clear A20
  by_cases c3 : t149 = true
  · subst c3
    have H1 : (some (0, 0)) = some (r1, r2) := by rw [if_pos rfl] at H; exact H
    clear H
    have H := H1
    clear H1
    simp only [Option.some.injEq, Prod.mk.injEq] at H
    obtain ⟨rfl, rfl⟩ := H
    go_enter Tryd.func109, Tryd.ntmps109
    go_wp2_with (first | ((with_reducible refine gate_dst (N := 1) rfl ?_); refine box_event ?hg (N := 1) ?hd (cs := #[.int .i64 a0_0, .int .i64 a0_1, .int .i64 a0_2]) (t := 132) ?hr ?_; (case hd => rfl); (case hg => rfl); (case hr => first | (go_simp; done) | (go_simp; rfl)); intro gb147 hg w4 hbox hb; have n0_ := Aside0.mk (below_step (by repeat (first | (with_reducible first | exact HB.out | apply below_alloc | apply pw_below_drewN | apply below_drew1) | exact HB.out)) hb); have n1_ := Aside0.mk (hbox); have n2_ := Aside0.mk ((by rw [hg]; exact (below_size (by repeat (first | (with_reducible first | exact HB.out | apply below_alloc | apply pw_below_drewN | apply below_drew1) | exact HB.out))) : w.heap.size ≤ gb147)); have n3_ := Aside0.mk ((by rw [hg]; exact (below_size (by repeat (first | (with_reducible first | exact HB.out | apply below_alloc | apply pw_below_drewN | apply below_drew1) | exact HB.out))) : w.heap.size ≤ gb147)); clear HB; have HB := n0_; have BK147 := n1_; have GW147 := n2_; have GE147 := n3_; clear n0_ n1_ n2_ n3_; clear hb hbox hg) | ((with_reducible refine gate_dst (N := 2) rfl ?_); refine box_event ?hg (N := 2) ?hd (cs := #[.int .i64 0, .int .i64 0]) (t := 32) ?hr ?_; (case hd => rfl); (case hg => rfl); (case hr => first | (go_simp; done) | (go_simp; rfl)); intro gb148 hg w5 hbox hb; have n0_ := Aside0.mk (blk_below (g := gb147) (o := .cells #[.int .i64 a0_0, .int .i64 a0_1, .int .i64 a0_2] 132 (0, 0)) (by (with_reducible repeat (first | refine blk_drewN ?_ _ | refine blk_drew ?_ | refine blk_alloc ?_ _)); exact BK147.out) hb); have n1_ := Aside0.mk (below_step (by repeat (first | (with_reducible first | exact HB.out | apply below_alloc | apply pw_below_drewN | apply below_drew1 | refine below_set ?_ GE147.out) | exact HB.out)) hb); have n2_ := Aside0.mk (hbox); have n3_ := Aside0.mk ((by rw [hg]; exact (below_size (by repeat (first | (with_reducible first | exact HB.out | apply below_alloc | apply pw_below_drewN | apply below_drew1 | refine below_set ?_ GE147.out) | exact HB.out))) : w.heap.size ≤ gb148)); have n4_ := Aside0.mk ((by rw [hg]; exact (below_size (by repeat (first | (with_reducible first | exact HB.out | apply below_alloc | apply pw_below_drewN | apply below_drew1 | refine below_set ?_ GE147.out) | exact HB.out))) : w.heap.size ≤ gb148)); have n5_ := Aside0.mk ((by rw [hg]; exact Nat.ne_of_lt (blk_lt (g := gb147) (o := .cells #[.int .i64 a0_0, .int .i64 a0_1, .int .i64 a0_2] 132 (0, 0)) (by (with_reducible repeat (first | refine blk_drewN ?_ _ | refine blk_drew ?_ | refine blk_alloc ?_ _)); exact BK147.out)) : gb147 ≠ gb148)); have n6_ := Aside0.mk ((by rw [hg]; exact Nat.ne_of_gt (blk_lt (g := gb147) (o := .cells #[.int .i64 a0_0, .int .i64 a0_1, .int .i64 a0_2] 132 (0, 0)) (by (with_reducible repeat (first | refine blk_drewN ?_ _ | refine blk_drew ?_ | refine blk_alloc ?_ _)); exact BK147.out)) : gb148 ≠ gb147)); clear BK147; clear HB; have BK147 := n0_; have HB := n1_; have BK148 := n2_; have GW148 := n3_; have GE148 := n4_; have NB147_148 := n5_; have NB148_147 := n6_; clear n0_ n1_ n2_ n3_ n4_ n5_ n6_; clear hb hbox hg; have hnb6 := NB147_148.out; have hnc6 := NB148_147.out; have hcz7_0 : w5.cell? ⟨gb147, 0, none⟩ = some (.int .i64 a0_0) := (blk_cell BK147.out 0).trans rfl; have hcz7_1 : w5.cell? ⟨gb147, 1, none⟩ = some (.int .i64 a0_1) := (blk_cell BK147.out 1).trans rfl; have hcz7_2 : w5.cell? ⟨gb147, 2, none⟩ = some (.int .i64 a0_2) := (blk_cell BK147.out 2).trans rfl; have hfz7_0 := blk_frozen BK147.out 0; have hfz7_1 := blk_frozen BK147.out 1; have hfz7_2 := blk_frozen BK147.out 2) | ((with_reducible refine gate_callee (f := 126) rfl ?_); refine goesL_ (some 4) rfl rfl Tryd.func126 (by kernel_rfl) rfl #[.agg #[.int .i64 a0_0, .int .i64 a0_1, .int .i64 a0_2]] rfl (by (try simp only [List.map_toArray, List.map_cons, List.map_nil]); first | done | rfl | (simp only [List.length_drop, List.length_take]; rfl)) ?_; (with_reducible refine (zztime_Time_IsZero.calls a0_0 a0_1 a0_2 true _ A2.out).mono ?_); rintro e w8 ⟨rfl, hb⟩; refine ⟨_, rfl, ?_⟩; have n0_ := Aside0.mk (blk_below (g := gb147) (o := .cells #[.int .i64 a0_0, .int .i64 a0_1, .int .i64 a0_2] 132 (0, 0)) (by (with_reducible repeat (first | refine blk_drewN ?_ _ | refine blk_drew ?_ | refine blk_alloc ?_ _)); exact BK147.out) hb); have n1_ := Aside0.mk (blk_below (g := gb148) (o := .cells #[.int .i64 0, .int .i64 0] 32 (0, 0)) (by (with_reducible repeat (first | refine blk_drewN ?_ _ | refine blk_drew ?_ | refine blk_alloc ?_ _)); exact BK148.out) hb); have n2_ := Aside0.mk (below_step (by repeat (first | (with_reducible first | exact HB.out | apply below_alloc | apply pw_below_drewN | apply below_drew1 | refine below_set ?_ GE147.out | refine below_set ?_ GE148.out) | exact HB.out)) hb); clear BK147; clear BK148; clear HB; have BK147 := n0_; have BK148 := n1_; have HB := n2_; clear n0_ n1_ n2_; (try clear hb); (try clear hb2); (try clear hk); (try clear hi); have hcz9_0 : w8.cell? ⟨gb148, 0, none⟩ = some (.int .i64 0) := (blk_cell BK148.out 0).trans rfl; have hcz9_1 : w8.cell? ⟨gb148, 1, none⟩ = some (.int .i64 0) := (blk_cell BK148.out 1).trans rfl; have hfz9_0 := blk_frozen BK148.out 0; have hfz9_1 := blk_frozen BK148.out 1))
    refine bodyPost_ret (results_cell_row rfl _ _ gb148 32 #[.int .i64 0, .int .i64 0] (0, 0) _ rfl (by (with_reducible repeat (first | refine blk_drewN ?_ _ | refine blk_drew ?_ | refine blk_alloc ?_ _)); refine blk_put (cs := #[.int .i64 0, .int .i64 0]) ?_ 1 _ rfl; (with_reducible repeat (first | refine blk_drewN ?_ _ | refine blk_drew ?_ | refine blk_alloc ?_ _)); refine blk_put (cs := #[.int .i64 0, .int .i64 0]) ?_ 0 _ rfl; (with_reducible repeat (first | refine blk_drewN ?_ _ | refine blk_drew ?_ | refine blk_alloc ?_ _)); exact BK148.out) Tryd.underlying32 rfl (by kernel_rfl)) rfl ?_
    exact ⟨by first | rfl | (simp [errW_none, errW_some] <;> rfl) | (simp [*, errW_none, errW_some] <;> rfl), by repeat (first | (with_reducible first | exact HB.out | apply below_alloc | apply pw_below_drewN | apply below_drew1 | refine below_set ?_ GE147.out | refine below_set ?_ GE148.out) | exact HB.out)⟩
  · replace c3 := Bool.eq_false_iff.mpr c3
    subst c3
    have H1 : ((zztime_Time_Unix.f a0_0 a0_1 a0_2).bind fun t150 => ((zztime_Time_Nanosecond.f a0_0 a0_1 a0_2).bind fun t151 => (some (t150, t151)))) = some (r1, r2) := by rw [if_neg (show ¬ (false = true) by decide)] at H; exact H
    clear H
    have H := H1
    clear H1
    replace H := Option.bind_eq_some_iff.mp H
    obtain ⟨t150, A100, H⟩ := H
    replace H : ((zztime_Time_Nanosecond.f a0_0 a0_1 a0_2).bind fun t151 => (some (t150, t151))) = some (r1, r2) := H
    have A10 := Aside0.mk A100
    clear A100
    replace H := Option.bind_eq_some_iff.mp H
    obtain ⟨t151, A110, H⟩ := H
    replace H : (some (t150, t151)) = some (r1, r2) := H
    have A11 := Aside0.mk A110
    clear A110
    simp only [Option.some.injEq, Prod.mk.injEq] at H
    obtain ⟨rfl, rfl⟩ := H
    go_enter Tryd.func109, Tryd.ntmps109
    try go_wp2_with (first | ((with_reducible refine gate_dst (N := 1) rfl ?_); refine box_event ?hg (N := 1) ?hd (cs := #[.int .i64 a0_0, .int .i64 a0_1, .int .i64 a0_2]) (t := 132) ?hr ?_; (case hd => rfl); (case hg => rfl); (case hr => first | (go_simp; done) | (go_simp; rfl)); intro gb147 hg w12 hbox hb; have n0_ := Aside0.mk (below_step (by repeat (first | (with_reducible first | exact HB.out | apply below_alloc | apply pw_below_drewN | apply below_drew1) | exact HB.out)) hb); have n1_ := Aside0.mk (hbox); have n2_ := Aside0.mk ((by rw [hg]; exact (below_size (by repeat (first | (with_reducible first | exact HB.out | apply below_alloc | apply pw_below_drewN | apply below_drew1) | exact HB.out))) : w.heap.size ≤ gb147)); have n3_ := Aside0.mk ((by rw [hg]; exact (below_size (by repeat (first | (with_reducible first | exact HB.out | apply below_alloc | apply pw_below_drewN | apply below_drew1) | exact HB.out))) : w.heap.size ≤ gb147)); clear HB; have HB := n0_; have BK147 := n1_; have GW147 := n2_; have GE147 := n3_; clear n0_ n1_ n2_ n3_; clear hb hbox hg) | ((with_reducible refine gate_dst (N := 2) rfl ?_); refine box_event ?hg (N := 2) ?hd (cs := #[.int .i64 0, .int .i64 0]) (t := 32) ?hr ?_; (case hd => rfl); (case hg => rfl); (case hr => first | (go_simp; done) | (go_simp; rfl)); intro gb148 hg w13 hbox hb; have n0_ := Aside0.mk (blk_below (g := gb147) (o := .cells #[.int .i64 a0_0, .int .i64 a0_1, .int .i64 a0_2] 132 (0, 0)) (by (with_reducible repeat (first | refine blk_drewN ?_ _ | refine blk_drew ?_ | refine blk_alloc ?_ _)); exact BK147.out) hb); have n1_ := Aside0.mk (below_step (by repeat (first | (with_reducible first | exact HB.out | apply below_alloc | apply pw_below_drewN | apply below_drew1 | refine below_set ?_ GE147.out) | exact HB.out)) hb); have n2_ := Aside0.mk (hbox); have n3_ := Aside0.mk ((by rw [hg]; exact (below_size (by repeat (first | (with_reducible first | exact HB.out | apply below_alloc | apply pw_below_drewN | apply below_drew1 | refine below_set ?_ GE147.out) | exact HB.out))) : w.heap.size ≤ gb148)); have n4_ := Aside0.mk ((by rw [hg]; exact (below_size (by repeat (first | (with_reducible first | exact HB.out | apply below_alloc | apply pw_below_drewN | apply below_drew1 | refine below_set ?_ GE147.out) | exact HB.out))) : w.heap.size ≤ gb148)); have n5_ := Aside0.mk ((by rw [hg]; exact Nat.ne_of_lt (blk_lt (g := gb147) (o := .cells #[.int .i64 a0_0, .int .i64 a0_1, .int .i64 a0_2] 132 (0, 0)) (by (with_reducible repeat (first | refine blk_drewN ?_ _ | refine blk_drew ?_ | refine blk_alloc ?_ _)); exact BK147.out)) : gb147 ≠ gb148)); have n6_ := Aside0.mk ((by rw [hg]; exact Nat.ne_of_gt (blk_lt (g := gb147) (o := .cells #[.int .i64 a0_0, .int .i64 a0_1, .int .i64 a0_2] 132 (0, 0)) (by (with_reducible repeat (first | refine blk_drewN ?_ _ | refine blk_drew ?_ | refine blk_alloc ?_ _)); exact BK147.out)) : gb148 ≠ gb147)); clear BK147; clear HB; have BK147 := n0_; have HB := n1_; have BK148 := n2_; have GW148 := n3_; have GE148 := n4_; have NB147_148 := n5_; have NB148_147 := n6_; clear n0_ n1_ n2_ n3_ n4_ n5_ n6_; clear hb hbox hg; have hnb14 := NB147_148.out; have hnc14 := NB148_147.out; have hcz15_0 : w13.cell? ⟨gb147, 0, none⟩ = some (.int .i64 a0_0) := (blk_cell BK147.out 0).trans rfl; have hcz15_1 : w13.cell? ⟨gb147, 1, none⟩ = some (.int .i64 a0_1) := (blk_cell BK147.out 1).trans rfl; have hcz15_2 : w13.cell? ⟨gb147, 2, none⟩ = some (.int .i64 a0_2) := (blk_cell BK147.out 2).trans rfl; have hfz15_0 := blk_frozen BK147.out 0; have hfz15_1 := blk_frozen BK147.out 1; have hfz15_2 := blk_frozen BK147.out 2) | ((with_reducible refine gate_callee (f := 126) rfl ?_); refine goesL_ (some 4) rfl rfl Tryd.func126 (by kernel_rfl) rfl #[.agg #[.int .i64 a0_0, .int .i64 a0_1, .int .i64 a0_2]] rfl (by (try simp only [List.map_toArray, List.map_cons, List.map_nil]); first | done | rfl | (simp only [List.length_drop, List.length_take]; rfl)) ?_; (with_reducible refine (zztime_Time_IsZero.calls a0_0 a0_1 a0_2 false _ A2.out).mono ?_); rintro e w16 ⟨rfl, hb⟩; refine ⟨_, rfl, ?_⟩; have n0_ := Aside0.mk (blk_below (g := gb147) (o := .cells #[.int .i64 a0_0, .int .i64 a0_1, .int .i64 a0_2] 132 (0, 0)) (by (with_reducible repeat (first | refine blk_drewN ?_ _ | refine blk_drew ?_ | refine blk_alloc ?_ _)); exact BK147.out) hb); have n1_ := Aside0.mk (blk_below (g := gb148) (o := .cells #[.int .i64 0, .int .i64 0] 32 (0, 0)) (by (with_reducible repeat (first | refine blk_drewN ?_ _ | refine blk_drew ?_ | refine blk_alloc ?_ _)); exact BK148.out) hb); have n2_ := Aside0.mk (below_step (by repeat (first | (with_reducible first | exact HB.out | apply below_alloc | apply pw_below_drewN | apply below_drew1 | refine below_set ?_ GE147.out | refine below_set ?_ GE148.out) | exact HB.out)) hb); clear BK147; clear BK148; clear HB; have BK147 := n0_; have BK148 := n1_; have HB := n2_; clear n0_ n1_ n2_; (try clear hb); (try clear hb2); (try clear hk); (try clear hi)))
    have n0_ := Aside0.mk (blk_drew BK147.out)
    have n1_ := Aside0.mk (blk_drew BK148.out)
    have n2_ := Aside0.mk (below_drew1 HB.out)
    clear BK147
    clear BK148
    clear HB
    have BK147 := n0_
    have BK148 := n1_
    have HB := n2_
    clear n0_ n1_ n2_
    refine start_ (n := 6) (S := fun w' => w'.cell? ⟨gb147, 0, none⟩ = some (.int .i64 a0_0) ∧ w'.cell? ⟨gb147, 1, none⟩ = some (.int .i64 a0_1) ∧ w'.cell? ⟨gb147, 2, none⟩ = some (.int .i64 a0_2)) (ds := []) #[false, false, false, false, false, false] (by kernel_rfl) rfl rfl ⟨(blk_cell BK147.out 0).trans rfl, (blk_cell BK147.out 1).trans rfl, (blk_cell BK147.out 2).trans rfl⟩ (fun hHeld => ?_)
    generalize w16.drew = w17 at BK147 BK148 HB hHeld ⊢
    refine take_ (i := 0) (N := some 6) (v := ?_) (a' := ?_) #[true, false, false, false, false, false] rfl rfl (by kernel_rfl) (fun _ _ _ h => h) (Or.inl ⟨by rfl, ?_⟩) hHeld ?_ ?_
    rotate_left
    · rintro w' ⟨s0, s1, s2⟩
      go_simp
      with_reducible rfl
    rotate_left
    · simp only [Act.put, List.setIfInBounds_toArray, List.set_cons_zero, List.set_cons_succ, i64_w, i32_w]
      rfl
    refine take_ (i := 2) (N := some 8) (v := ?_) (a' := ?_) #[true, false, true, false, false, false] rfl rfl (by kernel_rfl) (fun _ _ _ h => h) (Or.inl ⟨by rfl, ?_⟩) hHeld ?_ ?_
    rotate_left
    · rintro w' ⟨s0, s1, s2⟩
      go_simp
      with_reducible rfl
    rotate_left
    · simp only [Act.put, List.setIfInBounds_toArray, List.set_cons_zero, List.set_cons_succ, i64_w, i32_w]
      rfl
    refine one_ (i := 1) (N := some 7) #[true, true, true, false, false, false] rfl rfl (by kernel_rfl) (by decide) (fun K hK => ?_)
    refine goes_ Tryd.func127 (by kernel_rfl) rfl #[.agg #[.int .i64 a0_0, .int .i64 a0_1, .int .i64 a0_2]] (by rfl) rfl rfl (by (try simp only [List.map_toArray, List.map_cons, List.map_nil]); first | done | rfl | (simp only [List.length_drop, List.length_take]; rfl)) ?_
    with_reducible refine (zztime_Time_Unix.calls a0_0 a0_1 a0_2 t150 _ A10.out).mono ?_
    rintro e w18 ⟨rfl, hb⟩
    refine ⟨_, rfl, ?_⟩
    have n0_ := Aside0.mk (blk_below (g := gb147) (o := .cells #[.int .i64 a0_0, .int .i64 a0_1, .int .i64 a0_2] 132 (0, 0)) (by (with_reducible repeat (first | refine blk_drewN ?_ _ | refine blk_drew ?_ | refine blk_alloc ?_ _)); exact BK147.out) hb)
    have n1_ := Aside0.mk (blk_below (g := gb148) (o := .cells #[.int .i64 0, .int .i64 0] 32 (0, 0)) (by (with_reducible repeat (first | refine blk_drewN ?_ _ | refine blk_drew ?_ | refine blk_alloc ?_ _)); exact BK148.out) hb)
    have n2_ := Aside0.mk (below_step (by repeat (first | (with_reducible first | exact HB.out | apply below_alloc | apply pw_below_drewN | apply below_drew1 | refine below_set ?_ GE147.out | refine below_set ?_ GE148.out) | exact HB.out)) hb)
    clear BK147
    clear BK148
    clear HB
    have BK147 := n0_
    have BK148 := n1_
    have HB := n2_
    clear n0_ n1_ n2_
    (try clear hb)
    (try clear hb2)
    (try clear hk)
    (try clear hi)
    refine hK.out _ _ ⟨(blk_cell BK147.out 0).trans rfl, (blk_cell BK147.out 1).trans rfl, (blk_cell BK147.out 2).trans rfl⟩ (fun hHeld => ?_)
    clear hK K
    refine norm_ (a' := ?_) ?_ ?_
    rotate_left
    · show Act.put _ (some 7) _ = _
      simp only [Act.put, List.setIfInBounds_toArray, List.set_cons_zero, List.set_cons_succ, i64_w, i32_w]
      rfl
    refine one_ (i := 3) (N := some 9) #[true, true, true, true, false, false] rfl rfl (by kernel_rfl) (by decide) (fun K hK => ?_)
    refine goes_ Tryd.func128 (by kernel_rfl) rfl #[.agg #[.int .i64 a0_0, .int .i64 a0_1, .int .i64 a0_2]] (by rfl) rfl rfl (by (try simp only [List.map_toArray, List.map_cons, List.map_nil]); first | done | rfl | (simp only [List.length_drop, List.length_take]; rfl)) ?_
    with_reducible refine (zztime_Time_Nanosecond.calls a0_0 a0_1 a0_2 t151 _ A11.out).mono ?_
    rintro e w19 ⟨rfl, hb⟩
    refine ⟨_, rfl, ?_⟩
    have n0_ := Aside0.mk (blk_below (g := gb147) (o := .cells #[.int .i64 a0_0, .int .i64 a0_1, .int .i64 a0_2] 132 (0, 0)) (by (with_reducible repeat (first | refine blk_drewN ?_ _ | refine blk_drew ?_ | refine blk_alloc ?_ _)); exact BK147.out) hb)
    have n1_ := Aside0.mk (blk_below (g := gb148) (o := .cells #[.int .i64 0, .int .i64 0] 32 (0, 0)) (by (with_reducible repeat (first | refine blk_drewN ?_ _ | refine blk_drew ?_ | refine blk_alloc ?_ _)); exact BK148.out) hb)
    have n2_ := Aside0.mk (below_step (by repeat (first | (with_reducible first | exact HB.out | apply below_alloc | apply pw_below_drewN | apply below_drew1 | refine below_set ?_ GE147.out | refine below_set ?_ GE148.out) | exact HB.out)) hb)
    clear BK147
    clear BK148
    clear HB
    have BK147 := n0_
    have BK148 := n1_
    have HB := n2_
    clear n0_ n1_ n2_
    (try clear hb)
    (try clear hb2)
    (try clear hk)
    (try clear hi)
    refine hK.out _ _ ⟨(blk_cell BK147.out 0).trans rfl, (blk_cell BK147.out 1).trans rfl, (blk_cell BK147.out 2).trans rfl⟩ (fun hHeld => ?_)
    clear hK K
    refine norm_ (a' := ?_) ?_ ?_
    rotate_left
    · show Act.put _ (some 9) _ = _
      simp only [Act.put, List.setIfInBounds_toArray, List.set_cons_zero, List.set_cons_succ, i64_w, i32_w]
      rfl
    refine pure_ (i := 4) (N := some 10) (v := ?_) (a' := ?_) #[true, true, true, true, true, false] rfl rfl (by kernel_rfl) (fun _ _ _ h => h) (Or.inl ⟨by rfl, ?_⟩) ?_ ?_
    rotate_left
    · intro w'
      go_simp
      with_reducible rfl
    rotate_left
    · simp only [Act.put, List.setIfInBounds_toArray, List.set_cons_zero, List.set_cons_succ, i64_w, i32_w]
      rfl
    refine one_ (i := 5) (N := none) #[true, true, true, true, true, true] rfl rfl (by kernel_rfl) (by decide) (fun K hK => ?_)
    have hs20 : w19.cell? ⟨gb148, 0, none⟩ = some (.int .i64 0) := (blk_cell BK148.out 0).trans rfl
    have hfs20 := blk_frozen BK148.out 0
    have hns20_0 := NB147_148.out
    have hms20_0 := NB148_147.out
    have hs21 : w19.cell? ⟨gb148, 1, none⟩ = some (.int .i64 0) := (blk_cell BK148.out 1).trans rfl
    have hfs21 := blk_frozen BK148.out 1
    have hns21_0 := NB147_148.out
    have hms21_0 := NB148_147.out
    refine skip_ (w1 := ?_) (by rfl) rfl ?_ ?_
    rotate_left
    · go_simp
      rfl
    refine hK.out _ _ ⟨((cell_far (p := ⟨gb148, _, none⟩) NB147_148.out _).trans (((cell_far (p := ⟨gb148, _, none⟩) NB147_148.out _).trans (hHeld.1)))), ((cell_far (p := ⟨gb148, _, none⟩) NB147_148.out _).trans (((cell_far (p := ⟨gb148, _, none⟩) NB147_148.out _).trans (hHeld.2.1)))), ((cell_far (p := ⟨gb148, _, none⟩) NB147_148.out _).trans (((cell_far (p := ⟨gb148, _, none⟩) NB147_148.out _).trans (hHeld.2.2))))⟩ (fun hHeld => ?_)
    clear hK K
    refine done_ (by kernel_rfl) ?_
    try go_wp2
    refine bodyPost_ret (results_cell_row rfl _ _ gb148 32 #[.int .i64 t150, .int .i64 t151] (0, 0) _ rfl (by (with_reducible repeat (first | refine blk_drewN ?_ _ | refine blk_drew ?_ | refine blk_alloc ?_ _)); refine blk_put (cs := #[.int .i64 t150, .int .i64 0]) ?_ 1 _ rfl; (with_reducible repeat (first | refine blk_drewN ?_ _ | refine blk_drew ?_ | refine blk_alloc ?_ _)); refine blk_put (cs := #[.int .i64 0, .int .i64 0]) ?_ 0 _ rfl; (with_reducible repeat (first | refine blk_drewN ?_ _ | refine blk_drew ?_ | refine blk_alloc ?_ _)); exact BK148.out) Tryd.underlying32 rfl (by kernel_rfl)) rfl ?_
    exact ⟨by first | rfl | (simp [errW_none, errW_some] <;> rfl) | (simp [*, errW_none, errW_some] <;> rfl), by repeat (first | (with_reducible first | exact HB.out | apply below_alloc | apply pw_below_drewN | apply below_drew1 | refine below_set ?_ GE147.out | refine below_set ?_ GE148.out) | exact HB.out)⟩

-- NOT PRINTED: function 81 (impl_fileOf)

-- NOT PRINTED: function 53 (impl_filesOf)

-- NOT PRINTED: function 22 (impl_DropFile)

/-! ### spec_SameFiles: function 23 -/
def spec_SameFiles.l0 : Nat → List (S35) → List (S35) → Int → Int → Option (Bool)
  | 0, _, _, _, _ => none
  | k + 1, x0, x1, x12, x13 => if x13 < x12 then (if 0 ≤ x13 then (if x13 < (x0.length : Int) then (if x13 < (x1.length : Int) then (if ((!(((rd_T35 x0 x13).f0.f0) == ((rd_T35 x1 x13).f0.f0)) || (!(((rd_T35 x0 x13).f0.f1) == ((rd_T35 x1 x13).f0.f1)))) || ((!(((rd_T35 x0 x13).f1.f0) == ((rd_T35 x1 x13).f1.f0)) || (!(((rd_T35 x0 x13).f1.f1) == ((rd_T35 x1 x13).f1.f1)))) || (!(((rd_T35 x0 x13).f2) == ((rd_T35 x1 x13).f2)) || (!(((rd_T35 x0 x13).f3) == ((rd_T35 x1 x13).f3)) || (!(((rd_T35 x0 x13).f4) == ((rd_T35 x1 x13).f4)) || (!(((rd_T35 x0 x13).f5) == ((rd_T35 x1 x13).f5)) || (!(((rd_T35 x0 x13).f6) == ((rd_T35 x1 x13).f6)) || (!(((rd_T35 x0 x13).f7) == ((rd_T35 x1 x13).f7)) || (!((((rd_T35 x0 x13).f8).toList) == (((rd_T35 x1 x13).f8).toList)) || (!((((rd_T35 x0 x13).f9).toList) == (((rd_T35 x1 x13).f9).toList)) || (!(((rd_T35 x0 x13).f10) == ((rd_T35 x1 x13).f10)) || (!(((rd_T35 x0 x13).f11) == ((rd_T35 x1 x13).f11)) || (!(((rd_T35 x0 x13).f12) == ((rd_T35 x1 x13).f12))))))))))))))) = true then (some false) else (spec_SameFiles.l0 k x0 x1 x12 (wrap64 (x13 + 1)))) else (none)) else (none)) else (none)) else (some true)
def spec_SameFiles.f (k : Nat) (l0 : List (S35)) (l1 : List (S35)) : Option (Bool) := if (l0.length : Int) = (l1.length : Int) then (spec_SameFiles.l0 k l0 l1 (l0.length : Int) 0) else (some false)
theorem spec_SameFiles.mono_l : ∀ k, (∀ y0 y1 y2 y3, LeO (spec_SameFiles.l0 k y0 y1 y2 y3) (spec_SameFiles.l0 (k + 1) y0 y1 y2 y3))
  | 0 => fun _ _ _ _ r h => by simp [spec_SameFiles.l0] at h
  | k + 1 => by
    have ih0 := spec_SameFiles.mono_l k
    · intro y0 y1 y2 y3
      unfold spec_SameFiles.l0
      repeat' first
      | (with_reducible exact ih0 _ _ _ _)
      | (with_reducible exact LeO.refl _)
      | (with_reducible exact LeO.none _)
      | (with_reducible refine LeO.ite ?_ ?_)
      | (with_reducible refine LeO.bind ?_ (fun _ => ?_))
      | exact ih0 _ _ _ _
      | exact LeO.none _
      | refine LeO.ite ?_ ?_
      | refine LeO.bind ?_ (fun _ => ?_)
theorem spec_SameFiles.mono : ∀ a0 a1 k, LeO (spec_SameFiles.f k a0 a1) (spec_SameFiles.f (k + 1) a0 a1) := by
  intro a0 a1 k
  have ih0 := spec_SameFiles.mono_l k
  unfold spec_SameFiles.f
  repeat' first
      | (with_reducible exact ih0 _ _ _ _)
      | (with_reducible exact LeO.refl _)
      | (with_reducible exact LeO.none _)
      | (with_reducible refine LeO.ite ?_ ?_)
      | (with_reducible refine LeO.bind ?_ (fun _ => ?_))
      | exact ih0 _ _ _ _
      | exact LeO.none _
      | refine LeO.ite ?_ ?_
      | refine LeO.bind ?_ (fun _ => ?_)
set_option maxHeartbeats 8000000 in
set_option maxRecDepth 100000 in
theorem spec_SameFiles.calls (k : Nat) (A0 : Option Addr) (c0 : Nat) (l0 : List (S35)) (A1 : Option Addr) (c1 : Nat) (l1 : List (S35)) (r : Bool) (w : World) (hr0 : Kd.C k35 w A0 l0.length l0) (hc0 : l0.length ≤ c0) (hr1 : Kd.C k35 w A1 l1.length l1) (hc1 : l1.length ≤ c1) (h : spec_SameFiles.f k l0 l1 = some r) :
    Calls Tryd.prog 23 #[.slice A0 l0.length c0, .slice A1 l1.length c1] w fun e w' => e = .returned (.bool r) ∧ Drawn0 w w' := by
  have hu35 := Tryd.underlying35
  have HR0 := Aside0.mk hr0
  have HC0 := Aside0.mk hc0
  clear hr0 hc0
  have HR1 := Aside0.mk hr1
  have HC1 := Aside0.mk hc1
  clear hr1 hc1
  have H : (if (l0.length : Int) = (l1.length : Int) then (spec_SameFiles.l0 k l0 l1 (l0.length : Int) 0) else (some false)) = some r := h
  clear h
  by_cases c3 : (l0.length : Int) = (l1.length : Int)
  · rw [if_pos c3] at H
    have c3b0 : ((l0.length : Int) == (l1.length : Int)) = true := beq_iff_eq.mpr c3
    have c3b1 : ((l0.length : Int) != (l1.length : Int)) = false := bne_eq_false_iff_eq.mpr c3
    have c3b2 : (l0.length == l1.length) = true := by first | simpa using c3 | (simp at c3 ⊢; omega)
    clear c3
    have H' := Aside0.mk H
    clear H
    go_enter Tryd.func23, Tryd.ntmps23
    go_wp2
    repeat (go_quiet (fail); try go_wp2)
    go_loopg [13] k (fun kq v13 w' => ∃ (x13_1 : Int), v13 = .int .i64 x13_1 ∧ Aside0 (spec_SameFiles.l0 kq l0 l1 (l0.length : Int) x13_1 = some r) ∧ Aside0 (kq ≤ k) ∧ Drawn0 w w')
    case atStart => exact ⟨(0), (by first | rfl | (simp; done) | (simp [*]; done)), H', ⟨Nat.le_refl _⟩, by repeat (first | exact Drawn0.refl _ | apply Drawn0.step)⟩
    case round =>
      clear H'
      try clear c1
      try clear c2
      try clear p2
      try clear c3
      try clear c3b0
      try clear c3b1
      try clear c3b2
      obtain ⟨x13_1, rfl, HA, HK1, ⟨m1, rfl⟩⟩ := hrel
      cases gk with
      | zero => exact absurd HA.out (by simp [spec_SameFiles.l0])
      | succ k1 =>
        have H := HA.out
        clear HA
        simp only [spec_SameFiles.l0] at H
        by_cases c4 : x13_1 < (l0.length : Int)
        · rw [if_pos c4] at H
          have c4b0 : decide (x13_1 < (l0.length : Int)) = true := decide_eq_true c4
          clear c4
          by_cases c5 : 0 ≤ x13_1
          · rw [if_pos c5] at H
            have c5b0 : decide (0 ≤ x13_1) = true := decide_eq_true c5
            clear c5
            by_cases c6 : x13_1 < (l0.length : Int)
            · rw [if_pos c6] at H
              have c6b0 : decide (x13_1 < (l0.length : Int)) = true := decide_eq_true c6
              clear c6
              by_cases c7 : x13_1 < (l1.length : Int)
              · rw [if_pos c7] at H
                have c7b0 : decide (x13_1 < (l1.length : Int)) = true := decide_eq_true c7
                clear c7
                by_cases c8 : ((!(((rd_T35 l0 x13_1).f0.f0) == ((rd_T35 l1 x13_1).f0.f0)) || (!(((rd_T35 l0 x13_1).f0.f1) == ((rd_T35 l1 x13_1).f0.f1)))) || ((!(((rd_T35 l0 x13_1).f1.f0) == ((rd_T35 l1 x13_1).f1.f0)) || (!(((rd_T35 l0 x13_1).f1.f1) == ((rd_T35 l1 x13_1).f1.f1)))) || (!(((rd_T35 l0 x13_1).f2) == ((rd_T35 l1 x13_1).f2)) || (!(((rd_T35 l0 x13_1).f3) == ((rd_T35 l1 x13_1).f3)) || (!(((rd_T35 l0 x13_1).f4) == ((rd_T35 l1 x13_1).f4)) || (!(((rd_T35 l0 x13_1).f5) == ((rd_T35 l1 x13_1).f5)) || (!(((rd_T35 l0 x13_1).f6) == ((rd_T35 l1 x13_1).f6)) || (!(((rd_T35 l0 x13_1).f7) == ((rd_T35 l1 x13_1).f7)) || (!((((rd_T35 l0 x13_1).f8).toList) == (((rd_T35 l1 x13_1).f8).toList)) || (!((((rd_T35 l0 x13_1).f9).toList) == (((rd_T35 l1 x13_1).f9).toList)) || (!(((rd_T35 l0 x13_1).f10) == ((rd_T35 l1 x13_1).f10)) || (!(((rd_T35 l0 x13_1).f11) == ((rd_T35 l1 x13_1).f11)) || (!(((rd_T35 l0 x13_1).f12) == ((rd_T35 l1 x13_1).f12))))))))))))))) = true
                · rw [if_pos c8] at H
                  have c8b0 : ((!(((rd_T35 l0 x13_1).f0.f0) == ((rd_T35 l1 x13_1).f0.f0)) || (!(((rd_T35 l0 x13_1).f0.f1) == ((rd_T35 l1 x13_1).f0.f1)))) || ((!(((rd_T35 l0 x13_1).f1.f0) == ((rd_T35 l1 x13_1).f1.f0)) || (!(((rd_T35 l0 x13_1).f1.f1) == ((rd_T35 l1 x13_1).f1.f1)))) || (!(((rd_T35 l0 x13_1).f2) == ((rd_T35 l1 x13_1).f2)) || (!(((rd_T35 l0 x13_1).f3) == ((rd_T35 l1 x13_1).f3)) || (!(((rd_T35 l0 x13_1).f4) == ((rd_T35 l1 x13_1).f4)) || (!(((rd_T35 l0 x13_1).f5) == ((rd_T35 l1 x13_1).f5)) || (!(((rd_T35 l0 x13_1).f6) == ((rd_T35 l1 x13_1).f6)) || (!(((rd_T35 l0 x13_1).f7) == ((rd_T35 l1 x13_1).f7)) || (!((((rd_T35 l0 x13_1).f8).toList) == (((rd_T35 l1 x13_1).f8).toList)) || (!((((rd_T35 l0 x13_1).f9).toList) == (((rd_T35 l1 x13_1).f9).toList)) || (!(((rd_T35 l0 x13_1).f10) == ((rd_T35 l1 x13_1).f10)) || (!(((rd_T35 l0 x13_1).f11) == ((rd_T35 l1 x13_1).f11)) || (!(((rd_T35 l0 x13_1).f12) == ((rd_T35 l1 x13_1).f12))))))))))))))) = true := c8
                  clear c8
                  obtain rfl := Option.some.inj H
                  have p152 : 0 ≤ (x13_1 : Int) := of_decide_eq_true (by first | (with_reducible assumption) | assumption)
                  have q152 : x13_1 < (l0.length : Int) := of_decide_eq_true (by first | (with_reducible assumption) | assumption)
                  obtain ⟨ad152, e152, hx152_0, hx152_1, hx152_2, hx152_3, hx152_4, hx152_5, hx152_6, hx152_7, hx152_8, hx152_9, hx152_10, hx152_11, hx152_12, hx152_13, hx152_14⟩ := at_T35 HR0.out x13_1 p152 q152
                  cases e152
                  replace p152 := eq_true p152
                  replace q152 := eq_true q152
                  have p153 : 0 ≤ (x13_1 : Int) := of_decide_eq_true (by first | (with_reducible assumption) | assumption)
                  have q153 : x13_1 < (l1.length : Int) := of_decide_eq_true (by first | (with_reducible assumption) | assumption)
                  obtain ⟨ad153, e153, hx153_0, hx153_1, hx153_2, hx153_3, hx153_4, hx153_5, hx153_6, hx153_7, hx153_8, hx153_9, hx153_10, hx153_11, hx153_12, hx153_13, hx153_14⟩ := at_T35 HR1.out x13_1 p153 q153
                  cases e153
                  replace p153 := eq_true p153
                  replace q153 := eq_true q153
                  go_wp2
                  repeat (go_quiet (fail); try go_wp2)
                  go_ret
                  exact ⟨by first | rfl | (simp; done) | (simp [*]; done), by repeat (first | exact Drawn0.refl _ | apply Drawn0.step)⟩
                · rw [if_neg c8] at H
                  have c8b0 : ((!(((rd_T35 l0 x13_1).f0.f0) == ((rd_T35 l1 x13_1).f0.f0)) || (!(((rd_T35 l0 x13_1).f0.f1) == ((rd_T35 l1 x13_1).f0.f1)))) || ((!(((rd_T35 l0 x13_1).f1.f0) == ((rd_T35 l1 x13_1).f1.f0)) || (!(((rd_T35 l0 x13_1).f1.f1) == ((rd_T35 l1 x13_1).f1.f1)))) || (!(((rd_T35 l0 x13_1).f2) == ((rd_T35 l1 x13_1).f2)) || (!(((rd_T35 l0 x13_1).f3) == ((rd_T35 l1 x13_1).f3)) || (!(((rd_T35 l0 x13_1).f4) == ((rd_T35 l1 x13_1).f4)) || (!(((rd_T35 l0 x13_1).f5) == ((rd_T35 l1 x13_1).f5)) || (!(((rd_T35 l0 x13_1).f6) == ((rd_T35 l1 x13_1).f6)) || (!(((rd_T35 l0 x13_1).f7) == ((rd_T35 l1 x13_1).f7)) || (!((((rd_T35 l0 x13_1).f8).toList) == (((rd_T35 l1 x13_1).f8).toList)) || (!((((rd_T35 l0 x13_1).f9).toList) == (((rd_T35 l1 x13_1).f9).toList)) || (!(((rd_T35 l0 x13_1).f10) == ((rd_T35 l1 x13_1).f10)) || (!(((rd_T35 l0 x13_1).f11) == ((rd_T35 l1 x13_1).f11)) || (!(((rd_T35 l0 x13_1).f12) == ((rd_T35 l1 x13_1).f12))))))))))))))) = false := by simpa using c8
                  clear c8
                  have H' := Aside0.mk H
                  clear H
                  have p152 : 0 ≤ (x13_1 : Int) := of_decide_eq_true (by first | (with_reducible assumption) | assumption)
                  have q152 : x13_1 < (l0.length : Int) := of_decide_eq_true (by first | (with_reducible assumption) | assumption)
                  obtain ⟨ad152, e152, hx152_0, hx152_1, hx152_2, hx152_3, hx152_4, hx152_5, hx152_6, hx152_7, hx152_8, hx152_9, hx152_10, hx152_11, hx152_12, hx152_13, hx152_14⟩ := at_T35 HR0.out x13_1 p152 q152
                  cases e152
                  replace p152 := eq_true p152
                  replace q152 := eq_true q152
                  have p153 : 0 ≤ (x13_1 : Int) := of_decide_eq_true (by first | (with_reducible assumption) | assumption)
                  have q153 : x13_1 < (l1.length : Int) := of_decide_eq_true (by first | (with_reducible assumption) | assumption)
                  obtain ⟨ad153, e153, hx153_0, hx153_1, hx153_2, hx153_3, hx153_4, hx153_5, hx153_6, hx153_7, hx153_8, hx153_9, hx153_10, hx153_11, hx153_12, hx153_13, hx153_14⟩ := at_T35 HR1.out x13_1 p153 q153
                  cases e153
                  replace p153 := eq_true p153
                  replace q153 := eq_true q153
                  go_wp2
                  repeat (go_quiet (fail); try go_wp2)
                  go_roundg k1
                  case measure => have := HK1.out; omega
                  case rel => exact ⟨(wrap64 (x13_1 + 1)), (by first | rfl | (simp; done) | (simp [*]; done)), H', ⟨by have := HK1.out; omega⟩, by repeat (first | exact Drawn0.refl _ | apply Drawn0.step)⟩
              · rw [if_neg c7] at H
                exact absurd H (by simp)
            · rw [if_neg c6] at H
              exact absurd H (by simp)
          · rw [if_neg c5] at H
            exact absurd H (by simp)
        · rw [if_neg c4] at H
          have c4b0 : decide (x13_1 < (l0.length : Int)) = false := decide_eq_false c4
          clear c4
          obtain rfl := Option.some.inj H
          go_wp2
          repeat (go_quiet (fail); try go_wp2)
          go_ret
          exact ⟨by first | rfl | (simp; done) | (simp [*]; done), by repeat (first | exact Drawn0.refl _ | apply Drawn0.step)⟩
  · rw [if_neg c3] at H
    have c3b0 : ((l0.length : Int) == (l1.length : Int)) = false := beq_eq_false_iff_ne.mpr c3
    have c3b1 : ((l0.length : Int) != (l1.length : Int)) = true := bne_iff_ne.mpr c3
    have c3b2 : (l0.length == l1.length) = false := by first | simpa using c3 | (simp at c3 ⊢; omega)
    obtain rfl := Option.some.inj H
    go_enter Tryd.func23, Tryd.ntmps23
    go_wp2
    repeat (go_quiet (fail); try go_wp2)
    go_ret
    exact ⟨by first | rfl | (simp; done) | (simp [*]; done), by repeat (first | exact Drawn0.refl _ | apply Drawn0.step)⟩

-- NOT PRINTED: function 5 (laws_FnIdxDrop)

end Go.Proofs.YtoofbppfbbhliaaDoor.PFnIdxDrop
