/- Contracts of functions of the specification and of the program, as a printer of the kit wrote them, some left out. -/
import Derived.Test.YtmdffoplfiamlaaDoorPFnWhoReadx0
namespace Go.Proofs.YtmdffoplfiamlaaDoor.PFnWhoRead
open Go.RowKit Go.Proofs.YtmdffoplfiamlaaDoorW.PrintWords Go.Proofs.YtmdffoplfiamlaaDoorW.PrintLast Go.Proofs.YtmdffoplfiamlaaDoorW.PrintMore
attribute [local go_sem] max2_int min2_int max_two min_two max_three min_three max_four min_four   -- for this text's walks alone
set_option linter.unusedVariables false
set_option linter.unusedSimpArgs false

-- NOT PRINTED: function 101 (strconv_ParseUint)

-- NOT PRINTED: function 93 (strconv_ParseInt_93)

-- NOT PRINTED: function 110 (stringslite_Clone)

-- NOT PRINTED: function 102 (strconv_syntaxError)

-- NOT PRINTED: function 103 (strconv_rangeError)

-- NOT PRINTED: function 107 (errors_New)

-- NOT PRINTED: function 115 (strconv_numDigits)

-- NOT PRINTED: function 116 (strconv_formatBase10)

-- NOT PRINTED: function 123 (bits_TrailingZeros32)

-- NOT PRINTED: function 124 (bits_TrailingZeros64)

-- NOT PRINTED: function 122 (bits_TrailingZeros)

-- NOT PRINTED: function 117 (strconv_formatBits)

-- NOT PRINTED: function 113 (strconv_FormatInt)

-- NOT PRINTED: function 112 (strconv_Itoa_112)

-- NOT PRINTED: function 111 (strconv_Itoa_111)

-- NOT PRINTED: function 104 (strconv_baseError)

-- NOT PRINTED: function 105 (strconv_bitSizeError)

-- NOT PRINTED: function 94 (strconv_toError)

-- NOT PRINTED: function 77 (strconv_ParseInt_77)

/-! ### zztime_Unix: function 78 -/
def zztime_Unix.f (a0 : Int) (a1 : Int) : Option (Int × Int × Int) := if (Int.tmod a1 1000000000) < 0 then (some (wrap64 ((wrap64 ((wrap64 (a0 + (wrap64 (Int.tdiv a1 1000000000)))) - 1)) + 62135596800), wrap64 ((Int.tmod a1 1000000000) + 1000000000), 0)) else (some (wrap64 ((wrap64 (a0 + (wrap64 (Int.tdiv a1 1000000000)))) + 62135596800), Int.tmod a1 1000000000, 0))
set_option maxHeartbeats 8000000 in
set_option maxRecDepth 100000 in
theorem zztime_Unix.calls (a0 : Int) (a1 : Int) (r1 : Int) (r2 : Int) (r3 : Int) (w : World) (h : zztime_Unix.f a0 a1 = some (r1, r2, r3)) :
    Calls Tryd.prog 78 #[.int .i64 a0, .int .i64 a1] w fun e w' => e = .returned (.agg #[.int .i64 r1, .int .i64 r2, .int .i64 r3]) ∧ Below w.heap.size w w' := by
  have hu62 := Tryd.underlying62
  have HB := Aside0.mk (Below.refl w.heap.size w)
  have H : (if (Int.tmod a1 1000000000) < 0 then (some (wrap64 ((wrap64 ((wrap64 (a0 + (wrap64 (Int.tdiv a1 1000000000)))) - 1)) + 62135596800), wrap64 ((Int.tmod a1 1000000000) + 1000000000), 0)) else (some (wrap64 ((wrap64 (a0 + (wrap64 (Int.tdiv a1 1000000000)))) + 62135596800), Int.tmod a1 1000000000, 0))) = some (r1, r2, r3) := h
  clear h
  by_cases c3 : (Int.tmod a1 1000000000) < 0
  · rw [if_pos c3] at H
    have c3b0 : decide ((Int.tmod a1 1000000000) < 0) = true := decide_eq_true c3
    clear c3
    simp only [Option.some.injEq, Prod.mk.injEq] at H
    obtain ⟨rfl, rfl, rfl⟩ := H
    go_enter Tryd.func78, Tryd.ntmps78
    go_wp2_with (first | ((with_reducible refine gate_dst (N := 4) rfl ?_); refine box_event ?hg (N := 4) ?hd (cs := #[.int .i64 0, .int .i64 0, .int .i64 0]) (t := 62) ?hr ?_; (case hd => rfl); (case hg => rfl); (case hr => first | (go_simp; done) | (go_simp; rfl)); intro gb170 hg w4 hbox hb; have n0_ := Aside0.mk (below_step (by repeat (first | (with_reducible first | exact HB.out | apply below_alloc | apply pw_below_drewN | apply below_drew1) | exact HB.out)) hb); have n1_ := Aside0.mk (hbox); have n2_ := Aside0.mk ((by rw [hg]; exact (below_size (by repeat (first | (with_reducible first | exact HB.out | apply below_alloc | apply pw_below_drewN | apply below_drew1) | exact HB.out))) : w.heap.size ≤ gb170)); have n3_ := Aside0.mk ((by rw [hg]; exact (below_size (by repeat (first | (with_reducible first | exact HB.out | apply below_alloc | apply pw_below_drewN | apply below_drew1) | exact HB.out))) : w.heap.size ≤ gb170)); clear HB; have HB := n0_; have BK170 := n1_; have GW170 := n2_; have GE170 := n3_; clear n0_ n1_ n2_ n3_; clear hb hbox hg; have hcz5_0 : w4.cell? ⟨gb170, 0, none⟩ = some (.int .i64 0) := (blk_cell BK170.out 0).trans rfl; have hcz5_1 : w4.cell? ⟨gb170, 1, none⟩ = some (.int .i64 0) := (blk_cell BK170.out 1).trans rfl; have hcz5_2 : w4.cell? ⟨gb170, 2, none⟩ = some (.int .i64 0) := (blk_cell BK170.out 2).trans rfl; have hfz5_0 := blk_frozen BK170.out 0; have hfz5_1 := blk_frozen BK170.out 1; have hfz5_2 := blk_frozen BK170.out 2))
    refine bodyPost_ret (results_cell_row rfl _ _ gb170 62 #[.int .i64 (wrap64 ((wrap64 ((wrap64 (a0 + (wrap64 (Int.tdiv a1 1000000000)))) - 1)) + 62135596800)), .int .i64 (wrap64 ((Int.tmod a1 1000000000) + 1000000000)), .int .i64 0] (0, 0) _ rfl (by (with_reducible repeat (first | refine blk_drewN ?_ _ | refine blk_drew ?_ | refine blk_alloc ?_ _)); refine blk_put (cs := #[.int .i64 (wrap64 ((wrap64 ((wrap64 (a0 + (wrap64 (Int.tdiv a1 1000000000)))) - 1)) + 62135596800)), .int .i64 (wrap64 ((Int.tmod a1 1000000000) + 1000000000)), .int .i64 0]) ?_ 2 _ rfl; (with_reducible repeat (first | refine blk_drewN ?_ _ | refine blk_drew ?_ | refine blk_alloc ?_ _)); refine blk_put (cs := #[.int .i64 (wrap64 ((wrap64 ((wrap64 (a0 + (wrap64 (Int.tdiv a1 1000000000)))) - 1)) + 62135596800)), .int .i64 0, .int .i64 0]) ?_ 1 _ rfl; (with_reducible repeat (first | refine blk_drewN ?_ _ | refine blk_drew ?_ | refine blk_alloc ?_ _)); refine blk_put (cs := #[.int .i64 0, .int .i64 0, .int .i64 0]) ?_ 0 _ rfl; (with_reducible repeat (first | refine blk_drewN ?_ _ | refine blk_drew ?_ | refine blk_alloc ?_ _)); exact BK170.out) Tryd.underlying62 rfl (by kernel_rfl)) rfl ?_
    exact ⟨by first | rfl | (simp [errW_none, errW_some] <;> rfl) | (simp [*, errW_none, errW_some] <;> rfl), by repeat (first | (with_reducible first | exact HB.out | apply below_alloc | apply pw_below_drewN | apply below_drew1 | refine below_set ?_ GE170.out) | exact HB.out)⟩
  · rw [if_neg c3] at H
    have c3b0 : decide ((Int.tmod a1 1000000000) < 0) = false := decide_eq_false c3
    clear c3
    simp only [Option.some.injEq, Prod.mk.injEq] at H
    obtain ⟨rfl, rfl, rfl⟩ := H
    go_enter Tryd.func78, Tryd.ntmps78
    go_wp2_with (first | ((with_reducible refine gate_dst (N := 4) rfl ?_); refine box_event ?hg (N := 4) ?hd (cs := #[.int .i64 0, .int .i64 0, .int .i64 0]) (t := 62) ?hr ?_; (case hd => rfl); (case hg => rfl); (case hr => first | (go_simp; done) | (go_simp; rfl)); intro gb170 hg w6 hbox hb; have n0_ := Aside0.mk (below_step (by repeat (first | (with_reducible first | exact HB.out | apply below_alloc | apply pw_below_drewN | apply below_drew1) | exact HB.out)) hb); have n1_ := Aside0.mk (hbox); have n2_ := Aside0.mk ((by rw [hg]; exact (below_size (by repeat (first | (with_reducible first | exact HB.out | apply below_alloc | apply pw_below_drewN | apply below_drew1) | exact HB.out))) : w.heap.size ≤ gb170)); have n3_ := Aside0.mk ((by rw [hg]; exact (below_size (by repeat (first | (with_reducible first | exact HB.out | apply below_alloc | apply pw_below_drewN | apply below_drew1) | exact HB.out))) : w.heap.size ≤ gb170)); clear HB; have HB := n0_; have BK170 := n1_; have GW170 := n2_; have GE170 := n3_; clear n0_ n1_ n2_ n3_; clear hb hbox hg; have hcz7_0 : w6.cell? ⟨gb170, 0, none⟩ = some (.int .i64 0) := (blk_cell BK170.out 0).trans rfl; have hcz7_1 : w6.cell? ⟨gb170, 1, none⟩ = some (.int .i64 0) := (blk_cell BK170.out 1).trans rfl; have hcz7_2 : w6.cell? ⟨gb170, 2, none⟩ = some (.int .i64 0) := (blk_cell BK170.out 2).trans rfl; have hfz7_0 := blk_frozen BK170.out 0; have hfz7_1 := blk_frozen BK170.out 1; have hfz7_2 := blk_frozen BK170.out 2))
    refine bodyPost_ret (results_cell_row rfl _ _ gb170 62 #[.int .i64 (wrap64 ((wrap64 (a0 + (wrap64 (Int.tdiv a1 1000000000)))) + 62135596800)), .int .i64 (Int.tmod a1 1000000000), .int .i64 0] (0, 0) _ rfl (by (with_reducible repeat (first | refine blk_drewN ?_ _ | refine blk_drew ?_ | refine blk_alloc ?_ _)); refine blk_put (cs := #[.int .i64 (wrap64 ((wrap64 (a0 + (wrap64 (Int.tdiv a1 1000000000)))) + 62135596800)), .int .i64 (Int.tmod a1 1000000000), .int .i64 0]) ?_ 2 _ rfl; (with_reducible repeat (first | refine blk_drewN ?_ _ | refine blk_drew ?_ | refine blk_alloc ?_ _)); refine blk_put (cs := #[.int .i64 (wrap64 ((wrap64 (a0 + (wrap64 (Int.tdiv a1 1000000000)))) + 62135596800)), .int .i64 0, .int .i64 0]) ?_ 1 _ rfl; (with_reducible repeat (first | refine blk_drewN ?_ _ | refine blk_drew ?_ | refine blk_alloc ?_ _)); refine blk_put (cs := #[.int .i64 0, .int .i64 0, .int .i64 0]) ?_ 0 _ rfl; (with_reducible repeat (first | refine blk_drewN ?_ _ | refine blk_drew ?_ | refine blk_alloc ?_ _)); exact BK170.out) Tryd.underlying62 rfl (by kernel_rfl)) rfl ?_
    exact ⟨by first | rfl | (simp [errW_none, errW_some] <;> rfl) | (simp [*, errW_none, errW_some] <;> rfl), by repeat (first | (with_reducible first | exact HB.out | apply below_alloc | apply pw_below_drewN | apply below_drew1 | refine below_set ?_ GE170.out) | exact HB.out)⟩

/-! ### zztime_FixedZone: function 79 -/
def zztime_FixedZone.f (a0 : ByteArray) (a1 : Int) : Option (Int) := some a1
set_option maxHeartbeats 8000000 in
set_option maxRecDepth 100000 in
theorem zztime_FixedZone.calls (a0 : ByteArray) (a1 : Int) (r : Int) (w : World) (h : zztime_FixedZone.f a0 a1 = some r) :
    Calls Tryd.prog 79 #[.string a0, .int .i64 a1] w fun e w' => e = .returned (.agg #[.int .i64 r]) ∧ Below w.heap.size w w' := by
  have hu137 := Tryd.underlying137
  have HB := Aside0.mk (Below.refl w.heap.size w)
  have H : (some a1) = some r := h
  clear h
  obtain rfl := Option.some.inj H
  go_enter Tryd.func79, Tryd.ntmps79
  go_wp2_with (first | ((with_reducible refine gate_dst (N := 4) rfl ?_); refine box_event ?hg (N := 4) ?hd (cs := #[.int .i64 0]) (t := 137) ?hr ?_; (case hd => rfl); (case hg => rfl); (case hr => first | (go_simp; done) | (go_simp; rfl)); intro gb171 hg w3 hbox hb; have n0_ := Aside0.mk (below_step (by repeat (first | (with_reducible first | exact HB.out | apply below_alloc | apply pw_below_drewN | apply below_drew1) | exact HB.out)) hb); have n1_ := Aside0.mk (hbox); have n2_ := Aside0.mk ((by rw [hg]; exact (below_size (by repeat (first | (with_reducible first | exact HB.out | apply below_alloc | apply pw_below_drewN | apply below_drew1) | exact HB.out))) : w.heap.size ≤ gb171)); have n3_ := Aside0.mk ((by rw [hg]; exact (below_size (by repeat (first | (with_reducible first | exact HB.out | apply below_alloc | apply pw_below_drewN | apply below_drew1) | exact HB.out))) : w.heap.size ≤ gb171)); clear HB; have HB := n0_; have BK171 := n1_; have GW171 := n2_; have GE171 := n3_; clear n0_ n1_ n2_ n3_; clear hb hbox hg; have hcz4_0 : w3.cell? ⟨gb171, 0, none⟩ = some (.int .i64 0) := (blk_cell BK171.out 0).trans rfl; have hfz4_0 := blk_frozen BK171.out 0))
  refine bodyPost_ret (results_cell_row rfl _ _ gb171 137 #[.int .i64 a1] (0, 0) _ rfl (by (with_reducible repeat (first | refine blk_drewN ?_ _ | refine blk_drew ?_ | refine blk_alloc ?_ _)); refine blk_put (cs := #[.int .i64 0]) ?_ 0 _ rfl; (with_reducible repeat (first | refine blk_drewN ?_ _ | refine blk_drew ?_ | refine blk_alloc ?_ _)); exact BK171.out) Tryd.underlying137 rfl (by kernel_rfl)) rfl ?_
  exact ⟨by first | rfl | (simp [errW_none, errW_some] <;> rfl) | (simp [*, errW_none, errW_some] <;> rfl), by repeat (first | (with_reducible first | exact HB.out | apply below_alloc | apply pw_below_drewN | apply below_drew1 | refine below_set ?_ GE171.out) | exact HB.out)⟩

/-! ### zztime_Time_In: function 80 -/
def zztime_Time_In.f (a0_0 : Int) (a0_1 : Int) (a0_2 : Int) (a1_0 : Int) : Option (Int × Int × Int) := some (a0_0, a0_1, a1_0)
set_option maxHeartbeats 8000000 in
set_option maxRecDepth 100000 in
theorem zztime_Time_In.calls (a0_0 : Int) (a0_1 : Int) (a0_2 : Int) (a1_0 : Int) (r1 : Int) (r2 : Int) (r3 : Int) (w : World) (h : zztime_Time_In.f a0_0 a0_1 a0_2 a1_0 = some (r1, r2, r3)) :
    Calls Tryd.prog 80 #[.agg #[.int .i64 a0_0, .int .i64 a0_1, .int .i64 a0_2], .agg #[.int .i64 a1_0]] w fun e w' => e = .returned (.agg #[.int .i64 r1, .int .i64 r2, .int .i64 r3]) ∧ Below w.heap.size w w' := by
  have hu62 := Tryd.underlying62
  have hu137 := Tryd.underlying137
  have HB := Aside0.mk (Below.refl w.heap.size w)
  have H : (some (a0_0, a0_1, a1_0)) = some (r1, r2, r3) := h
  clear h
  simp only [Option.some.injEq, Prod.mk.injEq] at H
  obtain ⟨rfl, rfl, rfl⟩ := H
  go_enter Tryd.func80, Tryd.ntmps80
  go_wp2_with (first | ((with_reducible refine gate_dst (N := 2) rfl ?_); refine box_event ?hg (N := 2) ?hd (cs := #[.int .i64 a0_0, .int .i64 a0_1, .int .i64 a0_2]) (t := 62) ?hr ?_; (case hd => rfl); (case hg => rfl); (case hr => first | (go_simp; done) | (go_simp; rfl)); intro gb172 hg w3 hbox hb; have n0_ := Aside0.mk (below_step (by repeat (first | (with_reducible first | exact HB.out | apply below_alloc | apply pw_below_drewN | apply below_drew1) | exact HB.out)) hb); have n1_ := Aside0.mk (hbox); have n2_ := Aside0.mk ((by rw [hg]; exact (below_size (by repeat (first | (with_reducible first | exact HB.out | apply below_alloc | apply pw_below_drewN | apply below_drew1) | exact HB.out))) : w.heap.size ≤ gb172)); have n3_ := Aside0.mk ((by rw [hg]; exact (below_size (by repeat (first | (with_reducible first | exact HB.out | apply below_alloc | apply pw_below_drewN | apply below_drew1) | exact HB.out))) : w.heap.size ≤ gb172)); clear HB; have HB := n0_; have BK172 := n1_; have GW172 := n2_; have GE172 := n3_; clear n0_ n1_ n2_ n3_; clear hb hbox hg) | ((with_reducible refine gate_dst (N := 3) rfl ?_); refine box_event ?hg (N := 3) ?hd (cs := #[.int .i64 a1_0]) (t := 137) ?hr ?_; (case hd => rfl); (case hg => rfl); (case hr => first | (go_simp; done) | (go_simp; rfl)); intro gb173 hg w4 hbox hb; have n0_ := Aside0.mk (blk_below (g := gb172) (o := .cells #[.int .i64 a0_0, .int .i64 a0_1, .int .i64 a0_2] 62 (0, 0)) (by (with_reducible repeat (first | refine blk_drewN ?_ _ | refine blk_drew ?_ | refine blk_alloc ?_ _)); exact BK172.out) hb); have n1_ := Aside0.mk (below_step (by repeat (first | (with_reducible first | exact HB.out | apply below_alloc | apply pw_below_drewN | apply below_drew1 | refine below_set ?_ GE172.out) | exact HB.out)) hb); have n2_ := Aside0.mk (hbox); have n3_ := Aside0.mk ((by rw [hg]; exact (below_size (by repeat (first | (with_reducible first | exact HB.out | apply below_alloc | apply pw_below_drewN | apply below_drew1 | refine below_set ?_ GE172.out) | exact HB.out))) : w.heap.size ≤ gb173)); have n4_ := Aside0.mk ((by rw [hg]; exact (below_size (by repeat (first | (with_reducible first | exact HB.out | apply below_alloc | apply pw_below_drewN | apply below_drew1 | refine below_set ?_ GE172.out) | exact HB.out))) : w.heap.size ≤ gb173)); have n5_ := Aside0.mk ((by rw [hg]; exact Nat.ne_of_lt (blk_lt (g := gb172) (o := .cells #[.int .i64 a0_0, .int .i64 a0_1, .int .i64 a0_2] 62 (0, 0)) (by (with_reducible repeat (first | refine blk_drewN ?_ _ | refine blk_drew ?_ | refine blk_alloc ?_ _)); exact BK172.out)) : gb172 ≠ gb173)); have n6_ := Aside0.mk ((by rw [hg]; exact Nat.ne_of_gt (blk_lt (g := gb172) (o := .cells #[.int .i64 a0_0, .int .i64 a0_1, .int .i64 a0_2] 62 (0, 0)) (by (with_reducible repeat (first | refine blk_drewN ?_ _ | refine blk_drew ?_ | refine blk_alloc ?_ _)); exact BK172.out)) : gb173 ≠ gb172)); clear BK172; clear HB; have BK172 := n0_; have HB := n1_; have BK173 := n2_; have GW173 := n3_; have GE173 := n4_; have NB172_173 := n5_; have NB173_172 := n6_; clear n0_ n1_ n2_ n3_ n4_ n5_ n6_; clear hb hbox hg) | ((with_reducible refine gate_dst (N := 4) rfl ?_); refine box_event ?hg (N := 4) ?hd (cs := #[.int .i64 0, .int .i64 0, .int .i64 0]) (t := 62) ?hr ?_; (case hd => rfl); (case hg => rfl); (case hr => first | (go_simp; done) | (go_simp; rfl)); intro gb174 hg w5 hbox hb; have n0_ := Aside0.mk (blk_below (g := gb172) (o := .cells #[.int .i64 a0_0, .int .i64 a0_1, .int .i64 a0_2] 62 (0, 0)) (by (with_reducible repeat (first | refine blk_drewN ?_ _ | refine blk_drew ?_ | refine blk_alloc ?_ _)); exact BK172.out) hb); have n1_ := Aside0.mk (blk_below (g := gb173) (o := .cells #[.int .i64 a1_0] 137 (0, 0)) (by (with_reducible repeat (first | refine blk_drewN ?_ _ | refine blk_drew ?_ | refine blk_alloc ?_ _)); exact BK173.out) hb); have n2_ := Aside0.mk (below_step (by repeat (first | (with_reducible first | exact HB.out | apply below_alloc | apply pw_below_drewN | apply below_drew1 | refine below_set ?_ GE172.out | refine below_set ?_ GE173.out) | exact HB.out)) hb); have n3_ := Aside0.mk (hbox); have n4_ := Aside0.mk ((by rw [hg]; exact (below_size (by repeat (first | (with_reducible first | exact HB.out | apply below_alloc | apply pw_below_drewN | apply below_drew1 | refine below_set ?_ GE172.out | refine below_set ?_ GE173.out) | exact HB.out))) : w.heap.size ≤ gb174)); have n5_ := Aside0.mk ((by rw [hg]; exact (below_size (by repeat (first | (with_reducible first | exact HB.out | apply below_alloc | apply pw_below_drewN | apply below_drew1 | refine below_set ?_ GE172.out | refine below_set ?_ GE173.out) | exact HB.out))) : w.heap.size ≤ gb174)); have n6_ := Aside0.mk ((by rw [hg]; exact Nat.ne_of_lt (blk_lt (g := gb172) (o := .cells #[.int .i64 a0_0, .int .i64 a0_1, .int .i64 a0_2] 62 (0, 0)) (by (with_reducible repeat (first | refine blk_drewN ?_ _ | refine blk_drew ?_ | refine blk_alloc ?_ _)); exact BK172.out)) : gb172 ≠ gb174)); have n7_ := Aside0.mk ((by rw [hg]; exact Nat.ne_of_gt (blk_lt (g := gb172) (o := .cells #[.int .i64 a0_0, .int .i64 a0_1, .int .i64 a0_2] 62 (0, 0)) (by (with_reducible repeat (first | refine blk_drewN ?_ _ | refine blk_drew ?_ | refine blk_alloc ?_ _)); exact BK172.out)) : gb174 ≠ gb172)); have n8_ := Aside0.mk ((by rw [hg]; exact Nat.ne_of_lt (blk_lt (g := gb173) (o := .cells #[.int .i64 a1_0] 137 (0, 0)) (by (with_reducible repeat (first | refine blk_drewN ?_ _ | refine blk_drew ?_ | refine blk_alloc ?_ _)); exact BK173.out)) : gb173 ≠ gb174)); have n9_ := Aside0.mk ((by rw [hg]; exact Nat.ne_of_gt (blk_lt (g := gb173) (o := .cells #[.int .i64 a1_0] 137 (0, 0)) (by (with_reducible repeat (first | refine blk_drewN ?_ _ | refine blk_drew ?_ | refine blk_alloc ?_ _)); exact BK173.out)) : gb174 ≠ gb173)); clear BK172; clear BK173; clear HB; have BK172 := n0_; have BK173 := n1_; have HB := n2_; have BK174 := n3_; have GW174 := n4_; have GE174 := n5_; have NB172_174 := n6_; have NB174_172 := n7_; have NB173_174 := n8_; have NB174_173 := n9_; clear n0_ n1_ n2_ n3_ n4_ n5_ n6_ n7_ n8_ n9_; clear hb hbox hg; have hnb6 := NB173_172.out; have hnc6 := NB172_173.out; have hnb7 := NB173_174.out; have hnc7 := NB174_173.out; have hcz8_0 : w5.cell? ⟨gb173, 0, none⟩ = some (.int .i64 a1_0) := (blk_cell BK173.out 0).trans rfl; have hfz8_0 := blk_frozen BK173.out 0; have hnb9 := NB172_174.out; have hnc9 := NB174_172.out; have hcz10_0 : w5.cell? ⟨gb172, 0, none⟩ = some (.int .i64 a0_0) := (blk_cell BK172.out 0).trans rfl; have hcz10_1 : w5.cell? ⟨gb172, 1, none⟩ = some (.int .i64 a0_1) := (blk_cell BK172.out 1).trans rfl; have hcz10_2 : w5.cell? ⟨gb172, 2, none⟩ = some (.int .i64 a0_2) := (blk_cell BK172.out 2).trans rfl; have hfz10_0 := blk_frozen BK172.out 0; have hfz10_1 := blk_frozen BK172.out 1; have hfz10_2 := blk_frozen BK172.out 2; have hcz11_0 : w5.cell? ⟨gb174, 0, none⟩ = some (.int .i64 0) := (blk_cell BK174.out 0).trans rfl; have hcz11_1 : w5.cell? ⟨gb174, 1, none⟩ = some (.int .i64 0) := (blk_cell BK174.out 1).trans rfl; have hcz11_2 : w5.cell? ⟨gb174, 2, none⟩ = some (.int .i64 0) := (blk_cell BK174.out 2).trans rfl; have hfz11_0 := blk_frozen BK174.out 0; have hfz11_1 := blk_frozen BK174.out 1; have hfz11_2 := blk_frozen BK174.out 2))
  refine bodyPost_ret (results_cell_row rfl _ _ gb174 62 #[.int .i64 a0_0, .int .i64 a0_1, .int .i64 a1_0] (0, 0) _ rfl (by (with_reducible repeat (first | refine blk_drewN ?_ _ | refine blk_drew ?_ | refine blk_alloc ?_ _)); refine blk_put (cs := #[.int .i64 a0_0, .int .i64 a0_1, .int .i64 0]) ?_ 2 _ rfl; (with_reducible repeat (first | refine blk_drewN ?_ _ | refine blk_drew ?_ | refine blk_alloc ?_ _)); refine blk_put (cs := #[.int .i64 a0_0, .int .i64 0, .int .i64 0]) ?_ 1 _ rfl; (with_reducible repeat (first | refine blk_drewN ?_ _ | refine blk_drew ?_ | refine blk_alloc ?_ _)); refine blk_put (cs := #[.int .i64 0, .int .i64 0, .int .i64 0]) ?_ 0 _ rfl; (with_reducible repeat (first | refine blk_drewN ?_ _ | refine blk_drew ?_ | refine blk_alloc ?_ _)); refine blk_far ?_ NB174_172.out _; (with_reducible repeat (first | refine blk_drewN ?_ _ | refine blk_drew ?_ | refine blk_alloc ?_ _)); exact BK174.out) Tryd.underlying62 rfl (by kernel_rfl)) rfl ?_
  exact ⟨by first | rfl | (simp [errW_none, errW_some] <;> rfl) | (simp [*, errW_none, errW_some] <;> rfl), by repeat (first | (with_reducible first | exact HB.out | apply below_alloc | apply pw_below_drewN | apply below_drew1 | refine below_set ?_ GE172.out | refine below_set ?_ GE173.out | refine below_set ?_ GE174.out) | exact HB.out)⟩

-- NOT PRINTED: function 47 (object_Signature_decodeTimeAndTimeZone)

-- NOT PRINTED: function 29 (object_Signature_Decode)

/-! ### zztime_Time_Zone: function 48 -/
def zztime_Time_Zone.f (a0_0 : Int) (a0_1 : Int) (a0_2 : Int) : Option (ByteArray × Int) := some ((⟨#[]⟩ : ByteArray), a0_2)
set_option maxHeartbeats 8000000 in
set_option maxRecDepth 100000 in
theorem zztime_Time_Zone.calls (a0_0 : Int) (a0_1 : Int) (a0_2 : Int) (r1 : ByteArray) (r2 : Int) (w : World) (h : zztime_Time_Zone.f a0_0 a0_1 a0_2 = some (r1, r2)) :
    Calls Tryd.prog 48 #[.agg #[.int .i64 a0_0, .int .i64 a0_1, .int .i64 a0_2]] w fun e w' => e = .returned (.tuple #[.string r1, .int .i64 r2]) ∧ Below w.heap.size w w' := by
  have hu62 := Tryd.underlying62
  have HB := Aside0.mk (Below.refl w.heap.size w)
  have H : (some ((⟨#[]⟩ : ByteArray), a0_2)) = some (r1, r2) := h
  clear h
  simp only [Option.some.injEq, Prod.mk.injEq] at H
  obtain ⟨rfl, rfl⟩ := H
  go_enter Tryd.func48, Tryd.ntmps48
  go_wp2_with (first | ((with_reducible refine gate_dst (N := 1) rfl ?_); refine box_event ?hg (N := 1) ?hd (cs := #[.int .i64 a0_0, .int .i64 a0_1, .int .i64 a0_2]) (t := 62) ?hr ?_; (case hd => rfl); (case hg => rfl); (case hr => first | (go_simp; done) | (go_simp; rfl)); intro gb178 hg w2 hbox hb; have n0_ := Aside0.mk (below_step (by repeat (first | (with_reducible first | exact HB.out | apply below_alloc | apply pw_below_drewN | apply below_drew1) | exact HB.out)) hb); have n1_ := Aside0.mk (hbox); have n2_ := Aside0.mk ((by rw [hg]; exact (below_size (by repeat (first | (with_reducible first | exact HB.out | apply below_alloc | apply pw_below_drewN | apply below_drew1) | exact HB.out))) : w.heap.size ≤ gb178)); have n3_ := Aside0.mk ((by rw [hg]; exact (below_size (by repeat (first | (with_reducible first | exact HB.out | apply below_alloc | apply pw_below_drewN | apply below_drew1) | exact HB.out))) : w.heap.size ≤ gb178)); clear HB; have HB := n0_; have BK178 := n1_; have GW178 := n2_; have GE178 := n3_; clear n0_ n1_ n2_ n3_; clear hb hbox hg; have hcz3_0 : w2.cell? ⟨gb178, 0, none⟩ = some (.int .i64 a0_0) := (blk_cell BK178.out 0).trans rfl; have hcz3_1 : w2.cell? ⟨gb178, 1, none⟩ = some (.int .i64 a0_1) := (blk_cell BK178.out 1).trans rfl; have hcz3_2 : w2.cell? ⟨gb178, 2, none⟩ = some (.int .i64 a0_2) := (blk_cell BK178.out 2).trans rfl; have hfz3_0 := blk_frozen BK178.out 0; have hfz3_1 := blk_frozen BK178.out 1; have hfz3_2 := blk_frozen BK178.out 2))
  repeat (go_quiet (first | ((with_reducible refine gate_dst (N := 1) rfl ?_); refine box_event ?hg (N := 1) ?hd (cs := #[.int .i64 a0_0, .int .i64 a0_1, .int .i64 a0_2]) (t := 62) ?hr ?_; (case hd => rfl); (case hg => rfl); (case hr => first | (go_simp; done) | (go_simp; rfl)); intro gb178 hg w2 hbox hb; have n0_ := Aside0.mk (below_step (by repeat (first | (with_reducible first | exact HB.out | apply below_alloc | apply pw_below_drewN | apply below_drew1) | exact HB.out)) hb); have n1_ := Aside0.mk (hbox); have n2_ := Aside0.mk ((by rw [hg]; exact (below_size (by repeat (first | (with_reducible first | exact HB.out | apply below_alloc | apply pw_below_drewN | apply below_drew1) | exact HB.out))) : w.heap.size ≤ gb178)); have n3_ := Aside0.mk ((by rw [hg]; exact (below_size (by repeat (first | (with_reducible first | exact HB.out | apply below_alloc | apply pw_below_drewN | apply below_drew1) | exact HB.out))) : w.heap.size ≤ gb178)); clear HB; have HB := n0_; have BK178 := n1_; have GW178 := n2_; have GE178 := n3_; clear n0_ n1_ n2_ n3_; clear hb hbox hg; have hcz3_0 : w2.cell? ⟨gb178, 0, none⟩ = some (.int .i64 a0_0) := (blk_cell BK178.out 0).trans rfl; have hcz3_1 : w2.cell? ⟨gb178, 1, none⟩ = some (.int .i64 a0_1) := (blk_cell BK178.out 1).trans rfl; have hcz3_2 : w2.cell? ⟨gb178, 2, none⟩ = some (.int .i64 a0_2) := (blk_cell BK178.out 2).trans rfl; have hfz3_0 := blk_frozen BK178.out 0; have hfz3_1 := blk_frozen BK178.out 1; have hfz3_2 := blk_frozen BK178.out 2)); try go_wp2_with (first | ((with_reducible refine gate_dst (N := 1) rfl ?_); refine box_event ?hg (N := 1) ?hd (cs := #[.int .i64 a0_0, .int .i64 a0_1, .int .i64 a0_2]) (t := 62) ?hr ?_; (case hd => rfl); (case hg => rfl); (case hr => first | (go_simp; done) | (go_simp; rfl)); intro gb178 hg w2 hbox hb; have n0_ := Aside0.mk (below_step (by repeat (first | (with_reducible first | exact HB.out | apply below_alloc | apply pw_below_drewN | apply below_drew1) | exact HB.out)) hb); have n1_ := Aside0.mk (hbox); have n2_ := Aside0.mk ((by rw [hg]; exact (below_size (by repeat (first | (with_reducible first | exact HB.out | apply below_alloc | apply pw_below_drewN | apply below_drew1) | exact HB.out))) : w.heap.size ≤ gb178)); have n3_ := Aside0.mk ((by rw [hg]; exact (below_size (by repeat (first | (with_reducible first | exact HB.out | apply below_alloc | apply pw_below_drewN | apply below_drew1) | exact HB.out))) : w.heap.size ≤ gb178)); clear HB; have HB := n0_; have BK178 := n1_; have GW178 := n2_; have GE178 := n3_; clear n0_ n1_ n2_ n3_; clear hb hbox hg; have hcz3_0 : w2.cell? ⟨gb178, 0, none⟩ = some (.int .i64 a0_0) := (blk_cell BK178.out 0).trans rfl; have hcz3_1 : w2.cell? ⟨gb178, 1, none⟩ = some (.int .i64 a0_1) := (blk_cell BK178.out 1).trans rfl; have hcz3_2 : w2.cell? ⟨gb178, 2, none⟩ = some (.int .i64 a0_2) := (blk_cell BK178.out 2).trans rfl; have hfz3_0 := blk_frozen BK178.out 0; have hfz3_1 := blk_frozen BK178.out 1; have hfz3_2 := blk_frozen BK178.out 2)))
  go_ret2
  exact ⟨by first | rfl | (simp [errW_none, errW_some] <;> rfl) | (simp [*, errW_none, errW_some] <;> rfl), by repeat (first | (with_reducible first | exact HB.out | apply below_alloc | apply pw_below_drewN | apply below_drew1 | refine below_set ?_ GE178.out) | exact HB.out)⟩

/-! ### zztime_Time_Unix: function 49 -/
def zztime_Time_Unix.f (a0_0 : Int) (a0_1 : Int) (a0_2 : Int) : Option (Int) := some (wrap64 (a0_0 - 62135596800))
set_option maxHeartbeats 8000000 in
set_option maxRecDepth 100000 in
theorem zztime_Time_Unix.calls (a0_0 : Int) (a0_1 : Int) (a0_2 : Int) (r : Int) (w : World) (h : zztime_Time_Unix.f a0_0 a0_1 a0_2 = some r) :
    Calls Tryd.prog 49 #[.agg #[.int .i64 a0_0, .int .i64 a0_1, .int .i64 a0_2]] w fun e w' => e = .returned (.int .i64 r) ∧ Below w.heap.size w w' := by
  have hu62 := Tryd.underlying62
  have HB := Aside0.mk (Below.refl w.heap.size w)
  have H : (some (wrap64 (a0_0 - 62135596800))) = some r := h
  clear h
  obtain rfl := Option.some.inj H
  go_enter Tryd.func49, Tryd.ntmps49
  go_wp2_with (first | ((with_reducible refine gate_dst (N := 1) rfl ?_); refine box_event ?hg (N := 1) ?hd (cs := #[.int .i64 a0_0, .int .i64 a0_1, .int .i64 a0_2]) (t := 62) ?hr ?_; (case hd => rfl); (case hg => rfl); (case hr => first | (go_simp; done) | (go_simp; rfl)); intro gb179 hg w2 hbox hb; have n0_ := Aside0.mk (below_step (by repeat (first | (with_reducible first | exact HB.out | apply below_alloc | apply pw_below_drewN | apply below_drew1) | exact HB.out)) hb); have n1_ := Aside0.mk (hbox); have n2_ := Aside0.mk ((by rw [hg]; exact (below_size (by repeat (first | (with_reducible first | exact HB.out | apply below_alloc | apply pw_below_drewN | apply below_drew1) | exact HB.out))) : w.heap.size ≤ gb179)); have n3_ := Aside0.mk ((by rw [hg]; exact (below_size (by repeat (first | (with_reducible first | exact HB.out | apply below_alloc | apply pw_below_drewN | apply below_drew1) | exact HB.out))) : w.heap.size ≤ gb179)); clear HB; have HB := n0_; have BK179 := n1_; have GW179 := n2_; have GE179 := n3_; clear n0_ n1_ n2_ n3_; clear hb hbox hg; have hcz3_0 : w2.cell? ⟨gb179, 0, none⟩ = some (.int .i64 a0_0) := (blk_cell BK179.out 0).trans rfl; have hcz3_1 : w2.cell? ⟨gb179, 1, none⟩ = some (.int .i64 a0_1) := (blk_cell BK179.out 1).trans rfl; have hcz3_2 : w2.cell? ⟨gb179, 2, none⟩ = some (.int .i64 a0_2) := (blk_cell BK179.out 2).trans rfl; have hfz3_0 := blk_frozen BK179.out 0; have hfz3_1 := blk_frozen BK179.out 1; have hfz3_2 := blk_frozen BK179.out 2))
  go_ret
  exact ⟨by first | rfl | (simp [errW_none, errW_some] <;> rfl) | (simp [*, errW_none, errW_some] <;> rfl), by repeat (first | (with_reducible first | exact HB.out | apply below_alloc | apply pw_below_drewN | apply below_drew1 | refine below_set ?_ GE179.out) | exact HB.out)⟩

/-! ### impl_whoOf: function 30 -/
def impl_whoOf.f (a0_0 : ByteArray) (a0_1 : ByteArray) (a0_2 : Int) (a0_3 : Int) (a0_4 : Int) : Option (ByteArray × ByteArray × Int × Int) := (zztime_Time_Zone.f a0_2 a0_3 a0_4).bind fun bt182 => ((zztime_Time_Unix.f a0_2 a0_3 a0_4).bind fun t184 => (some (a0_0, a0_1, t184, bt182.2)))
def impl_whoOf.T2 : Bool × List (List Nat × List Nat) := (true, [([], []), ([0], [0]), ([], []), ([2], [2]), ([], []), ([4], [4]), ([5], [5]), ([], []), ([1, 3, 6, 7], [1, 3, 6, 7]), ([8, 6, 0, 1, 2, 3, 4, 5, 6, 7, 8], [8])])
def impl_whoOf.B2 : List Nat := [0, 1, 0, 4, 0, 16, 48, 0, 255, 511]
theorem impl_whoOf.tab2 : rtab .any (opsOf Tryd.f30 2) = impl_whoOf.T2 := by kernel_rfl
theorem impl_whoOf.bits2 : waitsOk impl_whoOf.T2.2 impl_whoOf.B2 = true := by kernel_rfl
set_option maxHeartbeats 8000000 in
set_option maxRecDepth 100000 in
theorem impl_whoOf.calls (a0_0 : ByteArray) (a0_1 : ByteArray) (a0_2 : Int) (a0_3 : Int) (a0_4 : Int) (r1 : ByteArray) (r2 : ByteArray) (r3 : Int) (r4 : Int) (w : World) (h : impl_whoOf.f a0_0 a0_1 a0_2 a0_3 a0_4 = some (r1, r2, r3, r4)) :
    Calls Tryd.prog 30 #[.agg #[.string a0_0, .string a0_1, .int .i64 a0_2, .int .i64 a0_3, .int .i64 a0_4]] w fun e w' => e = .returned (.agg #[.string r1, .string r2, .int .i64 r3, .int .i64 r4]) ∧ Below w.heap.size w w' := by
  have hu64 := Tryd.underlying64
  have hu37 := Tryd.underlying37
  have hu62 := Tryd.underlying62
  have HB := Aside0.mk (Below.refl w.heap.size w)
  have H : ((zztime_Time_Zone.f a0_2 a0_3 a0_4).bind fun bt182 => ((zztime_Time_Unix.f a0_2 a0_3 a0_4).bind fun t184 => (some (a0_0, a0_1, t184, bt182.2)))) = some (r1, r2, r3, r4) := h
  clear h
  replace H := Option.bind_eq_some_iff.mp H
  obtain ⟨⟨t182, t183⟩, A20, H⟩ := H
  replace H : ((zztime_Time_Unix.f a0_2 a0_3 a0_4).bind fun t184 => (some (a0_0, a0_1, t184, t183))) = some (r1, r2, r3, r4) := H
  have A2 := Aside0.mk A20
  clear A20
  replace H := Option.bind_eq_some_iff.mp H
  obtain ⟨t184, A30, H⟩ := H
  replace H : (some (a0_0, a0_1, t184, t183)) = some (r1, r2, r3, r4) := H
  have A3 := Aside0.mk A30
  clear A30
  simp only [Option.some.injEq, Prod.mk.injEq] at H
  obtain ⟨rfl, rfl, rfl, rfl⟩ := H
  go_enter Tryd.func30, Tryd.ntmps30
  try go_wp2_with (first | ((with_reducible refine gate_dst (N := 1) rfl ?_); refine box_event ?hg (N := 1) ?hd (cs := #[.string a0_0, .string a0_1, .int .i64 a0_2, .int .i64 a0_3, .int .i64 a0_4]) (t := 64) ?hr ?_; (case hd => rfl); (case hg => rfl); (case hr => first | (go_simp; done) | (go_simp; rfl)); intro gb180 hg w4 hbox hb; have n0_ := Aside0.mk (below_step (by repeat (first | (with_reducible first | exact HB.out | apply below_alloc | apply pw_below_drewN | apply below_drew1) | exact HB.out)) hb); have n1_ := Aside0.mk (hbox); have n2_ := Aside0.mk ((by rw [hg]; exact (below_size (by repeat (first | (with_reducible first | exact HB.out | apply below_alloc | apply pw_below_drewN | apply below_drew1) | exact HB.out))) : w.heap.size ≤ gb180)); have n3_ := Aside0.mk ((by rw [hg]; exact (below_size (by repeat (first | (with_reducible first | exact HB.out | apply below_alloc | apply pw_below_drewN | apply below_drew1) | exact HB.out))) : w.heap.size ≤ gb180)); clear HB; have HB := n0_; have BK180 := n1_; have GW180 := n2_; have GE180 := n3_; clear n0_ n1_ n2_ n3_; clear hb hbox hg) | ((with_reducible refine gate_dst (N := 2) rfl ?_); refine box_event ?hg (N := 2) ?hd (cs := #[.string (⟨#[]⟩ : ByteArray), .string (⟨#[]⟩ : ByteArray), .int .i64 0, .int .i64 0]) (t := 37) ?hr ?_; (case hd => rfl); (case hg => rfl); (case hr => first | (go_simp; done) | (go_simp; rfl)); intro gb181 hg w5 hbox hb; have n0_ := Aside0.mk (blk_below (g := gb180) (o := .cells #[.string a0_0, .string a0_1, .int .i64 a0_2, .int .i64 a0_3, .int .i64 a0_4] 64 (0, 0)) (by (with_reducible repeat (first | refine blk_drewN ?_ _ | refine blk_drew ?_ | refine blk_alloc ?_ _)); exact BK180.out) hb); have n1_ := Aside0.mk (below_step (by repeat (first | (with_reducible first | exact HB.out | apply below_alloc | apply pw_below_drewN | apply below_drew1 | refine below_set ?_ GE180.out) | exact HB.out)) hb); have n2_ := Aside0.mk (hbox); have n3_ := Aside0.mk ((by rw [hg]; exact (below_size (by repeat (first | (with_reducible first | exact HB.out | apply below_alloc | apply pw_below_drewN | apply below_drew1 | refine below_set ?_ GE180.out) | exact HB.out))) : w.heap.size ≤ gb181)); have n4_ := Aside0.mk ((by rw [hg]; exact (below_size (by repeat (first | (with_reducible first | exact HB.out | apply below_alloc | apply pw_below_drewN | apply below_drew1 | refine below_set ?_ GE180.out) | exact HB.out))) : w.heap.size ≤ gb181)); have n5_ := Aside0.mk ((by rw [hg]; exact Nat.ne_of_lt (blk_lt (g := gb180) (o := .cells #[.string a0_0, .string a0_1, .int .i64 a0_2, .int .i64 a0_3, .int .i64 a0_4] 64 (0, 0)) (by (with_reducible repeat (first | refine blk_drewN ?_ _ | refine blk_drew ?_ | refine blk_alloc ?_ _)); exact BK180.out)) : gb180 ≠ gb181)); have n6_ := Aside0.mk ((by rw [hg]; exact Nat.ne_of_gt (blk_lt (g := gb180) (o := .cells #[.string a0_0, .string a0_1, .int .i64 a0_2, .int .i64 a0_3, .int .i64 a0_4] 64 (0, 0)) (by (with_reducible repeat (first | refine blk_drewN ?_ _ | refine blk_drew ?_ | refine blk_alloc ?_ _)); exact BK180.out)) : gb181 ≠ gb180)); clear BK180; clear HB; have BK180 := n0_; have HB := n1_; have BK181 := n2_; have GW181 := n3_; have GE181 := n4_; have NB180_181 := n5_; have NB181_180 := n6_; clear n0_ n1_ n2_ n3_ n4_ n5_ n6_; clear hb hbox hg; have hnb6 := NB180_181.out; have hnc6 := NB181_180.out; have hcz7_0 : w5.cell? ⟨gb180, 0, none⟩ = some (.string a0_0) := (blk_cell BK180.out 0).trans rfl; have hcz7_1 : w5.cell? ⟨gb180, 1, none⟩ = some (.string a0_1) := (blk_cell BK180.out 1).trans rfl; have hcz7_2 : w5.cell? ⟨gb180, 2, none⟩ = some (.int .i64 a0_2) := (blk_cell BK180.out 2).trans rfl; have hcz7_3 : w5.cell? ⟨gb180, 3, none⟩ = some (.int .i64 a0_3) := (blk_cell BK180.out 3).trans rfl; have hcz7_4 : w5.cell? ⟨gb180, 4, none⟩ = some (.int .i64 a0_4) := (blk_cell BK180.out 4).trans rfl; have hfz7_0 := blk_frozen BK180.out 0; have hfz7_1 := blk_frozen BK180.out 1; have hfz7_2 := blk_frozen BK180.out 2; have hfz7_3 := blk_frozen BK180.out 3; have hfz7_4 := blk_frozen BK180.out 4) | ((with_reducible refine gate_callee (f := 48) rfl ?_); refine goesL_ (some 8) rfl rfl Tryd.func48 (by kernel_rfl) rfl #[.agg #[.int .i64 a0_2, .int .i64 a0_3, .int .i64 a0_4]] rfl (by (try simp only [List.map_toArray, List.map_cons, List.map_nil]); first | done | rfl | (simp only [List.length_drop, List.length_take]; rfl)) ?_; (with_reducible refine (zztime_Time_Zone.calls a0_2 a0_3 a0_4 t182 t183 _ A2.out).mono ?_); rintro e w8 ⟨rfl, hb⟩; refine ⟨_, rfl, ?_⟩; have n0_ := Aside0.mk (blk_below (g := gb180) (o := .cells #[.string a0_0, .string a0_1, .int .i64 a0_2, .int .i64 a0_3, .int .i64 a0_4] 64 (0, 0)) (by (with_reducible repeat (first | refine blk_drewN ?_ _ | refine blk_drew ?_ | refine blk_alloc ?_ _)); exact BK180.out) hb); have n1_ := Aside0.mk (blk_below (g := gb181) (o := .cells #[.string (⟨#[]⟩ : ByteArray), .string (⟨#[]⟩ : ByteArray), .int .i64 0, .int .i64 0] 37 (0, 0)) (by (with_reducible repeat (first | refine blk_drewN ?_ _ | refine blk_drew ?_ | refine blk_alloc ?_ _)); exact BK181.out) hb); have n2_ := Aside0.mk (below_step (by repeat (first | (with_reducible first | exact HB.out | apply below_alloc | apply pw_below_drewN | apply below_drew1 | refine below_set ?_ GE180.out | refine below_set ?_ GE181.out) | exact HB.out)) hb); clear BK180; clear BK181; clear HB; have BK180 := n0_; have BK181 := n1_; have HB := n2_; clear n0_ n1_ n2_; (try clear hb); (try clear hb2); (try clear hk); (try clear hi)))
  have n0_ := Aside0.mk (blk_drew BK180.out)
  have n1_ := Aside0.mk (blk_drew BK181.out)
  have n2_ := Aside0.mk (below_drew1 HB.out)
  clear BK180
  clear BK181
  clear HB
  have BK180 := n0_
  have BK181 := n1_
  have HB := n2_
  clear n0_ n1_ n2_
  refine start_ (n := 10) (S := fun w' => w'.cell? ⟨gb180, 0, none⟩ = some (.string a0_0) ∧ w'.cell? ⟨gb180, 1, none⟩ = some (.string a0_1) ∧ w'.cell? ⟨gb180, 2, none⟩ = some (.int .i64 a0_2) ∧ w'.cell? ⟨gb180, 3, none⟩ = some (.int .i64 a0_3) ∧ w'.cell? ⟨gb180, 4, none⟩ = some (.int .i64 a0_4)) (ds := []) #[false, false, false, false, false, false, false, false, false, false] (by kernel_rfl) rfl rfl ⟨(blk_cell BK180.out 0).trans rfl, (blk_cell BK180.out 1).trans rfl, (blk_cell BK180.out 2).trans rfl, (blk_cell BK180.out 3).trans rfl, (blk_cell BK180.out 4).trans rfl⟩ (fun hHeld => ?_); refine with_tabW impl_whoOf.tab2 impl_whoOf.bits2 (fun HT_ HW_ => ?_)
  generalize w8.drew = w9 at BK180 BK181 HB hHeld ⊢
  refine pure_ (i := 0) (N := some 11) (v := ?_) (a' := ?_) #[true, false, false, false, false, false, false, false, false, false] rfl rfl (any_of HT_.out (by kernel_rfl)) (fun _ _ _ h => h) (Or.inl ⟨by rfl, ?_⟩) ?_ ?_
  rotate_left
  · intro w'
    go_simp
    with_reducible rfl
  rotate_left
  · simp only [Act.put, List.setIfInBounds_toArray, List.set_cons_zero, List.set_cons_succ, i64_w, i32_w]
    rfl
  refine pure_ (i := 2) (N := some 13) (v := ?_) (a' := ?_) #[true, false, true, false, false, false, false, false, false, false] rfl rfl (any_of HT_.out (by kernel_rfl)) (fun _ _ _ h => h) (Or.inl ⟨by rfl, ?_⟩) ?_ ?_
  rotate_left
  · intro w'
    go_simp
    with_reducible rfl
  rotate_left
  · simp only [Act.put, List.setIfInBounds_toArray, List.set_cons_zero, List.set_cons_succ, i64_w, i32_w]
    rfl
  refine pure_ (i := 4) (N := some 15) (v := ?_) (a' := ?_) #[true, false, true, false, true, false, false, false, false, false] rfl rfl (any_of HT_.out (by kernel_rfl)) (fun _ _ _ h => h) (Or.inl ⟨by rfl, ?_⟩) ?_ ?_
  rotate_left
  · intro w'
    go_simp
    with_reducible rfl
  rotate_left
  · simp only [Act.put, List.setIfInBounds_toArray, List.set_cons_zero, List.set_cons_succ, i64_w, i32_w]
    rfl
  refine pure_ (i := 7) (N := some 18) (v := ?_) (a' := ?_) #[true, false, true, false, true, false, false, true, false, false] rfl rfl (any_of HT_.out (by kernel_rfl)) (fun _ _ _ h => h) (Or.inl ⟨by rfl, ?_⟩) ?_ ?_
  rotate_left
  · intro w'
    go_simp
    with_reducible rfl
  rotate_left
  · simp only [Act.put, List.setIfInBounds_toArray, List.set_cons_zero, List.set_cons_succ, i64_w, i32_w]
    rfl
  refine take_ (i := 1) (N := some 12) (v := ?_) (a' := ?_) #[true, true, true, false, true, false, false, true, false, false] rfl rfl (take_ofW HT_.out HW_.out (by kernel_rfl)) (fun _ _ _ h => h) (Or.inl ⟨by rfl, ?_⟩) hHeld ?_ ?_
  rotate_left
  · rintro w' ⟨s0, s1, s2, s3, s4⟩
    go_simp
    with_reducible rfl
  rotate_left
  · simp only [Act.put, List.setIfInBounds_toArray, List.set_cons_zero, List.set_cons_succ, i64_w, i32_w]
    rfl
  refine take_ (i := 3) (N := some 14) (v := ?_) (a' := ?_) #[true, true, true, true, true, false, false, true, false, false] rfl rfl (take_ofW HT_.out HW_.out (by kernel_rfl)) (fun _ _ _ h => h) (Or.inl ⟨by rfl, ?_⟩) hHeld ?_ ?_
  rotate_left
  · rintro w' ⟨s0, s1, s2, s3, s4⟩
    go_simp
    with_reducible rfl
  rotate_left
  · simp only [Act.put, List.setIfInBounds_toArray, List.set_cons_zero, List.set_cons_succ, i64_w, i32_w]
    rfl
  refine take_ (i := 5) (N := some 16) (v := ?_) (a' := ?_) #[true, true, true, true, true, true, false, true, false, false] rfl rfl (take_ofW HT_.out HW_.out (by kernel_rfl)) (fun _ _ _ h => h) (Or.inl ⟨by rfl, ?_⟩) hHeld ?_ ?_
  rotate_left
  · rintro w' ⟨s0, s1, s2, s3, s4⟩
    go_simp
    with_reducible rfl
  rotate_left
  · simp only [Act.put, List.setIfInBounds_toArray, List.set_cons_zero, List.set_cons_succ, i64_w, i32_w]
    rfl
  refine one_ (i := 6) (N := some 17) #[true, true, true, true, true, true, true, true, false, false] rfl rfl (one_of HT_.out (by kernel_rfl)) (by decide) (fun K hK => ?_)
  refine goes_ Tryd.func49 (by kernel_rfl) rfl #[.agg #[.int .i64 a0_2, .int .i64 a0_3, .int .i64 a0_4]] (by rfl) rfl rfl (by (try simp only [List.map_toArray, List.map_cons, List.map_nil]); first | done | rfl | (simp only [List.length_drop, List.length_take]; rfl)) ?_
  with_reducible refine (zztime_Time_Unix.calls a0_2 a0_3 a0_4 t184 _ A3.out).mono ?_
  rintro e w10 ⟨rfl, hb⟩
  refine ⟨_, rfl, ?_⟩
  have n0_ := Aside0.mk (blk_below (g := gb180) (o := .cells #[.string a0_0, .string a0_1, .int .i64 a0_2, .int .i64 a0_3, .int .i64 a0_4] 64 (0, 0)) (by (with_reducible repeat (first | refine blk_drewN ?_ _ | refine blk_drew ?_ | refine blk_alloc ?_ _)); exact BK180.out) hb)
  have n1_ := Aside0.mk (blk_below (g := gb181) (o := .cells #[.string (⟨#[]⟩ : ByteArray), .string (⟨#[]⟩ : ByteArray), .int .i64 0, .int .i64 0] 37 (0, 0)) (by (with_reducible repeat (first | refine blk_drewN ?_ _ | refine blk_drew ?_ | refine blk_alloc ?_ _)); exact BK181.out) hb)
  have n2_ := Aside0.mk (below_step (by repeat (first | (with_reducible first | exact HB.out | apply below_alloc | apply pw_below_drewN | apply below_drew1 | refine below_set ?_ GE180.out | refine below_set ?_ GE181.out) | exact HB.out)) hb)
  clear BK180
  clear BK181
  clear HB
  have BK180 := n0_
  have BK181 := n1_
  have HB := n2_
  clear n0_ n1_ n2_
  (try clear hb)
  (try clear hb2)
  (try clear hk)
  (try clear hi)
  refine hK.out _ _ ⟨(blk_cell BK180.out 0).trans rfl, (blk_cell BK180.out 1).trans rfl, (blk_cell BK180.out 2).trans rfl, (blk_cell BK180.out 3).trans rfl, (blk_cell BK180.out 4).trans rfl⟩ (fun hHeld => ?_)
  clear hK K
  refine norm_ (a' := ?_) ?_ ?_
  rotate_left
  · show Act.put _ (some 17) _ = _
    simp only [Act.put, List.setIfInBounds_toArray, List.set_cons_zero, List.set_cons_succ, i64_w, i32_w]
    rfl
  refine pure_ (i := 8) (N := some 19) (v := ?_) (a' := ?_) #[true, true, true, true, true, true, true, true, true, false] rfl rfl (any_of HT_.out (by kernel_rfl)) (fun _ _ _ h => h) (Or.inl ⟨by rfl, ?_⟩) ?_ ?_
  rotate_left
  · intro w'
    go_simp
    with_reducible rfl
  rotate_left
  · simp only [Act.put, List.setIfInBounds_toArray, List.set_cons_zero, List.set_cons_succ, i64_w, i32_w]
    rfl
  refine one_ (i := 9) (N := none) #[true, true, true, true, true, true, true, true, true, true] rfl rfl (one_of HT_.out (by kernel_rfl)) (by decide) (fun K hK => ?_)
  have hs11 : w10.cell? ⟨gb181, 0, none⟩ = some (.string (⟨#[]⟩ : ByteArray)) := (blk_cell BK181.out 0).trans rfl
  have hfs11 := blk_frozen BK181.out 0
  have hns11_0 := NB180_181.out
  have hms11_0 := NB181_180.out
  have hs12 : w10.cell? ⟨gb181, 1, none⟩ = some (.string (⟨#[]⟩ : ByteArray)) := (blk_cell BK181.out 1).trans rfl
  have hfs12 := blk_frozen BK181.out 1
  have hns12_0 := NB180_181.out
  have hms12_0 := NB181_180.out
  have hs13 : w10.cell? ⟨gb181, 2, none⟩ = some (.int .i64 0) := (blk_cell BK181.out 2).trans rfl
  have hfs13 := blk_frozen BK181.out 2
  have hns13_0 := NB180_181.out
  have hms13_0 := NB181_180.out
  have hs14 : w10.cell? ⟨gb181, 3, none⟩ = some (.int .i64 0) := (blk_cell BK181.out 3).trans rfl
  have hfs14 := blk_frozen BK181.out 3
  have hns14_0 := NB180_181.out
  have hms14_0 := NB181_180.out
  refine skip_ (w1 := ?_) (by rfl) rfl ?_ ?_
  rotate_left
  · go_simp
    rfl
  refine hK.out _ _ ⟨((cell_far (p := ⟨gb181, _, none⟩) NB180_181.out _).trans (((cell_far (p := ⟨gb181, _, none⟩) NB180_181.out _).trans (((cell_far (p := ⟨gb181, _, none⟩) NB180_181.out _).trans (((cell_far (p := ⟨gb181, _, none⟩) NB180_181.out _).trans (hHeld.1)))))))), ((cell_far (p := ⟨gb181, _, none⟩) NB180_181.out _).trans (((cell_far (p := ⟨gb181, _, none⟩) NB180_181.out _).trans (((cell_far (p := ⟨gb181, _, none⟩) NB180_181.out _).trans (((cell_far (p := ⟨gb181, _, none⟩) NB180_181.out _).trans (hHeld.2.1)))))))), ((cell_far (p := ⟨gb181, _, none⟩) NB180_181.out _).trans (((cell_far (p := ⟨gb181, _, none⟩) NB180_181.out _).trans (((cell_far (p := ⟨gb181, _, none⟩) NB180_181.out _).trans (((cell_far (p := ⟨gb181, _, none⟩) NB180_181.out _).trans (hHeld.2.2.1)))))))), ((cell_far (p := ⟨gb181, _, none⟩) NB180_181.out _).trans (((cell_far (p := ⟨gb181, _, none⟩) NB180_181.out _).trans (((cell_far (p := ⟨gb181, _, none⟩) NB180_181.out _).trans (((cell_far (p := ⟨gb181, _, none⟩) NB180_181.out _).trans (hHeld.2.2.2.1)))))))), ((cell_far (p := ⟨gb181, _, none⟩) NB180_181.out _).trans (((cell_far (p := ⟨gb181, _, none⟩) NB180_181.out _).trans (((cell_far (p := ⟨gb181, _, none⟩) NB180_181.out _).trans (((cell_far (p := ⟨gb181, _, none⟩) NB180_181.out _).trans (hHeld.2.2.2.2))))))))⟩ (fun hHeld => ?_)
  clear hK K
  refine done_ (done_of HT_.out (by kernel_rfl)) ?_
  try go_wp2
  refine bodyPost_ret (results_cell_row rfl _ _ gb181 37 #[.string a0_0, .string a0_1, .int .i64 t184, .int .i64 t183] (0, 0) _ rfl (by (with_reducible repeat (first | refine blk_drewN ?_ _ | refine blk_drew ?_ | refine blk_alloc ?_ _)); refine blk_put (cs := #[.string a0_0, .string a0_1, .int .i64 t184, .int .i64 0]) ?_ 3 _ rfl; (with_reducible repeat (first | refine blk_drewN ?_ _ | refine blk_drew ?_ | refine blk_alloc ?_ _)); refine blk_put (cs := #[.string a0_0, .string a0_1, .int .i64 0, .int .i64 0]) ?_ 2 _ rfl; (with_reducible repeat (first | refine blk_drewN ?_ _ | refine blk_drew ?_ | refine blk_alloc ?_ _)); refine blk_put (cs := #[.string a0_0, .string (⟨#[]⟩ : ByteArray), .int .i64 0, .int .i64 0]) ?_ 1 _ rfl; (with_reducible repeat (first | refine blk_drewN ?_ _ | refine blk_drew ?_ | refine blk_alloc ?_ _)); refine blk_put (cs := #[.string (⟨#[]⟩ : ByteArray), .string (⟨#[]⟩ : ByteArray), .int .i64 0, .int .i64 0]) ?_ 0 _ rfl; (with_reducible repeat (first | refine blk_drewN ?_ _ | refine blk_drew ?_ | refine blk_alloc ?_ _)); exact BK181.out) Tryd.underlying37 rfl (by kernel_rfl)) rfl ?_
  exact ⟨by first | rfl | (simp [errW_none, errW_some] <;> rfl) | (simp [*, errW_none, errW_some] <;> rfl), by repeat (first | (with_reducible first | exact HB.out | apply below_alloc | apply pw_below_drewN | apply below_drew1 | refine below_set ?_ GE180.out | refine below_set ?_ GE181.out) | exact HB.out)⟩

-- NOT PRINTED: function 13 (impl_DecodeWho)

-- NOT PRINTED: function 31 (spec_Decimal)

/-! ### spec_two: function 50 -/
def spec_two.f (a0 : Int) : Option (ByteArray) := some (strOfNums (([(wrap64 (48 + (Int.tmod (wrap64 (Int.tdiv a0 10)) 10))) % 256, (wrap64 (48 + (Int.tmod a0 10))) % 256] : List Int)))
set_option maxHeartbeats 8000000 in
set_option maxRecDepth 100000 in
theorem spec_two.calls (a0 : Int) (r : ByteArray) (w : World) (h : spec_two.f a0 = some r) :
    Calls Tryd.prog 50 #[.int .i64 a0] w fun e w' => e = .returned (.string r) ∧ Below w.heap.size w w' := by
  have HB := Aside0.mk (Below.refl w.heap.size w)
  have H : (some (strOfNums (([(wrap64 (48 + (Int.tmod (wrap64 (Int.tdiv a0 10)) 10))) % 256, (wrap64 (48 + (Int.tmod a0 10))) % 256] : List Int)))) = some r := h
  clear h
  obtain ⟨y193, hy193⟩ : ∃ y_ : List Int, y_ = (([(wrap64 (48 + (Int.tmod (wrap64 (Int.tdiv a0 10)) 10))) % 256, (wrap64 (48 + (Int.tmod a0 10))) % 256] : List Int)) := ⟨_, rfl⟩
  replace H : (some (strOfNums y193)) = some r := by first | (rw [hy193]; with_reducible exact H) | (have H2_ := (Option.bind_some _ _).symm.trans H; rw [hy193]; with_reducible exact H2_) | (have H2_ := (Option.bind_some _ _).symm.trans H; with_reducible exact H2_) | with_reducible exact H | (rw [hy193]; exact H) | exact H
  have Ny193 := Aside0.mk hy193
  clear hy193
  obtain rfl := Option.some.inj H
  go_enter Tryd.func50, Tryd.ntmps50
  go_wp2_with (first | ((with_reducible refine gate_dst (N := 12) rfl ?_); refine Kd.R_lit (Kd.int .u8) _ 5 ?hg (N := 12) ?hd (xs := ([(wrap64 (48 + (Int.tmod (wrap64 (Int.tdiv a0 10)) 10))) % 256, (wrap64 (48 + (Int.tmod a0 10))) % 256] : List Int)) (inner := [.int .u8 ((wrap64 (48 + (Int.tmod (wrap64 (Int.tdiv a0 10)) 10))) % 256), .int .u8 ((wrap64 (48 + (Int.tmod a0 10))) % 256)]) (ok := fun _ => True) (okp := fun _ => True) ?hr ?hp (fun _ hk => hk) trivial (Below.refl _ _) (Nat.le_refl _) (by simp) ?_; (case hd => rfl); (case hg => rfl); (case hr => first | (go_simp; done) | (go_simp; rfl)); (case hp => exact (Reps.one (show Kd.M (Kd.int .u8) _ _ _ ((wrap64 (48 + (Int.tmod (wrap64 (Int.tdiv a0 10)) 10))) % 256) [.int .u8 ((wrap64 (48 + (Int.tmod (wrap64 (Int.tdiv a0 10)) 10))) % 256)] from rfl) (Reps.one (show Kd.M (Kd.int .u8) _ _ _ ((wrap64 (48 + (Int.tmod a0 10))) % 256) [.int .u8 ((wrap64 (48 + (Int.tmod a0 10))) % 256)] from rfl) (Reps.none _ _)))); intro v194 w2 ho3 hb hg_ hnew_; clear hg_ hnew_; (first | rw [← Ny193.out] at ho3 | (simp only [Int.reduceToNat] at ho3; rw [← Ny193.out] at ho3)); have n0_ := Aside0.mk (Kd.R_lower ho3 (below_size (by repeat (first | (with_reducible first | exact HB.out | apply below_alloc | apply pw_below_drewN | apply below_drew1) | exact HB.out)))); have n1_ := Aside0.mk (below_step (by repeat (first | (with_reducible first | exact HB.out | apply below_alloc | apply pw_below_drewN | apply below_drew1) | exact HB.out)) hb); clear HB; have HO195 := n0_; have HB := n1_; clear n0_ n1_; clear hb ho3; have hcv4 := own_string (P := Tryd.prog) Tryd.underlying26 Tryd.underlying5 Tryd.underlying9 (Kd.own_of_R HO195.out)))
  go_ret
  exact ⟨by first | rfl | (simp [errW_none, errW_some] <;> rfl) | (simp [*, errW_none, errW_some] <;> rfl), by repeat (first | (with_reducible first | exact HB.out | apply below_alloc | apply pw_below_drewN | apply below_drew1) | exact HB.out)⟩

-- NOT PRINTED: function 14 (spec_WhoText)

-- NOT PRINTED: function 4 (laws_FnWhoRead)

end Go.Proofs.YtmdffoplfiamlaaDoor.PFnWhoRead
