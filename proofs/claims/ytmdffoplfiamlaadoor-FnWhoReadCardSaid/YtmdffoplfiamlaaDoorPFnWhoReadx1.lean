-- PRINTED BY print.sh 35421559b90ae4d0a3588c463048766b98c2df88dd9212a6774a882060cdf62d: not written by this session
import Derived.Test.YtmdffoplfiamlaaDoorPFnWhoReadx0
namespace Go.Proofs.YtmdffoplfiamlaaDoor.PFnWhoRead
open Go.RowKit Go.Proofs.YtmdffoplfiamlaaDoorW.PrintWords Go.Proofs.YtmdffoplfiamlaaDoorW.PrintLast Go.Proofs.YtmdffoplfiamlaaDoorW.PrintMore
attribute [local go_sem] max2_int min2_int max_two min_two max_three min_three max_four min_four   -- for this text's walks alone
set_option linter.unusedVariables false
set_option linter.unusedSimpArgs false

/-! ### laws_zzFits22: function 11 -/
def laws_zzFits22.f (a0_0 : ByteArray) (a0_1 : ByteArray) (a0_2 : Int) (a0_3 : Int) : Option (Bool) := if (a0_0.size : Int) > 2147483647 then (some false) else (if (a0_1.size : Int) > 2147483647 then (some false) else (some true))
set_option maxHeartbeats 8000000 in
set_option maxRecDepth 100000 in
theorem laws_zzFits22.calls (a0_0 : ByteArray) (a0_1 : ByteArray) (a0_2 : Int) (a0_3 : Int) (r : Bool) (w : World) (h : laws_zzFits22.f a0_0 a0_1 a0_2 a0_3 = some r) :
    Calls Tryd.prog 11 #[.agg #[.string a0_0, .string a0_1, .int .i64 a0_2, .int .i64 a0_3]] w fun e w' => e = .returned (.bool r) ∧ Below w.heap.size w w' := by
  have hu37 := Tryd.underlying37
  have HB := Aside0.mk (Below.refl w.heap.size w)
  have H : (if (a0_0.size : Int) > 2147483647 then (some false) else (if (a0_1.size : Int) > 2147483647 then (some false) else (some true))) = some r := h
  clear h
  by_cases c2 : (a0_0.size : Int) > 2147483647
  · rw [if_pos c2] at H
    have c2b0 : decide (2147483647 < (a0_0.size : Int)) = true := decide_eq_true c2
    have c2b1 : decide (2147483647 < a0_0.size) = true := decide_eq_true (by omega)
    clear c2
    obtain rfl := Option.some.inj H
    go_enter Tryd.func11, Tryd.ntmps11
    go_wp2_with (first | ((with_reducible refine gate_dst (N := 1) rfl ?_); refine box_event ?hg (N := 1) ?hd (cs := #[.string a0_0, .string a0_1, .int .i64 a0_2, .int .i64 a0_3]) (t := 37) ?hr ?_; (case hd => rfl); (case hg => rfl); (case hr => first | (go_simp; done) | (go_simp; rfl)); intro gb101 hg w3 hbox hb; have n0_ := Aside0.mk (below_step (by repeat (first | (with_reducible first | exact HB.out | apply below_alloc | apply pw_below_drewN | apply below_drew1) | exact HB.out)) hb); have n1_ := Aside0.mk (hbox); have n2_ := Aside0.mk ((by rw [hg]; exact (below_size (by repeat (first | (with_reducible first | exact HB.out | apply below_alloc | apply pw_below_drewN | apply below_drew1) | exact HB.out))) : w.heap.size ≤ gb101)); have n3_ := Aside0.mk ((by rw [hg]; exact (below_size (by repeat (first | (with_reducible first | exact HB.out | apply below_alloc | apply pw_below_drewN | apply below_drew1) | exact HB.out))) : w.heap.size ≤ gb101)); clear HB; have HB := n0_; have BK101 := n1_; have GW101 := n2_; have GE101 := n3_; clear n0_ n1_ n2_ n3_; clear hb hbox hg; have hcz4_0 : w3.cell? ⟨gb101, 0, none⟩ = some (.string a0_0) := (blk_cell BK101.out 0).trans rfl; have hcz4_1 : w3.cell? ⟨gb101, 1, none⟩ = some (.string a0_1) := (blk_cell BK101.out 1).trans rfl; have hcz4_2 : w3.cell? ⟨gb101, 2, none⟩ = some (.int .i64 a0_2) := (blk_cell BK101.out 2).trans rfl; have hcz4_3 : w3.cell? ⟨gb101, 3, none⟩ = some (.int .i64 a0_3) := (blk_cell BK101.out 3).trans rfl; have hfz4_0 := blk_frozen BK101.out 0; have hfz4_1 := blk_frozen BK101.out 1; have hfz4_2 := blk_frozen BK101.out 2; have hfz4_3 := blk_frozen BK101.out 3))
    go_ret
    exact ⟨by first | rfl | (simp [errW_none, errW_some] <;> rfl) | (simp [*, errW_none, errW_some] <;> rfl), by repeat (first | (with_reducible first | exact HB.out | apply below_alloc | apply pw_below_drewN | apply below_drew1 | refine below_set ?_ GE101.out) | exact HB.out)⟩
  · rw [if_neg c2] at H
    have c2b0 : decide (2147483647 < (a0_0.size : Int)) = false := decide_eq_false c2
    have c2b1 : decide (2147483647 < a0_0.size) = false := decide_eq_false (by omega)
    clear c2
    by_cases c5 : (a0_1.size : Int) > 2147483647
    · rw [if_pos c5] at H
      have c5b0 : decide (2147483647 < (a0_1.size : Int)) = true := decide_eq_true c5
      have c5b1 : decide (2147483647 < a0_1.size) = true := decide_eq_true (by omega)
      clear c5
      obtain rfl := Option.some.inj H
      go_enter Tryd.func11, Tryd.ntmps11
      go_wp2_with (first | ((with_reducible refine gate_dst (N := 1) rfl ?_); refine box_event ?hg (N := 1) ?hd (cs := #[.string a0_0, .string a0_1, .int .i64 a0_2, .int .i64 a0_3]) (t := 37) ?hr ?_; (case hd => rfl); (case hg => rfl); (case hr => first | (go_simp; done) | (go_simp; rfl)); intro gb101 hg w6 hbox hb; have n0_ := Aside0.mk (below_step (by repeat (first | (with_reducible first | exact HB.out | apply below_alloc | apply pw_below_drewN | apply below_drew1) | exact HB.out)) hb); have n1_ := Aside0.mk (hbox); have n2_ := Aside0.mk ((by rw [hg]; exact (below_size (by repeat (first | (with_reducible first | exact HB.out | apply below_alloc | apply pw_below_drewN | apply below_drew1) | exact HB.out))) : w.heap.size ≤ gb101)); have n3_ := Aside0.mk ((by rw [hg]; exact (below_size (by repeat (first | (with_reducible first | exact HB.out | apply below_alloc | apply pw_below_drewN | apply below_drew1) | exact HB.out))) : w.heap.size ≤ gb101)); clear HB; have HB := n0_; have BK101 := n1_; have GW101 := n2_; have GE101 := n3_; clear n0_ n1_ n2_ n3_; clear hb hbox hg; have hcz7_0 : w6.cell? ⟨gb101, 0, none⟩ = some (.string a0_0) := (blk_cell BK101.out 0).trans rfl; have hcz7_1 : w6.cell? ⟨gb101, 1, none⟩ = some (.string a0_1) := (blk_cell BK101.out 1).trans rfl; have hcz7_2 : w6.cell? ⟨gb101, 2, none⟩ = some (.int .i64 a0_2) := (blk_cell BK101.out 2).trans rfl; have hcz7_3 : w6.cell? ⟨gb101, 3, none⟩ = some (.int .i64 a0_3) := (blk_cell BK101.out 3).trans rfl; have hfz7_0 := blk_frozen BK101.out 0; have hfz7_1 := blk_frozen BK101.out 1; have hfz7_2 := blk_frozen BK101.out 2; have hfz7_3 := blk_frozen BK101.out 3))
      go_ret
      exact ⟨by first | rfl | (simp [errW_none, errW_some] <;> rfl) | (simp [*, errW_none, errW_some] <;> rfl), by repeat (first | (with_reducible first | exact HB.out | apply below_alloc | apply pw_below_drewN | apply below_drew1 | refine below_set ?_ GE101.out) | exact HB.out)⟩
    · rw [if_neg c5] at H
      have c5b0 : decide (2147483647 < (a0_1.size : Int)) = false := decide_eq_false c5
      have c5b1 : decide (2147483647 < a0_1.size) = false := decide_eq_false (by omega)
      clear c5
      obtain rfl := Option.some.inj H
      go_enter Tryd.func11, Tryd.ntmps11
      go_wp2_with (first | ((with_reducible refine gate_dst (N := 1) rfl ?_); refine box_event ?hg (N := 1) ?hd (cs := #[.string a0_0, .string a0_1, .int .i64 a0_2, .int .i64 a0_3]) (t := 37) ?hr ?_; (case hd => rfl); (case hg => rfl); (case hr => first | (go_simp; done) | (go_simp; rfl)); intro gb101 hg w8 hbox hb; have n0_ := Aside0.mk (below_step (by repeat (first | (with_reducible first | exact HB.out | apply below_alloc | apply pw_below_drewN | apply below_drew1) | exact HB.out)) hb); have n1_ := Aside0.mk (hbox); have n2_ := Aside0.mk ((by rw [hg]; exact (below_size (by repeat (first | (with_reducible first | exact HB.out | apply below_alloc | apply pw_below_drewN | apply below_drew1) | exact HB.out))) : w.heap.size ≤ gb101)); have n3_ := Aside0.mk ((by rw [hg]; exact (below_size (by repeat (first | (with_reducible first | exact HB.out | apply below_alloc | apply pw_below_drewN | apply below_drew1) | exact HB.out))) : w.heap.size ≤ gb101)); clear HB; have HB := n0_; have BK101 := n1_; have GW101 := n2_; have GE101 := n3_; clear n0_ n1_ n2_ n3_; clear hb hbox hg; have hcz9_0 : w8.cell? ⟨gb101, 0, none⟩ = some (.string a0_0) := (blk_cell BK101.out 0).trans rfl; have hcz9_1 : w8.cell? ⟨gb101, 1, none⟩ = some (.string a0_1) := (blk_cell BK101.out 1).trans rfl; have hcz9_2 : w8.cell? ⟨gb101, 2, none⟩ = some (.int .i64 a0_2) := (blk_cell BK101.out 2).trans rfl; have hcz9_3 : w8.cell? ⟨gb101, 3, none⟩ = some (.int .i64 a0_3) := (blk_cell BK101.out 3).trans rfl; have hfz9_0 := blk_frozen BK101.out 0; have hfz9_1 := blk_frozen BK101.out 1; have hfz9_2 := blk_frozen BK101.out 2; have hfz9_3 := blk_frozen BK101.out 3))
      go_ret
      exact ⟨by first | rfl | (simp [errW_none, errW_some] <;> rfl) | (simp [*, errW_none, errW_some] <;> rfl), by repeat (first | (with_reducible first | exact HB.out | apply below_alloc | apply pw_below_drewN | apply below_drew1 | refine below_set ?_ GE101.out) | exact HB.out)⟩

/-! ### spec_Has: function 44 -/
def spec_Has.l0 : Nat → ByteArray → Int → Int → Int → Option (Bool)
  | 0, _, _, _, _ => none
  | k + 1, x0, x1, x7, x8 => if x8 < x7 then (if 0 ≤ x8 then (if x8 < (x0.size : Int) then (if (bt x0 x8) = x1 then (some true) else (spec_Has.l0 k x0 x1 x7 (wrap64 (x8 + 1)))) else (none)) else (none)) else (some false)
def spec_Has.f (k : Nat) (a0 : ByteArray) (a1 : Int) : Option (Bool) := spec_Has.l0 k a0 a1 (a0.size : Int) 0
theorem spec_Has.mono_l : ∀ k, (∀ y0 y1 y2 y3, LeO (spec_Has.l0 k y0 y1 y2 y3) (spec_Has.l0 (k + 1) y0 y1 y2 y3))
  | 0 => fun _ _ _ _ r h => by simp [spec_Has.l0] at h
  | k + 1 => by
    have ih0 := spec_Has.mono_l k
    · intro y0 y1 y2 y3
      unfold spec_Has.l0
      repeat' first
      | (with_reducible exact ih0 _ _ _ _)
      | (with_reducible exact LeO.refl _)
      | (with_reducible exact LeO.none _)
      | (with_reducible refine LeO.ite ?_ ?_)
      | (with_reducible refine LeO.bind ?_ (fun _ => ?_))
      | exact ih0 _ _ _ _
      | exact LeO.none _
      | refine LeO.ite ?_ ?_
      | refine LeO.bind ?_ (fun _ => ?_)
theorem spec_Has.mono : ∀ a0 a1 k, LeO (spec_Has.f k a0 a1) (spec_Has.f (k + 1) a0 a1) := by
  intro a0 a1 k
  have ih0 := spec_Has.mono_l k
  unfold spec_Has.f
  repeat' first
      | (with_reducible exact ih0 _ _ _ _)
      | (with_reducible exact LeO.refl _)
      | (with_reducible exact LeO.none _)
      | (with_reducible refine LeO.ite ?_ ?_)
      | (with_reducible refine LeO.bind ?_ (fun _ => ?_))
      | exact ih0 _ _ _ _
      | exact LeO.none _
      | refine LeO.ite ?_ ?_
      | refine LeO.bind ?_ (fun _ => ?_)
set_option maxHeartbeats 8000000 in
set_option maxRecDepth 100000 in
theorem spec_Has.calls (k : Nat) (a0 : ByteArray) (a1 : Int) (r : Bool) (w : World) (h : spec_Has.f k a0 a1 = some r) :
    Calls Tryd.prog 44 #[.string a0, .int .u8 a1] w fun e w' => e = .returned (.bool r) ∧ Drawn0 w w' := by
  have H : (spec_Has.l0 k a0 a1 (a0.size : Int) 0) = some r := h
  clear h
  have H' := Aside0.mk H
  clear H
  go_enter Tryd.func44, Tryd.ntmps44
  go_wp2
  go_loopg [8] k (fun kq v8 w' => ∃ (x8_1 : Int), v8 = .int .i64 x8_1 ∧ Aside0 (spec_Has.l0 kq a0 a1 (a0.size : Int) x8_1 = some r) ∧ Aside0 (kq ≤ k) ∧ Drawn0 w w')
  case atStart => exact ⟨(0), (by first | rfl | (simp; done) | (simp [*]; done)), H', ⟨Nat.le_refl _⟩, by repeat (first | exact Drawn0.refl _ | apply Drawn0.step)⟩
  case round =>
    clear H'
    try clear p2
    obtain ⟨x8_1, rfl, HA, HK1, ⟨m1, rfl⟩⟩ := hrel
    cases gk with
    | zero => exact absurd HA.out (by simp [spec_Has.l0])
    | succ k1 =>
      have H := HA.out
      clear HA
      simp only [spec_Has.l0] at H
      by_cases c3 : x8_1 < (a0.size : Int)
      · rw [if_pos c3] at H
        have c3b0 : decide (x8_1 < (a0.size : Int)) = true := decide_eq_true c3
        clear c3
        by_cases c4 : 0 ≤ x8_1
        · rw [if_pos c4] at H
          have c4b0 : decide (0 ≤ x8_1) = true := decide_eq_true c4
          clear c4
          by_cases c5 : x8_1 < (a0.size : Int)
          · rw [if_pos c5] at H
            have c5b0 : decide (x8_1 < (a0.size : Int)) = true := decide_eq_true c5
            clear c5
            by_cases c7 : (bt a0 x8_1) = a1
            · rw [if_pos c7] at H
              have c7b0 : ((bt a0 x8_1) == a1) = true := beq_iff_eq.mpr c7
              have c7b1 : ((bt a0 x8_1) != a1) = false := bne_eq_false_iff_eq.mpr c7
              clear c7
              obtain rfl := Option.some.inj H
              have p6 : 0 ≤ (x8_1 : Int) := of_decide_eq_true (by first | (with_reducible assumption) | assumption)
              have q6 : x8_1 < (a0.size : Int) := of_decide_eq_true (by first | (with_reducible assumption) | assumption)
              have hx6 := bt_at a0 x8_1
              replace p6 := eq_true p6
              replace q6 := eq_true q6
              go_wp2
              go_ret
              exact ⟨by first | rfl | (simp; done) | (simp [*]; done), by repeat (first | exact Drawn0.refl _ | apply Drawn0.step)⟩
            · rw [if_neg c7] at H
              have c7b0 : ((bt a0 x8_1) == a1) = false := beq_eq_false_iff_ne.mpr c7
              have c7b1 : ((bt a0 x8_1) != a1) = true := bne_iff_ne.mpr c7
              have H' := Aside0.mk H
              clear H
              have p6 : 0 ≤ (x8_1 : Int) := of_decide_eq_true (by first | (with_reducible assumption) | assumption)
              have q6 : x8_1 < (a0.size : Int) := of_decide_eq_true (by first | (with_reducible assumption) | assumption)
              have hx6 := bt_at a0 x8_1
              replace p6 := eq_true p6
              replace q6 := eq_true q6
              go_wp2
              go_roundg k1
              case measure => have := HK1.out; omega
              case rel => exact ⟨(wrap64 (x8_1 + 1)), (by first | rfl | (simp; done) | (simp [*]; done)), H', ⟨by have := HK1.out; omega⟩, by repeat (first | exact Drawn0.refl _ | apply Drawn0.step)⟩
          · rw [if_neg c5] at H
            exact absurd H (by simp)
        · rw [if_neg c4] at H
          exact absurd H (by simp)
      · rw [if_neg c3] at H
        have c3b0 : decide (x8_1 < (a0.size : Int)) = false := decide_eq_false c3
        clear c3
        obtain rfl := Option.some.inj H
        go_wp2
        go_ret
        exact ⟨by first | rfl | (simp; done) | (simp [*]; done), by repeat (first | exact Drawn0.refl _ | apply Drawn0.step)⟩

/-! ### spec_IsPlain: function 28 -/
def spec_IsPlain.j0 : Nat → ByteArray → Bool → Option (Bool)
  | 0, _, _ => none
  | k + 1, x0, x20 => if x20 = true then (some false) else ((spec_Has.f k x0 60).bind fun t102 => (if t102 = true then (some false) else ((spec_Has.f k x0 62).bind fun t103 => (if t103 = true then (some false) else ((spec_Has.f k x0 10).bind fun t104 => (if t104 = true then (some false) else ((spec_Has.f k x0 0).bind fun t105 => (some (!t105)))))))))
def spec_IsPlain.f (k : Nat) (a0 : ByteArray) : Option (Bool) := if (a0.size : Int) > 4096 then (some false) else (if a0.toList = ([] : List UInt8) then (spec_IsPlain.j0 k a0 false) else (if 0 < (a0.size : Int) then (if (bt a0 0) = 32 then (spec_IsPlain.j0 k a0 true) else (if 0 ≤ (wrap64 ((a0.size : Int) - 1)) then (if (wrap64 ((a0.size : Int) - 1)) < (a0.size : Int) then (spec_IsPlain.j0 k a0 ((bt a0 (wrap64 ((a0.size : Int) - 1))) == 32)) else (none)) else (none))) else (none)))
theorem spec_IsPlain.mono_l : ∀ k, (∀ y0 y1, LeO (spec_IsPlain.j0 k y0 y1) (spec_IsPlain.j0 (k + 1) y0 y1))
  | 0 => fun _ _ r h => by simp [spec_IsPlain.j0] at h
  | k + 1 => by
    have ih0 := spec_IsPlain.mono_l k
    · intro y0 y1
      unfold spec_IsPlain.j0
      repeat' first
      | (with_reducible exact ih0 _ _)
      | (with_reducible exact spec_Has.mono _ _ _)
      | (with_reducible exact LeO.refl _)
      | (with_reducible exact LeO.none _)
      | (with_reducible refine LeO.ite ?_ ?_)
      | (with_reducible refine LeO.bind ?_ (fun _ => ?_))
      | exact ih0 _ _
      | exact spec_Has.mono _ _ _
      | exact LeO.none _
      | refine LeO.ite ?_ ?_
      | refine LeO.bind ?_ (fun _ => ?_)
theorem spec_IsPlain.mono : ∀ a0 k, LeO (spec_IsPlain.f k a0) (spec_IsPlain.f (k + 1) a0) := by
  intro a0 k
  have ih0 := spec_IsPlain.mono_l k
  unfold spec_IsPlain.f
  repeat' first
      | (with_reducible exact ih0 _ _)
      | (with_reducible exact spec_Has.mono _ _ _)
      | (with_reducible exact LeO.refl _)
      | (with_reducible exact LeO.none _)
      | (with_reducible refine LeO.ite ?_ ?_)
      | (with_reducible refine LeO.bind ?_ (fun _ => ?_))
      | exact ih0 _ _
      | exact spec_Has.mono _ _ _
      | exact LeO.none _
      | refine LeO.ite ?_ ?_
      | refine LeO.bind ?_ (fun _ => ?_)
set_option maxHeartbeats 8000000 in
set_option maxRecDepth 100000 in
theorem spec_IsPlain.calls (k : Nat) (a0 : ByteArray) (r : Bool) (w : World) (h : spec_IsPlain.f k a0 = some r) :
    Calls Tryd.prog 28 #[.string a0] w fun e w' => e = .returned (.bool r) ∧ Drawn0 w w' := by
  have H : (if (a0.size : Int) > 4096 then (some false) else (if a0.toList = ([] : List UInt8) then (spec_IsPlain.j0 k a0 false) else (if 0 < (a0.size : Int) then (if (bt a0 0) = 32 then (spec_IsPlain.j0 k a0 true) else (if 0 ≤ (wrap64 ((a0.size : Int) - 1)) then (if (wrap64 ((a0.size : Int) - 1)) < (a0.size : Int) then (spec_IsPlain.j0 k a0 ((bt a0 (wrap64 ((a0.size : Int) - 1))) == 32)) else (none)) else (none))) else (none)))) = some r := h
  clear h
  by_cases c2 : (a0.size : Int) > 4096
  · rw [if_pos c2] at H
    have c2b0 : decide (4096 < (a0.size : Int)) = true := decide_eq_true c2
    have c2b1 : decide (4096 < a0.size) = true := decide_eq_true (by omega)
    clear c2
    obtain rfl := Option.some.inj H
    go_enter Tryd.func28, Tryd.ntmps28
    go_wp2
    go_ret
    exact ⟨by first | rfl | (simp; done) | (simp [*]; done), by repeat (first | exact Drawn0.refl _ | apply Drawn0.step)⟩
  · rw [if_neg c2] at H
    have c2b0 : decide (4096 < (a0.size : Int)) = false := decide_eq_false c2
    have c2b1 : decide (4096 < a0.size) = false := decide_eq_false (by omega)
    clear c2
    have HC3 := Aside0.mk H
    clear H
    go_enter Tryd.func28, Tryd.ntmps28
    go_upto_region 3 with (fail)
    go_cut [20] (fun v20 wc => ∃ (kq : Nat) (x20_2 : Bool), v20 = .bool x20_2 ∧ Aside0 (spec_IsPlain.j0 kq a0 x20_2 = some r) ∧ Aside0 (kq ≤ k) ∧ Drawn0 w wc)
    case first =>
      have H := HC3.out
      clear HC3
      by_cases c4 : a0.toList = ([] : List UInt8)
      · rw [if_pos c4] at H
        have c4b0 : (a0.toList == ([] : List UInt8)) = true := beq_iff_eq.mpr c4
        have c4b1 : (a0.toList != ([] : List UInt8)) = false := bne_eq_false_iff_eq.mpr c4
        clear c4
        (first | rw [c4b0] | (simp only [i64_w, i32_w]; rw [c4b0]) | skip)
        have H' := Aside0.mk H
        clear H
        go_wp2
        go_meet
        case rel => exact ⟨_, (false), (by first | rfl | (simp; done) | (simp [*]; done)), H', ⟨by first | omega | exact Nat.le_refl _⟩, by repeat (first | exact Drawn0.refl _ | apply Drawn0.step)⟩
      · rw [if_neg c4] at H
        have c4b0 : (a0.toList == ([] : List UInt8)) = false := beq_eq_false_iff_ne.mpr c4
        have c4b1 : (a0.toList != ([] : List UInt8)) = true := bne_iff_ne.mpr c4
        (first | rw [c4b0] | (simp only [i64_w, i32_w]; rw [c4b0]) | skip)
        by_cases c5 : 0 < (a0.size : Int)
        · rw [if_pos c5] at H
          have c5b0 : decide (0 < (a0.size : Int)) = true := decide_eq_true c5
          have c5b1 : decide (0 < a0.size) = true := decide_eq_true (by omega)
          clear c5
          by_cases c7 : (bt a0 0) = 32
          · rw [if_pos c7] at H
            have c7b0 : ((bt a0 0) == 32) = true := beq_iff_eq.mpr c7
            have c7b1 : ((bt a0 0) != 32) = false := bne_eq_false_iff_eq.mpr c7
            clear c7
            have H' := Aside0.mk H
            clear H
            have p6 : 0 ≤ (0 : Int) := (by omega)
            have q6 : 0 < a0.size := (by have : (0 : Int) < (a0.size : Int) := of_decide_eq_true (by first | (with_reducible assumption) | assumption); omega)
            have hx6 : ∀ h : 0 < a0.size, ((a0[0]'h).toNat : Int) = bt a0 0 := bt_at a0 0
            clear p6
            have qi6 : (0 < (a0.size : Int)) = True := eq_true (of_decide_eq_true (by first | (with_reducible assumption) | assumption))
            replace q6 := eq_true q6
            go_wp2
            go_meet
            case rel => exact ⟨_, (true), (by first | rfl | (simp; done) | (simp [*]; done)), H', ⟨by first | omega | exact Nat.le_refl _⟩, by repeat (first | exact Drawn0.refl _ | apply Drawn0.step)⟩
          · rw [if_neg c7] at H
            have c7b0 : ((bt a0 0) == 32) = false := beq_eq_false_iff_ne.mpr c7
            have c7b1 : ((bt a0 0) != 32) = true := bne_iff_ne.mpr c7
            obtain ⟨ji8, hji8⟩ : ∃ j_ : Int, (wrap64 ((a0.size : Int) - 1)) = j_ := ⟨_, rfl⟩
            replace H : (if 0 ≤ (ji8) then (if (ji8) < (a0.size : Int) then (spec_IsPlain.j0 k a0 ((bt a0 (ji8)) == 32)) else (none)) else (none)) = some r := by first | (rw [hji8] at H; exact H) | (simp only [hji8] at H ⊢; exact H)
            have hji8w : (IntKind.i64.wrap ((a0.size : Int) - 1)) = ji8 := (i64_w _).trans hji8
            by_cases c9 : 0 ≤ (ji8)
            · rw [if_pos c9] at H
              have c9b0 : decide (0 ≤ (ji8)) = true := decide_eq_true c9
              clear c9
              by_cases c10 : (ji8) < (a0.size : Int)
              · rw [if_pos c10] at H
                have c10b0 : decide ((ji8) < (a0.size : Int)) = true := decide_eq_true c10
                clear c10
                have H' := Aside0.mk H
                clear H
                have p6 : 0 ≤ (0 : Int) := (by omega)
                have q6 : 0 < a0.size := (by have : (0 : Int) < (a0.size : Int) := of_decide_eq_true (by first | (with_reducible assumption) | assumption); omega)
                have hx6 : ∀ h : 0 < a0.size, ((a0[0]'h).toNat : Int) = bt a0 0 := bt_at a0 0
                clear p6
                have qi6 : (0 < (a0.size : Int)) = True := eq_true (of_decide_eq_true (by first | (with_reducible assumption) | assumption))
                replace q6 := eq_true q6
                have p11 : 0 ≤ ((ji8) : Int) := of_decide_eq_true (by first | (with_reducible assumption) | assumption)
                have q11 : (ji8) < (a0.size : Int) := of_decide_eq_true (by first | (with_reducible assumption) | assumption)
                have hx11 := bt_at a0 (ji8)
                replace p11 := eq_true p11
                replace q11 := eq_true q11
                go_wp2
                go_meet
                case rel => exact ⟨_, (((bt a0 (ji8)) == 32)), (by first | rfl | (simp; done) | (simp only [← hji8] <;> (first | rfl | simp)) | (simp [*]; done)), H', ⟨by first | omega | exact Nat.le_refl _⟩, by repeat (first | exact Drawn0.refl _ | apply Drawn0.step)⟩
              · rw [if_neg c10] at H
                exact absurd H (by simp)
            · rw [if_neg c9] at H
              exact absurd H (by simp)
        · rw [if_neg c5] at H
          exact absurd H (by simp)
    case rest =>
      clear HC3
      try clear c1
      try clear p1
      try clear q1
      try clear hx1
      try clear c2
      try clear c2b0
      try clear c2b1
      try clear p2
      try clear c4
      try clear c4b0
      try clear c4b1
      try clear c5
      try clear c5b0
      try clear c5b1
      try clear p6
      try clear q6
      try clear hx6
      try clear qi6
      try clear c7
      try clear c7b0
      try clear c7b1
      try clear c9
      try clear c9b0
      try clear c10
      try clear c10b0
      try clear p11
      try clear q11
      try clear hx11
      try clear p11
      try clear p6
      try clear q11
      try clear q6
      obtain ⟨kq, x20_2, rfl, HA, HJ2, ⟨mc2, rfl⟩⟩ := hcut
      cases kq with
      | zero => exact absurd HA.out (by simp [spec_IsPlain.j0])
      | succ kj2 =>
        have H := HA.out
        clear HA
        simp only [spec_IsPlain.j0] at H
        by_cases c12 : x20_2 = true
        · subst c12
          have H1 : (some false) = some r := by rw [if_pos rfl] at H; exact H
          clear H
          have H := H1
          clear H1
          obtain rfl := Option.some.inj H
          go_wp2
          go_ret
          exact ⟨by first | rfl | (simp; done) | (simp [*]; done), by repeat (first | exact Drawn0.refl _ | apply Drawn0.step)⟩
        · replace c12 := Bool.eq_false_iff.mpr c12
          subst c12
          have H1 : ((spec_Has.f kj2 a0 60).bind fun t102 => (if t102 = true then (some false) else ((spec_Has.f kj2 a0 62).bind fun t103 => (if t103 = true then (some false) else ((spec_Has.f kj2 a0 10).bind fun t104 => (if t104 = true then (some false) else ((spec_Has.f kj2 a0 0).bind fun t105 => (some (!t105))))))))) = some r := by rw [if_neg (show ¬ (false = true) by decide)] at H; exact H
          clear H
          have H := H1
          clear H1
          replace H := Option.bind_eq_some_iff.mp H
          obtain ⟨t102, A130, H⟩ := H
          replace H : (if t102 = true then (some false) else ((spec_Has.f kj2 a0 62).bind fun t103 => (if t103 = true then (some false) else ((spec_Has.f kj2 a0 10).bind fun t104 => (if t104 = true then (some false) else ((spec_Has.f kj2 a0 0).bind fun t105 => (some (!t105)))))))) = some r := H
          have A13 := Aside0.mk A130
          clear A130
          by_cases c14 : t102 = true
          · subst c14
            have H1 : (some false) = some r := by rw [if_pos rfl] at H; exact H
            clear H
            have H := H1
            clear H1
            obtain rfl := Option.some.inj H
            go_wp2_with (first | ((with_reducible refine gate_callee (f := 44) rfl ?_); refine goesL_ (some 22) rfl rfl Tryd.func44 (by kernel_rfl) rfl #[.string a0, .int .u8 60] rfl (by (try simp only [List.map_toArray, List.map_cons, List.map_nil]); first | done | rfl | (simp only [List.length_drop, List.length_take]; rfl)) ?_; (with_reducible refine (spec_Has.calls kj2 a0 60 true _ A13.out).mono ?_); rintro e w' ⟨rfl, ⟨nd, rfl⟩⟩; refine ⟨_, rfl, ?_⟩))
            go_ret
            exact ⟨by first | rfl | (simp; done) | (simp [*]; done), by repeat (first | exact Drawn0.refl _ | apply Drawn0.step)⟩
          · replace c14 := Bool.eq_false_iff.mpr c14
            subst c14
            have H1 : ((spec_Has.f kj2 a0 62).bind fun t103 => (if t103 = true then (some false) else ((spec_Has.f kj2 a0 10).bind fun t104 => (if t104 = true then (some false) else ((spec_Has.f kj2 a0 0).bind fun t105 => (some (!t105))))))) = some r := by rw [if_neg (show ¬ (false = true) by decide)] at H; exact H
            clear H
            have H := H1
            clear H1
            replace H := Option.bind_eq_some_iff.mp H
            obtain ⟨t103, A150, H⟩ := H
            replace H : (if t103 = true then (some false) else ((spec_Has.f kj2 a0 10).bind fun t104 => (if t104 = true then (some false) else ((spec_Has.f kj2 a0 0).bind fun t105 => (some (!t105)))))) = some r := H
            have A15 := Aside0.mk A150
            clear A150
            by_cases c16 : t103 = true
            · subst c16
              have H1 : (some false) = some r := by rw [if_pos rfl] at H; exact H
              clear H
              have H := H1
              clear H1
              obtain rfl := Option.some.inj H
              go_wp2_with (first | ((with_reducible refine gate_callee (f := 44) rfl ?_); refine goesL_ (some 22) rfl rfl Tryd.func44 (by kernel_rfl) rfl #[.string a0, .int .u8 60] rfl (by (try simp only [List.map_toArray, List.map_cons, List.map_nil]); first | done | rfl | (simp only [List.length_drop, List.length_take]; rfl)) ?_; (with_reducible refine (spec_Has.calls kj2 a0 60 false _ A13.out).mono ?_); rintro e w' ⟨rfl, ⟨nd, rfl⟩⟩; refine ⟨_, rfl, ?_⟩) | (go_at_call 44; (with_reducible refine (spec_Has.calls kj2 a0 62 true _ A15.out).mono ?_); rintro e w' ⟨rfl, ⟨nd, rfl⟩⟩))
              go_ret
              exact ⟨by first | rfl | (simp; done) | (simp [*]; done), by repeat (first | exact Drawn0.refl _ | apply Drawn0.step)⟩
            · replace c16 := Bool.eq_false_iff.mpr c16
              subst c16
              have H1 : ((spec_Has.f kj2 a0 10).bind fun t104 => (if t104 = true then (some false) else ((spec_Has.f kj2 a0 0).bind fun t105 => (some (!t105))))) = some r := by rw [if_neg (show ¬ (false = true) by decide)] at H; exact H
              clear H
              have H := H1
              clear H1
              replace H := Option.bind_eq_some_iff.mp H
              obtain ⟨t104, A170, H⟩ := H
              replace H : (if t104 = true then (some false) else ((spec_Has.f kj2 a0 0).bind fun t105 => (some (!t105)))) = some r := H
              have A17 := Aside0.mk A170
              clear A170
              by_cases c18 : t104 = true
              · subst c18
                have H1 : (some false) = some r := by rw [if_pos rfl] at H; exact H
                clear H
                have H := H1
                clear H1
                obtain rfl := Option.some.inj H
                go_wp2_with (first | ((with_reducible refine gate_callee (f := 44) rfl ?_); refine goesL_ (some 22) rfl rfl Tryd.func44 (by kernel_rfl) rfl #[.string a0, .int .u8 60] rfl (by (try simp only [List.map_toArray, List.map_cons, List.map_nil]); first | done | rfl | (simp only [List.length_drop, List.length_take]; rfl)) ?_; (with_reducible refine (spec_Has.calls kj2 a0 60 false _ A13.out).mono ?_); rintro e w' ⟨rfl, ⟨nd, rfl⟩⟩; refine ⟨_, rfl, ?_⟩) | (go_at_call 44; (with_reducible refine (spec_Has.calls kj2 a0 62 false _ A15.out).mono ?_); rintro e w' ⟨rfl, ⟨nd, rfl⟩⟩) | (go_at_call 44; (with_reducible refine (spec_Has.calls kj2 a0 10 true _ A17.out).mono ?_); rintro e w' ⟨rfl, ⟨nd, rfl⟩⟩))
                go_ret
                exact ⟨by first | rfl | (simp; done) | (simp [*]; done), by repeat (first | exact Drawn0.refl _ | apply Drawn0.step)⟩
              · replace c18 := Bool.eq_false_iff.mpr c18
                subst c18
                have H1 : ((spec_Has.f kj2 a0 0).bind fun t105 => (some (!t105))) = some r := by rw [if_neg (show ¬ (false = true) by decide)] at H; exact H
                clear H
                have H := H1
                clear H1
                replace H := Option.bind_eq_some_iff.mp H
                obtain ⟨t105, A190, H⟩ := H
                replace H : (some (!t105)) = some r := H
                have A19 := Aside0.mk A190
                clear A190
                obtain rfl := Option.some.inj H
                go_wp2_with (first | ((with_reducible refine gate_callee (f := 44) rfl ?_); refine goesL_ (some 22) rfl rfl Tryd.func44 (by kernel_rfl) rfl #[.string a0, .int .u8 60] rfl (by (try simp only [List.map_toArray, List.map_cons, List.map_nil]); first | done | rfl | (simp only [List.length_drop, List.length_take]; rfl)) ?_; (with_reducible refine (spec_Has.calls kj2 a0 60 false _ A13.out).mono ?_); rintro e w' ⟨rfl, ⟨nd, rfl⟩⟩; refine ⟨_, rfl, ?_⟩) | (go_at_call 44; (with_reducible refine (spec_Has.calls kj2 a0 62 false _ A15.out).mono ?_); rintro e w' ⟨rfl, ⟨nd, rfl⟩⟩) | (go_at_call 44; (with_reducible refine (spec_Has.calls kj2 a0 10 false _ A17.out).mono ?_); rintro e w' ⟨rfl, ⟨nd, rfl⟩⟩) | (go_at_call 44; (with_reducible refine (spec_Has.calls kj2 a0 0 t105 _ A19.out).mono ?_); rintro e w' ⟨rfl, ⟨nd, rfl⟩⟩))
                go_ret
                exact ⟨by first | rfl | (simp; done) | (simp [*]; done), by repeat (first | exact Drawn0.refl _ | apply Drawn0.step)⟩

/-! ### spec_IsWho: function 12 -/
def spec_IsWho.f (k : Nat) (a0_0 : ByteArray) (a0_1 : ByteArray) (a0_2 : Int) (a0_3 : Int) : Option (Bool) := (spec_IsPlain.f k a0_0).bind fun t107 => (if t107 = true then ((spec_IsPlain.f k a0_1).bind fun t108 => (if t108 = true then (if a0_2 < 0 then (some false) else (if a0_2 ≥ 1099511627776 then (some false) else (if (Int.tmod a0_3 60) = 0 then (if a0_3 > (-360000) then (if a0_3 < 360000 then (if a0_3 ≥ 0 then (some true) else (some (decide (a0_3 ≤ (-3600))))) else (some false)) else (some false)) else (some false)))) else (some false))) else (some false))
theorem spec_IsWho.mono : ∀ a0 a1 a2 a3 k, LeO (spec_IsWho.f k a0 a1 a2 a3) (spec_IsWho.f (k + 1) a0 a1 a2 a3) := by
  intro a0 a1 a2 a3 k
  unfold spec_IsWho.f
  repeat' first
      | (with_reducible exact spec_IsPlain.mono _ _)
      | (with_reducible exact LeO.refl _)
      | (with_reducible exact LeO.none _)
      | (with_reducible refine LeO.ite ?_ ?_)
      | (with_reducible refine LeO.bind ?_ (fun _ => ?_))
      | exact spec_IsPlain.mono _ _
      | exact LeO.none _
      | refine LeO.ite ?_ ?_
      | refine LeO.bind ?_ (fun _ => ?_)
set_option maxHeartbeats 8000000 in
set_option maxRecDepth 100000 in
theorem spec_IsWho.calls (k : Nat) (a0_0 : ByteArray) (a0_1 : ByteArray) (a0_2 : Int) (a0_3 : Int) (r : Bool) (w : World) (h : spec_IsWho.f k a0_0 a0_1 a0_2 a0_3 = some r) :
    Calls Tryd.prog 12 #[.agg #[.string a0_0, .string a0_1, .int .i64 a0_2, .int .i64 a0_3]] w fun e w' => e = .returned (.bool r) ∧ Below w.heap.size w w' := by
  have hu37 := Tryd.underlying37
  have HB := Aside0.mk (Below.refl w.heap.size w)
  have H : ((spec_IsPlain.f k a0_0).bind fun t107 => (if t107 = true then ((spec_IsPlain.f k a0_1).bind fun t108 => (if t108 = true then (if a0_2 < 0 then (some false) else (if a0_2 ≥ 1099511627776 then (some false) else (if (Int.tmod a0_3 60) = 0 then (if a0_3 > (-360000) then (if a0_3 < 360000 then (if a0_3 ≥ 0 then (some true) else (some (decide (a0_3 ≤ (-3600))))) else (some false)) else (some false)) else (some false)))) else (some false))) else (some false))) = some r := h
  clear h
  replace H := Option.bind_eq_some_iff.mp H
  obtain ⟨t107, A20, H⟩ := H
  replace H : (if t107 = true then ((spec_IsPlain.f k a0_1).bind fun t108 => (if t108 = true then (if a0_2 < 0 then (some false) else (if a0_2 ≥ 1099511627776 then (some false) else (if (Int.tmod a0_3 60) = 0 then (if a0_3 > (-360000) then (if a0_3 < 360000 then (if a0_3 ≥ 0 then (some true) else (some (decide (a0_3 ≤ (-3600))))) else (some false)) else (some false)) else (some false)))) else (some false))) else (some false)) = some r := H
  have A2 := Aside0.mk A20
  clear A20
  by_cases c3 : t107 = true
  · subst c3
    have H1 : ((spec_IsPlain.f k a0_1).bind fun t108 => (if t108 = true then (if a0_2 < 0 then (some false) else (if a0_2 ≥ 1099511627776 then (some false) else (if (Int.tmod a0_3 60) = 0 then (if a0_3 > (-360000) then (if a0_3 < 360000 then (if a0_3 ≥ 0 then (some true) else (some (decide (a0_3 ≤ (-3600))))) else (some false)) else (some false)) else (some false)))) else (some false))) = some r := by rw [if_pos rfl] at H; exact H
    clear H
    have H := H1
    clear H1
    replace H := Option.bind_eq_some_iff.mp H
    obtain ⟨t108, A40, H⟩ := H
    replace H : (if t108 = true then (if a0_2 < 0 then (some false) else (if a0_2 ≥ 1099511627776 then (some false) else (if (Int.tmod a0_3 60) = 0 then (if a0_3 > (-360000) then (if a0_3 < 360000 then (if a0_3 ≥ 0 then (some true) else (some (decide (a0_3 ≤ (-3600))))) else (some false)) else (some false)) else (some false)))) else (some false)) = some r := H
    have A4 := Aside0.mk A40
    clear A40
    by_cases c5 : t108 = true
    · subst c5
      have H1 : (if a0_2 < 0 then (some false) else (if a0_2 ≥ 1099511627776 then (some false) else (if (Int.tmod a0_3 60) = 0 then (if a0_3 > (-360000) then (if a0_3 < 360000 then (if a0_3 ≥ 0 then (some true) else (some (decide (a0_3 ≤ (-3600))))) else (some false)) else (some false)) else (some false)))) = some r := by rw [if_pos rfl] at H; exact H
      clear H
      have H := H1
      clear H1
      by_cases c6 : a0_2 < 0
      · rw [if_pos c6] at H
        have c6b0 : decide (a0_2 < 0) = true := decide_eq_true c6
        clear c6
        obtain rfl := Option.some.inj H
        go_enter Tryd.func12, Tryd.ntmps12
        go_wp2_with (first | ((with_reducible refine gate_dst (N := 1) rfl ?_); refine box_event ?hg (N := 1) ?hd (cs := #[.string a0_0, .string a0_1, .int .i64 a0_2, .int .i64 a0_3]) (t := 37) ?hr ?_; (case hd => rfl); (case hg => rfl); (case hr => first | (go_simp; done) | (go_simp; rfl)); intro gb106 hg w7 hbox hb; have n0_ := Aside0.mk (below_step (by repeat (first | (with_reducible first | exact HB.out | apply below_alloc | apply pw_below_drewN | apply below_drew1) | exact HB.out)) hb); have n1_ := Aside0.mk (hbox); have n2_ := Aside0.mk ((by rw [hg]; exact (below_size (by repeat (first | (with_reducible first | exact HB.out | apply below_alloc | apply pw_below_drewN | apply below_drew1) | exact HB.out))) : w.heap.size ≤ gb106)); have n3_ := Aside0.mk ((by rw [hg]; exact (below_size (by repeat (first | (with_reducible first | exact HB.out | apply below_alloc | apply pw_below_drewN | apply below_drew1) | exact HB.out))) : w.heap.size ≤ gb106)); clear HB; have HB := n0_; have BK106 := n1_; have GW106 := n2_; have GE106 := n3_; clear n0_ n1_ n2_ n3_; clear hb hbox hg; have hcz8_0 : w7.cell? ⟨gb106, 0, none⟩ = some (.string a0_0) := (blk_cell BK106.out 0).trans rfl; have hcz8_1 : w7.cell? ⟨gb106, 1, none⟩ = some (.string a0_1) := (blk_cell BK106.out 1).trans rfl; have hcz8_2 : w7.cell? ⟨gb106, 2, none⟩ = some (.int .i64 a0_2) := (blk_cell BK106.out 2).trans rfl; have hcz8_3 : w7.cell? ⟨gb106, 3, none⟩ = some (.int .i64 a0_3) := (blk_cell BK106.out 3).trans rfl; have hfz8_0 := blk_frozen BK106.out 0; have hfz8_1 := blk_frozen BK106.out 1; have hfz8_2 := blk_frozen BK106.out 2; have hfz8_3 := blk_frozen BK106.out 3) | ((with_reducible refine gate_callee (f := 28) rfl ?_); refine goesL_ (some 5) rfl rfl Tryd.func28 (by kernel_rfl) rfl #[.string a0_0] rfl (by (try simp only [List.map_toArray, List.map_cons, List.map_nil]); first | done | rfl | (simp only [List.length_drop, List.length_take]; rfl)) ?_; (with_reducible refine (spec_IsPlain.calls k a0_0 true _ A2.out).mono ?_); rintro e w' ⟨rfl, ⟨nd, rfl⟩⟩; refine ⟨_, rfl, ?_⟩) | (go_at_call 28; (with_reducible refine (spec_IsPlain.calls k a0_1 true _ A4.out).mono ?_); rintro e w' ⟨rfl, ⟨nd, rfl⟩⟩))
        go_ret
        exact ⟨by first | rfl | (simp [errW_none, errW_some] <;> rfl) | (simp [*, errW_none, errW_some] <;> rfl), by repeat (first | (with_reducible first | exact HB.out | apply below_alloc | apply pw_below_drewN | apply below_drew1 | refine below_set ?_ GE106.out) | exact HB.out)⟩
      · rw [if_neg c6] at H
        have c6b0 : decide (a0_2 < 0) = false := decide_eq_false c6
        clear c6
        by_cases c9 : a0_2 ≥ 1099511627776
        · rw [if_pos c9] at H
          have c9b0 : decide (1099511627776 ≤ a0_2) = true := decide_eq_true c9
          clear c9
          obtain rfl := Option.some.inj H
          go_enter Tryd.func12, Tryd.ntmps12
          go_wp2_with (first | ((with_reducible refine gate_dst (N := 1) rfl ?_); refine box_event ?hg (N := 1) ?hd (cs := #[.string a0_0, .string a0_1, .int .i64 a0_2, .int .i64 a0_3]) (t := 37) ?hr ?_; (case hd => rfl); (case hg => rfl); (case hr => first | (go_simp; done) | (go_simp; rfl)); intro gb106 hg w10 hbox hb; have n0_ := Aside0.mk (below_step (by repeat (first | (with_reducible first | exact HB.out | apply below_alloc | apply pw_below_drewN | apply below_drew1) | exact HB.out)) hb); have n1_ := Aside0.mk (hbox); have n2_ := Aside0.mk ((by rw [hg]; exact (below_size (by repeat (first | (with_reducible first | exact HB.out | apply below_alloc | apply pw_below_drewN | apply below_drew1) | exact HB.out))) : w.heap.size ≤ gb106)); have n3_ := Aside0.mk ((by rw [hg]; exact (below_size (by repeat (first | (with_reducible first | exact HB.out | apply below_alloc | apply pw_below_drewN | apply below_drew1) | exact HB.out))) : w.heap.size ≤ gb106)); clear HB; have HB := n0_; have BK106 := n1_; have GW106 := n2_; have GE106 := n3_; clear n0_ n1_ n2_ n3_; clear hb hbox hg; have hcz11_0 : w10.cell? ⟨gb106, 0, none⟩ = some (.string a0_0) := (blk_cell BK106.out 0).trans rfl; have hcz11_1 : w10.cell? ⟨gb106, 1, none⟩ = some (.string a0_1) := (blk_cell BK106.out 1).trans rfl; have hcz11_2 : w10.cell? ⟨gb106, 2, none⟩ = some (.int .i64 a0_2) := (blk_cell BK106.out 2).trans rfl; have hcz11_3 : w10.cell? ⟨gb106, 3, none⟩ = some (.int .i64 a0_3) := (blk_cell BK106.out 3).trans rfl; have hfz11_0 := blk_frozen BK106.out 0; have hfz11_1 := blk_frozen BK106.out 1; have hfz11_2 := blk_frozen BK106.out 2; have hfz11_3 := blk_frozen BK106.out 3) | ((with_reducible refine gate_callee (f := 28) rfl ?_); refine goesL_ (some 5) rfl rfl Tryd.func28 (by kernel_rfl) rfl #[.string a0_0] rfl (by (try simp only [List.map_toArray, List.map_cons, List.map_nil]); first | done | rfl | (simp only [List.length_drop, List.length_take]; rfl)) ?_; (with_reducible refine (spec_IsPlain.calls k a0_0 true _ A2.out).mono ?_); rintro e w' ⟨rfl, ⟨nd, rfl⟩⟩; refine ⟨_, rfl, ?_⟩) | (go_at_call 28; (with_reducible refine (spec_IsPlain.calls k a0_1 true _ A4.out).mono ?_); rintro e w' ⟨rfl, ⟨nd, rfl⟩⟩))
          go_ret
          exact ⟨by first | rfl | (simp [errW_none, errW_some] <;> rfl) | (simp [*, errW_none, errW_some] <;> rfl), by repeat (first | (with_reducible first | exact HB.out | apply below_alloc | apply pw_below_drewN | apply below_drew1 | refine below_set ?_ GE106.out) | exact HB.out)⟩
        · rw [if_neg c9] at H
          have c9b0 : decide (1099511627776 ≤ a0_2) = false := decide_eq_false c9
          clear c9
          by_cases c12 : (Int.tmod a0_3 60) = 0
          · rw [if_pos c12] at H
            have c12b0 : ((Int.tmod a0_3 60) == 0) = true := beq_iff_eq.mpr c12
            have c12b1 : ((Int.tmod a0_3 60) != 0) = false := bne_eq_false_iff_eq.mpr c12
            clear c12
            by_cases c13 : a0_3 > (-360000)
            · rw [if_pos c13] at H
              have c13b0 : decide ((-360000) < a0_3) = true := decide_eq_true c13
              clear c13
              by_cases c14 : a0_3 < 360000
              · rw [if_pos c14] at H
                have c14b0 : decide (a0_3 < 360000) = true := decide_eq_true c14
                clear c14
                by_cases c15 : a0_3 ≥ 0
                · rw [if_pos c15] at H
                  have c15b0 : decide (0 ≤ a0_3) = true := decide_eq_true c15
                  clear c15
                  obtain rfl := Option.some.inj H
                  go_enter Tryd.func12, Tryd.ntmps12
                  go_wp2_with (first | ((with_reducible refine gate_dst (N := 1) rfl ?_); refine box_event ?hg (N := 1) ?hd (cs := #[.string a0_0, .string a0_1, .int .i64 a0_2, .int .i64 a0_3]) (t := 37) ?hr ?_; (case hd => rfl); (case hg => rfl); (case hr => first | (go_simp; done) | (go_simp; rfl)); intro gb106 hg w16 hbox hb; have n0_ := Aside0.mk (below_step (by repeat (first | (with_reducible first | exact HB.out | apply below_alloc | apply pw_below_drewN | apply below_drew1) | exact HB.out)) hb); have n1_ := Aside0.mk (hbox); have n2_ := Aside0.mk ((by rw [hg]; exact (below_size (by repeat (first | (with_reducible first | exact HB.out | apply below_alloc | apply pw_below_drewN | apply below_drew1) | exact HB.out))) : w.heap.size ≤ gb106)); have n3_ := Aside0.mk ((by rw [hg]; exact (below_size (by repeat (first | (with_reducible first | exact HB.out | apply below_alloc | apply pw_below_drewN | apply below_drew1) | exact HB.out))) : w.heap.size ≤ gb106)); clear HB; have HB := n0_; have BK106 := n1_; have GW106 := n2_; have GE106 := n3_; clear n0_ n1_ n2_ n3_; clear hb hbox hg; have hcz17_0 : w16.cell? ⟨gb106, 0, none⟩ = some (.string a0_0) := (blk_cell BK106.out 0).trans rfl; have hcz17_1 : w16.cell? ⟨gb106, 1, none⟩ = some (.string a0_1) := (blk_cell BK106.out 1).trans rfl; have hcz17_2 : w16.cell? ⟨gb106, 2, none⟩ = some (.int .i64 a0_2) := (blk_cell BK106.out 2).trans rfl; have hcz17_3 : w16.cell? ⟨gb106, 3, none⟩ = some (.int .i64 a0_3) := (blk_cell BK106.out 3).trans rfl; have hfz17_0 := blk_frozen BK106.out 0; have hfz17_1 := blk_frozen BK106.out 1; have hfz17_2 := blk_frozen BK106.out 2; have hfz17_3 := blk_frozen BK106.out 3) | ((with_reducible refine gate_callee (f := 28) rfl ?_); refine goesL_ (some 5) rfl rfl Tryd.func28 (by kernel_rfl) rfl #[.string a0_0] rfl (by (try simp only [List.map_toArray, List.map_cons, List.map_nil]); first | done | rfl | (simp only [List.length_drop, List.length_take]; rfl)) ?_; (with_reducible refine (spec_IsPlain.calls k a0_0 true _ A2.out).mono ?_); rintro e w' ⟨rfl, ⟨nd, rfl⟩⟩; refine ⟨_, rfl, ?_⟩) | (go_at_call 28; (with_reducible refine (spec_IsPlain.calls k a0_1 true _ A4.out).mono ?_); rintro e w' ⟨rfl, ⟨nd, rfl⟩⟩))
                  go_ret
                  exact ⟨by first | rfl | (simp [errW_none, errW_some] <;> rfl) | (simp [*, errW_none, errW_some] <;> rfl), by repeat (first | (with_reducible first | exact HB.out | apply below_alloc | apply pw_below_drewN | apply below_drew1 | refine below_set ?_ GE106.out) | exact HB.out)⟩
                · rw [if_neg c15] at H
                  have c15b0 : decide (0 ≤ a0_3) = false := decide_eq_false c15
                  clear c15
                  obtain rfl := Option.some.inj H
                  go_enter Tryd.func12, Tryd.ntmps12
                  go_wp2_with (first | ((with_reducible refine gate_dst (N := 1) rfl ?_); refine box_event ?hg (N := 1) ?hd (cs := #[.string a0_0, .string a0_1, .int .i64 a0_2, .int .i64 a0_3]) (t := 37) ?hr ?_; (case hd => rfl); (case hg => rfl); (case hr => first | (go_simp; done) | (go_simp; rfl)); intro gb106 hg w18 hbox hb; have n0_ := Aside0.mk (below_step (by repeat (first | (with_reducible first | exact HB.out | apply below_alloc | apply pw_below_drewN | apply below_drew1) | exact HB.out)) hb); have n1_ := Aside0.mk (hbox); have n2_ := Aside0.mk ((by rw [hg]; exact (below_size (by repeat (first | (with_reducible first | exact HB.out | apply below_alloc | apply pw_below_drewN | apply below_drew1) | exact HB.out))) : w.heap.size ≤ gb106)); have n3_ := Aside0.mk ((by rw [hg]; exact (below_size (by repeat (first | (with_reducible first | exact HB.out | apply below_alloc | apply pw_below_drewN | apply below_drew1) | exact HB.out))) : w.heap.size ≤ gb106)); clear HB; have HB := n0_; have BK106 := n1_; have GW106 := n2_; have GE106 := n3_; clear n0_ n1_ n2_ n3_; clear hb hbox hg; have hcz19_0 : w18.cell? ⟨gb106, 0, none⟩ = some (.string a0_0) := (blk_cell BK106.out 0).trans rfl; have hcz19_1 : w18.cell? ⟨gb106, 1, none⟩ = some (.string a0_1) := (blk_cell BK106.out 1).trans rfl; have hcz19_2 : w18.cell? ⟨gb106, 2, none⟩ = some (.int .i64 a0_2) := (blk_cell BK106.out 2).trans rfl; have hcz19_3 : w18.cell? ⟨gb106, 3, none⟩ = some (.int .i64 a0_3) := (blk_cell BK106.out 3).trans rfl; have hfz19_0 := blk_frozen BK106.out 0; have hfz19_1 := blk_frozen BK106.out 1; have hfz19_2 := blk_frozen BK106.out 2; have hfz19_3 := blk_frozen BK106.out 3) | ((with_reducible refine gate_callee (f := 28) rfl ?_); refine goesL_ (some 5) rfl rfl Tryd.func28 (by kernel_rfl) rfl #[.string a0_0] rfl (by (try simp only [List.map_toArray, List.map_cons, List.map_nil]); first | done | rfl | (simp only [List.length_drop, List.length_take]; rfl)) ?_; (with_reducible refine (spec_IsPlain.calls k a0_0 true _ A2.out).mono ?_); rintro e w' ⟨rfl, ⟨nd, rfl⟩⟩; refine ⟨_, rfl, ?_⟩) | (go_at_call 28; (with_reducible refine (spec_IsPlain.calls k a0_1 true _ A4.out).mono ?_); rintro e w' ⟨rfl, ⟨nd, rfl⟩⟩))
                  go_ret
                  exact ⟨by first | rfl | (simp [errW_none, errW_some] <;> rfl) | (simp [*, errW_none, errW_some] <;> rfl), by repeat (first | (with_reducible first | exact HB.out | apply below_alloc | apply pw_below_drewN | apply below_drew1 | refine below_set ?_ GE106.out) | exact HB.out)⟩
              · rw [if_neg c14] at H
                have c14b0 : decide (a0_3 < 360000) = false := decide_eq_false c14
                clear c14
                obtain rfl := Option.some.inj H
                go_enter Tryd.func12, Tryd.ntmps12
                go_wp2_with (first | ((with_reducible refine gate_dst (N := 1) rfl ?_); refine box_event ?hg (N := 1) ?hd (cs := #[.string a0_0, .string a0_1, .int .i64 a0_2, .int .i64 a0_3]) (t := 37) ?hr ?_; (case hd => rfl); (case hg => rfl); (case hr => first | (go_simp; done) | (go_simp; rfl)); intro gb106 hg w20 hbox hb; have n0_ := Aside0.mk (below_step (by repeat (first | (with_reducible first | exact HB.out | apply below_alloc | apply pw_below_drewN | apply below_drew1) | exact HB.out)) hb); have n1_ := Aside0.mk (hbox); have n2_ := Aside0.mk ((by rw [hg]; exact (below_size (by repeat (first | (with_reducible first | exact HB.out | apply below_alloc | apply pw_below_drewN | apply below_drew1) | exact HB.out))) : w.heap.size ≤ gb106)); have n3_ := Aside0.mk ((by rw [hg]; exact (below_size (by repeat (first | (with_reducible first | exact HB.out | apply below_alloc | apply pw_below_drewN | apply below_drew1) | exact HB.out))) : w.heap.size ≤ gb106)); clear HB; have HB := n0_; have BK106 := n1_; have GW106 := n2_; have GE106 := n3_; clear n0_ n1_ n2_ n3_; clear hb hbox hg; have hcz21_0 : w20.cell? ⟨gb106, 0, none⟩ = some (.string a0_0) := (blk_cell BK106.out 0).trans rfl; have hcz21_1 : w20.cell? ⟨gb106, 1, none⟩ = some (.string a0_1) := (blk_cell BK106.out 1).trans rfl; have hcz21_2 : w20.cell? ⟨gb106, 2, none⟩ = some (.int .i64 a0_2) := (blk_cell BK106.out 2).trans rfl; have hcz21_3 : w20.cell? ⟨gb106, 3, none⟩ = some (.int .i64 a0_3) := (blk_cell BK106.out 3).trans rfl; have hfz21_0 := blk_frozen BK106.out 0; have hfz21_1 := blk_frozen BK106.out 1; have hfz21_2 := blk_frozen BK106.out 2; have hfz21_3 := blk_frozen BK106.out 3) | ((with_reducible refine gate_callee (f := 28) rfl ?_); refine goesL_ (some 5) rfl rfl Tryd.func28 (by kernel_rfl) rfl #[.string a0_0] rfl (by (try simp only [List.map_toArray, List.map_cons, List.map_nil]); first | done | rfl | (simp only [List.length_drop, List.length_take]; rfl)) ?_; (with_reducible refine (spec_IsPlain.calls k a0_0 true _ A2.out).mono ?_); rintro e w' ⟨rfl, ⟨nd, rfl⟩⟩; refine ⟨_, rfl, ?_⟩) | (go_at_call 28; (with_reducible refine (spec_IsPlain.calls k a0_1 true _ A4.out).mono ?_); rintro e w' ⟨rfl, ⟨nd, rfl⟩⟩))
                go_ret
                exact ⟨by first | rfl | (simp [errW_none, errW_some] <;> rfl) | (simp [*, errW_none, errW_some] <;> rfl), by repeat (first | (with_reducible first | exact HB.out | apply below_alloc | apply pw_below_drewN | apply below_drew1 | refine below_set ?_ GE106.out) | exact HB.out)⟩
            · rw [if_neg c13] at H
              have c13b0 : decide ((-360000) < a0_3) = false := decide_eq_false c13
              clear c13
              obtain rfl := Option.some.inj H
              go_enter Tryd.func12, Tryd.ntmps12
              go_wp2_with (first | ((with_reducible refine gate_dst (N := 1) rfl ?_); refine box_event ?hg (N := 1) ?hd (cs := #[.string a0_0, .string a0_1, .int .i64 a0_2, .int .i64 a0_3]) (t := 37) ?hr ?_; (case hd => rfl); (case hg => rfl); (case hr => first | (go_simp; done) | (go_simp; rfl)); intro gb106 hg w22 hbox hb; have n0_ := Aside0.mk (below_step (by repeat (first | (with_reducible first | exact HB.out | apply below_alloc | apply pw_below_drewN | apply below_drew1) | exact HB.out)) hb); have n1_ := Aside0.mk (hbox); have n2_ := Aside0.mk ((by rw [hg]; exact (below_size (by repeat (first | (with_reducible first | exact HB.out | apply below_alloc | apply pw_below_drewN | apply below_drew1) | exact HB.out))) : w.heap.size ≤ gb106)); have n3_ := Aside0.mk ((by rw [hg]; exact (below_size (by repeat (first | (with_reducible first | exact HB.out | apply below_alloc | apply pw_below_drewN | apply below_drew1) | exact HB.out))) : w.heap.size ≤ gb106)); clear HB; have HB := n0_; have BK106 := n1_; have GW106 := n2_; have GE106 := n3_; clear n0_ n1_ n2_ n3_; clear hb hbox hg; have hcz23_0 : w22.cell? ⟨gb106, 0, none⟩ = some (.string a0_0) := (blk_cell BK106.out 0).trans rfl; have hcz23_1 : w22.cell? ⟨gb106, 1, none⟩ = some (.string a0_1) := (blk_cell BK106.out 1).trans rfl; have hcz23_2 : w22.cell? ⟨gb106, 2, none⟩ = some (.int .i64 a0_2) := (blk_cell BK106.out 2).trans rfl; have hcz23_3 : w22.cell? ⟨gb106, 3, none⟩ = some (.int .i64 a0_3) := (blk_cell BK106.out 3).trans rfl; have hfz23_0 := blk_frozen BK106.out 0; have hfz23_1 := blk_frozen BK106.out 1; have hfz23_2 := blk_frozen BK106.out 2; have hfz23_3 := blk_frozen BK106.out 3) | ((with_reducible refine gate_callee (f := 28) rfl ?_); refine goesL_ (some 5) rfl rfl Tryd.func28 (by kernel_rfl) rfl #[.string a0_0] rfl (by (try simp only [List.map_toArray, List.map_cons, List.map_nil]); first | done | rfl | (simp only [List.length_drop, List.length_take]; rfl)) ?_; (with_reducible refine (spec_IsPlain.calls k a0_0 true _ A2.out).mono ?_); rintro e w' ⟨rfl, ⟨nd, rfl⟩⟩; refine ⟨_, rfl, ?_⟩) | (go_at_call 28; (with_reducible refine (spec_IsPlain.calls k a0_1 true _ A4.out).mono ?_); rintro e w' ⟨rfl, ⟨nd, rfl⟩⟩))
              go_ret
              exact ⟨by first | rfl | (simp [errW_none, errW_some] <;> rfl) | (simp [*, errW_none, errW_some] <;> rfl), by repeat (first | (with_reducible first | exact HB.out | apply below_alloc | apply pw_below_drewN | apply below_drew1 | refine below_set ?_ GE106.out) | exact HB.out)⟩
          · rw [if_neg c12] at H
            have c12b0 : ((Int.tmod a0_3 60) == 0) = false := beq_eq_false_iff_ne.mpr c12
            have c12b1 : ((Int.tmod a0_3 60) != 0) = true := bne_iff_ne.mpr c12
            obtain rfl := Option.some.inj H
            go_enter Tryd.func12, Tryd.ntmps12
            go_wp2_with (first | ((with_reducible refine gate_dst (N := 1) rfl ?_); refine box_event ?hg (N := 1) ?hd (cs := #[.string a0_0, .string a0_1, .int .i64 a0_2, .int .i64 a0_3]) (t := 37) ?hr ?_; (case hd => rfl); (case hg => rfl); (case hr => first | (go_simp; done) | (go_simp; rfl)); intro gb106 hg w24 hbox hb; have n0_ := Aside0.mk (below_step (by repeat (first | (with_reducible first | exact HB.out | apply below_alloc | apply pw_below_drewN | apply below_drew1) | exact HB.out)) hb); have n1_ := Aside0.mk (hbox); have n2_ := Aside0.mk ((by rw [hg]; exact (below_size (by repeat (first | (with_reducible first | exact HB.out | apply below_alloc | apply pw_below_drewN | apply below_drew1) | exact HB.out))) : w.heap.size ≤ gb106)); have n3_ := Aside0.mk ((by rw [hg]; exact (below_size (by repeat (first | (with_reducible first | exact HB.out | apply below_alloc | apply pw_below_drewN | apply below_drew1) | exact HB.out))) : w.heap.size ≤ gb106)); clear HB; have HB := n0_; have BK106 := n1_; have GW106 := n2_; have GE106 := n3_; clear n0_ n1_ n2_ n3_; clear hb hbox hg; have hcz25_0 : w24.cell? ⟨gb106, 0, none⟩ = some (.string a0_0) := (blk_cell BK106.out 0).trans rfl; have hcz25_1 : w24.cell? ⟨gb106, 1, none⟩ = some (.string a0_1) := (blk_cell BK106.out 1).trans rfl; have hcz25_2 : w24.cell? ⟨gb106, 2, none⟩ = some (.int .i64 a0_2) := (blk_cell BK106.out 2).trans rfl; have hcz25_3 : w24.cell? ⟨gb106, 3, none⟩ = some (.int .i64 a0_3) := (blk_cell BK106.out 3).trans rfl; have hfz25_0 := blk_frozen BK106.out 0; have hfz25_1 := blk_frozen BK106.out 1; have hfz25_2 := blk_frozen BK106.out 2; have hfz25_3 := blk_frozen BK106.out 3) | ((with_reducible refine gate_callee (f := 28) rfl ?_); refine goesL_ (some 5) rfl rfl Tryd.func28 (by kernel_rfl) rfl #[.string a0_0] rfl (by (try simp only [List.map_toArray, List.map_cons, List.map_nil]); first | done | rfl | (simp only [List.length_drop, List.length_take]; rfl)) ?_; (with_reducible refine (spec_IsPlain.calls k a0_0 true _ A2.out).mono ?_); rintro e w' ⟨rfl, ⟨nd, rfl⟩⟩; refine ⟨_, rfl, ?_⟩) | (go_at_call 28; (with_reducible refine (spec_IsPlain.calls k a0_1 true _ A4.out).mono ?_); rintro e w' ⟨rfl, ⟨nd, rfl⟩⟩))
            go_ret
            exact ⟨by first | rfl | (simp [errW_none, errW_some] <;> rfl) | (simp [*, errW_none, errW_some] <;> rfl), by repeat (first | (with_reducible first | exact HB.out | apply below_alloc | apply pw_below_drewN | apply below_drew1 | refine below_set ?_ GE106.out) | exact HB.out)⟩
    · replace c5 := Bool.eq_false_iff.mpr c5
      subst c5
      have H1 : (some false) = some r := by rw [if_neg (show ¬ (false = true) by decide)] at H; exact H
      clear H
      have H := H1
      clear H1
      obtain rfl := Option.some.inj H
      go_enter Tryd.func12, Tryd.ntmps12
      go_wp2_with (first | ((with_reducible refine gate_dst (N := 1) rfl ?_); refine box_event ?hg (N := 1) ?hd (cs := #[.string a0_0, .string a0_1, .int .i64 a0_2, .int .i64 a0_3]) (t := 37) ?hr ?_; (case hd => rfl); (case hg => rfl); (case hr => first | (go_simp; done) | (go_simp; rfl)); intro gb106 hg w26 hbox hb; have n0_ := Aside0.mk (below_step (by repeat (first | (with_reducible first | exact HB.out | apply below_alloc | apply pw_below_drewN | apply below_drew1) | exact HB.out)) hb); have n1_ := Aside0.mk (hbox); have n2_ := Aside0.mk ((by rw [hg]; exact (below_size (by repeat (first | (with_reducible first | exact HB.out | apply below_alloc | apply pw_below_drewN | apply below_drew1) | exact HB.out))) : w.heap.size ≤ gb106)); have n3_ := Aside0.mk ((by rw [hg]; exact (below_size (by repeat (first | (with_reducible first | exact HB.out | apply below_alloc | apply pw_below_drewN | apply below_drew1) | exact HB.out))) : w.heap.size ≤ gb106)); clear HB; have HB := n0_; have BK106 := n1_; have GW106 := n2_; have GE106 := n3_; clear n0_ n1_ n2_ n3_; clear hb hbox hg; have hcz27_0 : w26.cell? ⟨gb106, 0, none⟩ = some (.string a0_0) := (blk_cell BK106.out 0).trans rfl; have hcz27_1 : w26.cell? ⟨gb106, 1, none⟩ = some (.string a0_1) := (blk_cell BK106.out 1).trans rfl; have hcz27_2 : w26.cell? ⟨gb106, 2, none⟩ = some (.int .i64 a0_2) := (blk_cell BK106.out 2).trans rfl; have hcz27_3 : w26.cell? ⟨gb106, 3, none⟩ = some (.int .i64 a0_3) := (blk_cell BK106.out 3).trans rfl; have hfz27_0 := blk_frozen BK106.out 0; have hfz27_1 := blk_frozen BK106.out 1; have hfz27_2 := blk_frozen BK106.out 2; have hfz27_3 := blk_frozen BK106.out 3) | ((with_reducible refine gate_callee (f := 28) rfl ?_); refine goesL_ (some 5) rfl rfl Tryd.func28 (by kernel_rfl) rfl #[.string a0_0] rfl (by (try simp only [List.map_toArray, List.map_cons, List.map_nil]); first | done | rfl | (simp only [List.length_drop, List.length_take]; rfl)) ?_; (with_reducible refine (spec_IsPlain.calls k a0_0 true _ A2.out).mono ?_); rintro e w' ⟨rfl, ⟨nd, rfl⟩⟩; refine ⟨_, rfl, ?_⟩) | (go_at_call 28; (with_reducible refine (spec_IsPlain.calls k a0_1 false _ A4.out).mono ?_); rintro e w' ⟨rfl, ⟨nd, rfl⟩⟩))
      go_ret
      exact ⟨by first | rfl | (simp [errW_none, errW_some] <;> rfl) | (simp [*, errW_none, errW_some] <;> rfl), by repeat (first | (with_reducible first | exact HB.out | apply below_alloc | apply pw_below_drewN | apply below_drew1 | refine below_set ?_ GE106.out) | exact HB.out)⟩
  · replace c3 := Bool.eq_false_iff.mpr c3
    subst c3
    have H1 : (some false) = some r := by rw [if_neg (show ¬ (false = true) by decide)] at H; exact H
    clear H
    have H := H1
    clear H1
    obtain rfl := Option.some.inj H
    go_enter Tryd.func12, Tryd.ntmps12
    go_wp2_with (first | ((with_reducible refine gate_dst (N := 1) rfl ?_); refine box_event ?hg (N := 1) ?hd (cs := #[.string a0_0, .string a0_1, .int .i64 a0_2, .int .i64 a0_3]) (t := 37) ?hr ?_; (case hd => rfl); (case hg => rfl); (case hr => first | (go_simp; done) | (go_simp; rfl)); intro gb106 hg w28 hbox hb; have n0_ := Aside0.mk (below_step (by repeat (first | (with_reducible first | exact HB.out | apply below_alloc | apply pw_below_drewN | apply below_drew1) | exact HB.out)) hb); have n1_ := Aside0.mk (hbox); have n2_ := Aside0.mk ((by rw [hg]; exact (below_size (by repeat (first | (with_reducible first | exact HB.out | apply below_alloc | apply pw_below_drewN | apply below_drew1) | exact HB.out))) : w.heap.size ≤ gb106)); have n3_ := Aside0.mk ((by rw [hg]; exact (below_size (by repeat (first | (with_reducible first | exact HB.out | apply below_alloc | apply pw_below_drewN | apply below_drew1) | exact HB.out))) : w.heap.size ≤ gb106)); clear HB; have HB := n0_; have BK106 := n1_; have GW106 := n2_; have GE106 := n3_; clear n0_ n1_ n2_ n3_; clear hb hbox hg; have hcz29_0 : w28.cell? ⟨gb106, 0, none⟩ = some (.string a0_0) := (blk_cell BK106.out 0).trans rfl; have hcz29_1 : w28.cell? ⟨gb106, 1, none⟩ = some (.string a0_1) := (blk_cell BK106.out 1).trans rfl; have hcz29_2 : w28.cell? ⟨gb106, 2, none⟩ = some (.int .i64 a0_2) := (blk_cell BK106.out 2).trans rfl; have hcz29_3 : w28.cell? ⟨gb106, 3, none⟩ = some (.int .i64 a0_3) := (blk_cell BK106.out 3).trans rfl; have hfz29_0 := blk_frozen BK106.out 0; have hfz29_1 := blk_frozen BK106.out 1; have hfz29_2 := blk_frozen BK106.out 2; have hfz29_3 := blk_frozen BK106.out 3) | ((with_reducible refine gate_callee (f := 28) rfl ?_); refine goesL_ (some 5) rfl rfl Tryd.func28 (by kernel_rfl) rfl #[.string a0_0] rfl (by (try simp only [List.map_toArray, List.map_cons, List.map_nil]); first | done | rfl | (simp only [List.length_drop, List.length_take]; rfl)) ?_; (with_reducible refine (spec_IsPlain.calls k a0_0 false _ A2.out).mono ?_); rintro e w' ⟨rfl, ⟨nd, rfl⟩⟩; refine ⟨_, rfl, ?_⟩))
    go_ret
    exact ⟨by first | rfl | (simp [errW_none, errW_some] <;> rfl) | (simp [*, errW_none, errW_some] <;> rfl), by repeat (first | (with_reducible first | exact HB.out | apply below_alloc | apply pw_below_drewN | apply below_drew1 | refine below_set ?_ GE106.out) | exact HB.out)⟩

/-! ### bytealg_LastIndexByte: function 68 -/
def bytealg_LastIndexByte.l0 : Nat → List Int → Int → Int → Option (Int)
  | 0, _, _, _ => none
  | k + 1, x0, x1, x5 => if x5 ≥ 0 then (if 0 ≤ x5 then (if x5 < (x0.length : Int) then (if (rd x0 x5) = x1 then (some x5) else (bytealg_LastIndexByte.l0 k x0 x1 (wrap64 (x5 - 1)))) else (none)) else (none)) else (some (-1))
def bytealg_LastIndexByte.f (k : Nat) (l0 : List Int) (a1 : Int) : Option (Int) := bytealg_LastIndexByte.l0 k l0 a1 (wrap64 ((l0.length : Int) - 1))
theorem bytealg_LastIndexByte.mono_l : ∀ k, (∀ y0 y1 y2, LeO (bytealg_LastIndexByte.l0 k y0 y1 y2) (bytealg_LastIndexByte.l0 (k + 1) y0 y1 y2))
  | 0 => fun _ _ _ r h => by simp [bytealg_LastIndexByte.l0] at h
  | k + 1 => by
    have ih0 := bytealg_LastIndexByte.mono_l k
    · intro y0 y1 y2
      unfold bytealg_LastIndexByte.l0
      repeat' first
      | (with_reducible exact ih0 _ _ _)
      | (with_reducible exact LeO.refl _)
      | (with_reducible exact LeO.none _)
      | (with_reducible refine LeO.ite ?_ ?_)
      | (with_reducible refine LeO.bind ?_ (fun _ => ?_))
      | exact ih0 _ _ _
      | exact LeO.none _
      | refine LeO.ite ?_ ?_
      | refine LeO.bind ?_ (fun _ => ?_)
theorem bytealg_LastIndexByte.mono : ∀ a0 a1 k, LeO (bytealg_LastIndexByte.f k a0 a1) (bytealg_LastIndexByte.f (k + 1) a0 a1) := by
  intro a0 a1 k
  have ih0 := bytealg_LastIndexByte.mono_l k
  unfold bytealg_LastIndexByte.f
  repeat' first
      | (with_reducible exact ih0 _ _ _)
      | (with_reducible exact LeO.refl _)
      | (with_reducible exact LeO.none _)
      | (with_reducible refine LeO.ite ?_ ?_)
      | (with_reducible refine LeO.bind ?_ (fun _ => ?_))
      | exact ih0 _ _ _
      | exact LeO.none _
      | refine LeO.ite ?_ ?_
      | refine LeO.bind ?_ (fun _ => ?_)
set_option maxHeartbeats 8000000 in
set_option maxRecDepth 100000 in
theorem bytealg_LastIndexByte.calls (k : Nat) (A0 : Option Addr) (c0 : Nat) (l0 : List Int) (a1 : Int) (r : Int) (w : World) (hr0 : Kd.C (Kd.int .u8) w A0 l0.length l0) (hc0 : l0.length ≤ c0) (h : bytealg_LastIndexByte.f k l0 a1 = some r) :
    Calls Tryd.prog 68 #[.slice A0 l0.length c0, .int .u8 a1] w fun e w' => e = .returned (.int .i64 r) ∧ Drawn0 w w' := by
  have HR0 := Aside0.mk hr0
  have HC0 := Aside0.mk hc0
  clear hr0 hc0
  have H : (bytealg_LastIndexByte.l0 k l0 a1 (wrap64 ((l0.length : Int) - 1))) = some r := h
  clear h
  have H' := Aside0.mk H
  clear H
  go_enter Tryd.func68, Tryd.ntmps68
  go_wp2
  go_loopg [5] k (fun kq v5 w' => ∃ (x5_1 : Int), v5 = .int .i64 x5_1 ∧ Aside0 (bytealg_LastIndexByte.l0 kq l0 a1 x5_1 = some r) ∧ Aside0 (kq ≤ k) ∧ Drawn0 w w')
  case atStart => exact ⟨(wrap64 ((l0.length : Int) - 1)), (by first | rfl | (simp; done) | (simp [*]; done)), H', ⟨Nat.le_refl _⟩, by repeat (first | exact Drawn0.refl _ | apply Drawn0.step)⟩
  case round =>
    clear H'
    try clear p2
    obtain ⟨x5_1, rfl, HA, HK1, ⟨m1, rfl⟩⟩ := hrel
    cases gk with
    | zero => exact absurd HA.out (by simp [bytealg_LastIndexByte.l0])
    | succ k1 =>
      have H := HA.out
      clear HA
      simp only [bytealg_LastIndexByte.l0] at H
      by_cases c3 : x5_1 ≥ 0
      · rw [if_pos c3] at H
        have c3b0 : decide (0 ≤ x5_1) = true := decide_eq_true c3
        clear c3
        by_cases c4 : 0 ≤ x5_1
        · rw [if_pos c4] at H
          have c4b0 : decide (0 ≤ x5_1) = true := decide_eq_true c4
          clear c4
          by_cases c5 : x5_1 < (l0.length : Int)
          · rw [if_pos c5] at H
            have c5b0 : decide (x5_1 < (l0.length : Int)) = true := decide_eq_true c5
            clear c5
            by_cases c6 : (rd l0 x5_1) = a1
            · rw [if_pos c6] at H
              have c6b0 : ((rd l0 x5_1) == a1) = true := beq_iff_eq.mpr c6
              have c6b1 : ((rd l0 x5_1) != a1) = false := bne_eq_false_iff_eq.mpr c6
              clear c6
              obtain rfl := Option.some.inj H
              have p109 : 0 ≤ (x5_1 : Int) := of_decide_eq_true (by first | (with_reducible assumption) | assumption)
              have q109 : x5_1 < (l0.length : Int) := of_decide_eq_true (by first | (with_reducible assumption) | assumption)
              obtain ⟨ad109, e109, hx109_0⟩ := Kd.at_int HR0.out x5_1 p109 q109
              cases e109
              replace p109 := eq_true p109
              replace q109 := eq_true q109
              go_wp2
              go_ret
              exact ⟨by first | rfl | (simp; done) | (simp [*]; done), by repeat (first | exact Drawn0.refl _ | apply Drawn0.step)⟩
            · rw [if_neg c6] at H
              have c6b0 : ((rd l0 x5_1) == a1) = false := beq_eq_false_iff_ne.mpr c6
              have c6b1 : ((rd l0 x5_1) != a1) = true := bne_iff_ne.mpr c6
              have H' := Aside0.mk H
              clear H
              have p109 : 0 ≤ (x5_1 : Int) := of_decide_eq_true (by first | (with_reducible assumption) | assumption)
              have q109 : x5_1 < (l0.length : Int) := of_decide_eq_true (by first | (with_reducible assumption) | assumption)
              obtain ⟨ad109, e109, hx109_0⟩ := Kd.at_int HR0.out x5_1 p109 q109
              cases e109
              replace p109 := eq_true p109
              replace q109 := eq_true q109
              go_wp2
              go_roundg k1
              case measure => have := HK1.out; omega
              case rel => exact ⟨(wrap64 (x5_1 - 1)), (by first | rfl | (simp; done) | (simp [*]; done)), H', ⟨by have := HK1.out; omega⟩, by repeat (first | exact Drawn0.refl _ | apply Drawn0.step)⟩
          · rw [if_neg c5] at H
            exact absurd H (by simp)
        · rw [if_neg c4] at H
          exact absurd H (by simp)
      · rw [if_neg c3] at H
        have c3b0 : decide (0 ≤ x5_1) = false := decide_eq_false c3
        clear c3
        obtain rfl := Option.some.inj H
        go_wp2
        go_ret
        exact ⟨by first | rfl | (simp; done) | (simp [*]; done), by repeat (first | exact Drawn0.refl _ | apply Drawn0.step)⟩

/-! ### bytes_LastIndexByte: function 45 -/
def bytes_LastIndexByte.f (k : Nat) (l0 : List Int) (a1 : Int) : Option (Int) := (bytealg_LastIndexByte.f k l0 a1).bind fun t110 => (some t110)
theorem bytes_LastIndexByte.mono : ∀ a0 a1 k, LeO (bytes_LastIndexByte.f k a0 a1) (bytes_LastIndexByte.f (k + 1) a0 a1) := by
  intro a0 a1 k
  unfold bytes_LastIndexByte.f
  repeat' first
      | (with_reducible exact bytealg_LastIndexByte.mono _ _ _)
      | (with_reducible exact LeO.refl _)
      | (with_reducible exact LeO.none _)
      | (with_reducible refine LeO.ite ?_ ?_)
      | (with_reducible refine LeO.bind ?_ (fun _ => ?_))
      | exact bytealg_LastIndexByte.mono _ _ _
      | exact LeO.none _
      | refine LeO.ite ?_ ?_
      | refine LeO.bind ?_ (fun _ => ?_)
set_option maxHeartbeats 8000000 in
set_option maxRecDepth 100000 in
theorem bytes_LastIndexByte.calls (k : Nat) (A0 : Option Addr) (c0 : Nat) (l0 : List Int) (a1 : Int) (r : Int) (w : World) (hr0 : Kd.C (Kd.int .u8) w A0 l0.length l0) (hc0 : l0.length ≤ c0) (h : bytes_LastIndexByte.f k l0 a1 = some r) :
    Calls Tryd.prog 45 #[.slice A0 l0.length c0, .int .u8 a1] w fun e w' => e = .returned (.int .i64 r) ∧ Drawn0 w w' := by
  have HR0 := Aside0.mk hr0
  have HC0 := Aside0.mk hc0
  clear hr0 hc0
  have H : ((bytealg_LastIndexByte.f k l0 a1).bind fun t110 => (some t110)) = some r := h
  clear h
  replace H := Option.bind_eq_some_iff.mp H
  obtain ⟨t110, A30, H⟩ := H
  replace H : (some t110) = some r := H
  have A3 := Aside0.mk A30
  clear A30
  obtain rfl := Option.some.inj H
  go_enter Tryd.func45, Tryd.ntmps45
  go_wp2_with (first | ((with_reducible refine gate_callee (f := 68) rfl ?_); refine goesL_ (some 7) rfl rfl Tryd.func68 (by kernel_rfl) rfl #[.slice A0 l0.length c0, .int .u8 a1] rfl (by (try simp only [List.map_toArray, List.map_cons, List.map_nil]); first | done | rfl | (simp only [List.length_drop, List.length_take]; rfl)) ?_; (with_reducible refine (bytealg_LastIndexByte.calls k _ _ l0 a1 t110 _ ?side1 ?side2 A3.out).mono ?_); (case side1 => repeat (first | exact HR0.out | (with_reducible refine Kd.C_alloc ?_ _) | (with_reducible refine Kd.C_drewN ?_ _) | (with_reducible refine Kd.C_drew ?_))); (case side2 => exact HC0.out); rintro e w' ⟨rfl, ⟨nd, rfl⟩⟩; refine ⟨_, rfl, ?_⟩))
  go_ret
  exact ⟨by first | rfl | (simp; done) | (simp [*]; done), by repeat (first | exact Drawn0.refl _ | apply Drawn0.step)⟩

end Go.Proofs.YtmdffoplfiamlaaDoor.PFnWhoRead
