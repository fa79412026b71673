/- Contracts of functions of the specification and of the program, as a printer of the kit wrote them, some left out. -/
import Derived.Test.YtiibeefadgmicaaDoorPFnRevStepsx0
import Derived.Test.YtiibeefadgmicaaDoorPFnRevStepsx1
namespace Go.Proofs.YtiibeefadgmicaaDoor.PFnRevSteps
open Go.RowKit Go.Proofs.YtiibeefadgmicaaDoorW.PrintWords Go.Proofs.YtiibeefadgmicaaDoorW.PrintLast Go.Proofs.YtiibeefadgmicaaDoorW.PrintMore
attribute [local go_sem] max2_int min2_int max_two min_two max_three min_three max_four min_four   -- for this text's walks alone
set_option linter.unusedVariables false
set_option linter.unusedSimpArgs false

attribute [local go_sem high] eqA29
-- NOT PRINTED: function 80 (strconv_ParseUint)

-- NOT PRINTED: function 66 (strconv_ParseInt)

-- NOT PRINTED: function 51 (strconv_Atoi_51)

-- NOT PRINTED: function 81 (stringslite_Clone)

-- NOT PRINTED: function 67 (strconv_syntaxError)

-- NOT PRINTED: function 68 (strconv_rangeError)

-- NOT PRINTED: function 53 (errors_New)

-- NOT PRINTED: function 56 (strconv_numDigits)

-- NOT PRINTED: function 57 (strconv_formatBase10)

-- NOT PRINTED: function 83 (bits_TrailingZeros32)

-- NOT PRINTED: function 84 (bits_TrailingZeros64)

-- NOT PRINTED: function 75 (bits_TrailingZeros)

-- NOT PRINTED: function 58 (strconv_formatBits)

-- NOT PRINTED: function 42 (strconv_FormatInt_42)

-- NOT PRINTED: function 87 (strconv_Itoa_87)

-- NOT PRINTED: function 82 (strconv_Itoa_82)

-- NOT PRINTED: function 69 (strconv_baseError)

-- NOT PRINTED: function 70 (strconv_bitSizeError)

-- NOT PRINTED: function 52 (strconv_toError)

-- NOT PRINTED: function 36 (strconv_Atoi_36)

-- NOT PRINTED: function 37 (revision_zzDate)

-- NOT PRINTED: function 25 (revision_Parser_parseAt)

-- NOT PRINTED: function 26 (revision_Parser_parseTilde)

-- NOT PRINTED: function 38 (revision_Parser_parseCaretBraces)

-- NOT PRINTED: function 27 (revision_Parser_parseCaret)

-- NOT PRINTED: function 39 (revision_Parser_parseColonSlash)

-- NOT PRINTED: function 40 (revision_Parser_parseColonDefault)

-- NOT PRINTED: function 28 (revision_Parser_parseColon)

-- NOT PRINTED: function 29 (revision_Parser_validateFullRevision)

-- NOT PRINTED: function 41 (revision_Parser_checkRefFormat)

-- NOT PRINTED: function 31 (revision_Parser_parseRef)

-- NOT PRINTED: function 20 (revision_Parser_Parse)

-- NOT PRINTED: function 32 (strconv_FormatInt_32)

/-! ### zztime_Time_Unix: function 33 -/
def zztime_Time_Unix.f (a0_0 : Int) (a0_1 : Int) (a0_2 : Int) : Option (Int) := some (wrap64 (a0_0 - 62135596800))
set_option maxHeartbeats 8000000 in
set_option maxRecDepth 100000 in
theorem zztime_Time_Unix.calls (a0_0 : Int) (a0_1 : Int) (a0_2 : Int) (r : Int) (w : World) (h : zztime_Time_Unix.f a0_0 a0_1 a0_2 = some r) :
    Calls Tryd.prog 33 #[.agg #[.int .i64 a0_0, .int .i64 a0_1, .int .i64 a0_2]] w fun e w' => e = .returned (.int .i64 r) ∧ Below w.heap.size w w' := by
  have hu73 := Tryd.underlying73
  have HB := Aside0.mk (Below.refl w.heap.size w)
  have H : (some (wrap64 (a0_0 - 62135596800))) = some r := h
  clear h
  obtain rfl := Option.some.inj H
  go_enter Tryd.func33, Tryd.ntmps33
  go_wp2_with (first | ((with_reducible refine gate_dst (N := 1) rfl ?_); refine box_event ?hg (N := 1) ?hd (cs := #[.int .i64 a0_0, .int .i64 a0_1, .int .i64 a0_2]) (t := 73) ?hr ?_; (case hd => rfl); (case hg => rfl); (case hr => first | (go_simp; done) | (go_simp; rfl)); intro gb149 hg w2 hbox hb; have n0_ := Aside0.mk (below_step (by repeat (first | (with_reducible first | exact HB.out | apply below_alloc | apply pw_below_drewN | apply below_drew1) | exact HB.out)) hb); have n1_ := Aside0.mk (hbox); have n2_ := Aside0.mk ((by rw [hg]; exact (below_size (by repeat (first | (with_reducible first | exact HB.out | apply below_alloc | apply pw_below_drewN | apply below_drew1) | exact HB.out))) : w.heap.size ≤ gb149)); have n3_ := Aside0.mk ((by rw [hg]; exact (below_size (by repeat (first | (with_reducible first | exact HB.out | apply below_alloc | apply pw_below_drewN | apply below_drew1) | exact HB.out))) : w.heap.size ≤ gb149)); clear HB; have HB := n0_; have BK149 := n1_; have GW149 := n2_; have GE149 := n3_; clear n0_ n1_ n2_ n3_; clear hb hbox hg; have hcz3_0 : w2.cell? ⟨gb149, 0, none⟩ = some (.int .i64 a0_0) := (blk_cell BK149.out 0).trans rfl; have hcz3_1 : w2.cell? ⟨gb149, 1, none⟩ = some (.int .i64 a0_1) := (blk_cell BK149.out 1).trans rfl; have hcz3_2 : w2.cell? ⟨gb149, 2, none⟩ = some (.int .i64 a0_2) := (blk_cell BK149.out 2).trans rfl; have hfz3_0 := blk_frozen BK149.out 0; have hfz3_1 := blk_frozen BK149.out 1; have hfz3_2 := blk_frozen BK149.out 2))
  go_ret
  exact ⟨by first | rfl | (simp [errW_none, errW_some] <;> rfl) | (simp [*, errW_none, errW_some] <;> rfl), by repeat (first | (with_reducible first | exact HB.out | apply below_alloc | apply pw_below_drewN | apply below_drew1 | refine below_set ?_ GE149.out) | exact HB.out)⟩

-- NOT PRINTED: function 21 (impl_partOf)

-- NOT PRINTED: function 15 (impl_ParseRevision)

/-! ### spec_SameParts: function 17 -/
def spec_SameParts.l0 : Nat → List (S29) → List (S29) → Int → Int → Option (Bool)
  | 0, _, _, _, _ => none
  | k + 1, x0, x1, x12, x13 => if x13 < x12 then (if 0 ≤ x13 then (if x13 < (x0.length : Int) then (if x13 < (x1.length : Int) then (if (!((((rd_T29 x0 x13).f0).toList) == (((rd_T29 x1 x13).f0).toList)) || (!((((rd_T29 x0 x13).f1).toList) == (((rd_T29 x1 x13).f1).toList)) || (!(((rd_T29 x0 x13).f2) == ((rd_T29 x1 x13).f2)) || (!(((rd_T29 x0 x13).f3) == ((rd_T29 x1 x13).f3)))))) = true then (some false) else (spec_SameParts.l0 k x0 x1 x12 (wrap64 (x13 + 1)))) else (none)) else (none)) else (none)) else (some true)
def spec_SameParts.f (k : Nat) (l0 : List (S29)) (l1 : List (S29)) : Option (Bool) := if (l0.length : Int) = (l1.length : Int) then (spec_SameParts.l0 k l0 l1 (l0.length : Int) 0) else (some false)
theorem spec_SameParts.mono_l : ∀ k, (∀ y0 y1 y2 y3, LeO (spec_SameParts.l0 k y0 y1 y2 y3) (spec_SameParts.l0 (k + 1) y0 y1 y2 y3))
  | 0 => fun _ _ _ _ r h => by simp [spec_SameParts.l0] at h
  | k + 1 => by
    have ih0 := spec_SameParts.mono_l k
    · intro y0 y1 y2 y3
      unfold spec_SameParts.l0
      repeat' first
      | (with_reducible exact ih0 _ _ _ _)
      | (with_reducible exact LeO.refl _)
      | (with_reducible exact LeO.none _)
      | (with_reducible refine LeO.ite ?_ ?_)
      | (with_reducible refine LeO.bind ?_ (fun _ => ?_))
      | exact ih0 _ _ _ _
      | exact LeO.none _
      | refine LeO.ite ?_ ?_
      | refine LeO.bind ?_ (fun _ => ?_)
theorem spec_SameParts.mono : ∀ a0 a1 k, LeO (spec_SameParts.f k a0 a1) (spec_SameParts.f (k + 1) a0 a1) := by
  intro a0 a1 k
  have ih0 := spec_SameParts.mono_l k
  unfold spec_SameParts.f
  repeat' first
      | (with_reducible exact ih0 _ _ _ _)
      | (with_reducible exact LeO.refl _)
      | (with_reducible exact LeO.none _)
      | (with_reducible refine LeO.ite ?_ ?_)
      | (with_reducible refine LeO.bind ?_ (fun _ => ?_))
      | exact ih0 _ _ _ _
      | exact LeO.none _
      | refine LeO.ite ?_ ?_
      | refine LeO.bind ?_ (fun _ => ?_)
set_option maxHeartbeats 8000000 in
set_option maxRecDepth 100000 in
theorem spec_SameParts.calls (k : Nat) (A0 : Option Addr) (c0 : Nat) (l0 : List (S29)) (A1 : Option Addr) (c1 : Nat) (l1 : List (S29)) (r : Bool) (w : World) (hr0 : Kd.C k29 w A0 l0.length l0) (hc0 : l0.length ≤ c0) (hr1 : Kd.C k29 w A1 l1.length l1) (hc1 : l1.length ≤ c1) (h : spec_SameParts.f k l0 l1 = some r) :
    Calls Tryd.prog 17 #[.slice A0 l0.length c0, .slice A1 l1.length c1] w fun e w' => e = .returned (.bool r) ∧ Drawn0 w w' := by
  have hu29 := Tryd.underlying29
  have HR0 := Aside0.mk hr0
  have HC0 := Aside0.mk hc0
  clear hr0 hc0
  have HR1 := Aside0.mk hr1
  have HC1 := Aside0.mk hc1
  clear hr1 hc1
  have H : (if (l0.length : Int) = (l1.length : Int) then (spec_SameParts.l0 k l0 l1 (l0.length : Int) 0) else (some false)) = some r := h
  clear h
  by_cases c3 : (l0.length : Int) = (l1.length : Int)
  · rw [if_pos c3] at H
    have c3b0 : ((l0.length : Int) == (l1.length : Int)) = true := beq_iff_eq.mpr c3
    have c3b1 : ((l0.length : Int) != (l1.length : Int)) = false := bne_eq_false_iff_eq.mpr c3
    have c3b2 : (l0.length == l1.length) = true := by first | simpa using c3 | (simp at c3 ⊢; omega)
    clear c3
    have H' := Aside0.mk H
    clear H
    go_enter Tryd.func17, Tryd.ntmps17
    go_wp2
    repeat (go_quiet (fail); try go_wp2)
    go_loopg [13] k (fun kq v13 w' => ∃ (x13_1 : Int), v13 = .int .i64 x13_1 ∧ Aside0 (spec_SameParts.l0 kq l0 l1 (l0.length : Int) x13_1 = some r) ∧ Aside0 (kq ≤ k) ∧ Drawn0 w w')
    case atStart => exact ⟨(0), (by first | rfl | (simp; done) | (simp [*]; done)), H', ⟨Nat.le_refl _⟩, by repeat (first | exact Drawn0.refl _ | apply Drawn0.step)⟩
    case round =>
      clear H'
      try clear c1
      try clear p2
      try clear c3
      try clear c3b0
      try clear c3b1
      try clear c3b2
      obtain ⟨x13_1, rfl, HA, HK1, ⟨m1, rfl⟩⟩ := hrel
      cases gk with
      | zero => exact absurd HA.out (by simp [spec_SameParts.l0])
      | succ k1 =>
        have H := HA.out
        clear HA
        simp only [spec_SameParts.l0] at H
        by_cases c4 : x13_1 < (l0.length : Int)
        · rw [if_pos c4] at H
          have c4b0 : decide (x13_1 < (l0.length : Int)) = true := decide_eq_true c4
          clear c4
          by_cases c5 : 0 ≤ x13_1
          · rw [if_pos c5] at H
            have c5b0 : decide (0 ≤ x13_1) = true := decide_eq_true c5
            clear c5
            by_cases c6 : x13_1 < (l0.length : Int)
            · rw [if_pos c6] at H
              have c6b0 : decide (x13_1 < (l0.length : Int)) = true := decide_eq_true c6
              clear c6
              by_cases c7 : x13_1 < (l1.length : Int)
              · rw [if_pos c7] at H
                have c7b0 : decide (x13_1 < (l1.length : Int)) = true := decide_eq_true c7
                clear c7
                by_cases c8 : (!((((rd_T29 l0 x13_1).f0).toList) == (((rd_T29 l1 x13_1).f0).toList)) || (!((((rd_T29 l0 x13_1).f1).toList) == (((rd_T29 l1 x13_1).f1).toList)) || (!(((rd_T29 l0 x13_1).f2) == ((rd_T29 l1 x13_1).f2)) || (!(((rd_T29 l0 x13_1).f3) == ((rd_T29 l1 x13_1).f3)))))) = true
                · rw [if_pos c8] at H
                  have c8b0 : (!((((rd_T29 l0 x13_1).f0).toList) == (((rd_T29 l1 x13_1).f0).toList)) || (!((((rd_T29 l0 x13_1).f1).toList) == (((rd_T29 l1 x13_1).f1).toList)) || (!(((rd_T29 l0 x13_1).f2) == ((rd_T29 l1 x13_1).f2)) || (!(((rd_T29 l0 x13_1).f3) == ((rd_T29 l1 x13_1).f3)))))) = true := c8
                  clear c8
                  obtain rfl := Option.some.inj H
                  have p150 : 0 ≤ (x13_1 : Int) := of_decide_eq_true (by first | (with_reducible assumption) | assumption)
                  have q150 : x13_1 < (l0.length : Int) := of_decide_eq_true (by first | (with_reducible assumption) | assumption)
                  obtain ⟨ad150, e150, hx150_0, hx150_1, hx150_2, hx150_3⟩ := at_T29 HR0.out x13_1 p150 q150
                  cases e150
                  replace p150 := eq_true p150
                  replace q150 := eq_true q150
                  have p151 : 0 ≤ (x13_1 : Int) := of_decide_eq_true (by first | (with_reducible assumption) | assumption)
                  have q151 : x13_1 < (l1.length : Int) := of_decide_eq_true (by first | (with_reducible assumption) | assumption)
                  obtain ⟨ad151, e151, hx151_0, hx151_1, hx151_2, hx151_3⟩ := at_T29 HR1.out x13_1 p151 q151
                  cases e151
                  replace p151 := eq_true p151
                  replace q151 := eq_true q151
                  go_wp2
                  repeat (go_quiet (fail); try go_wp2)
                  go_ret
                  exact ⟨by first | rfl | (simp; done) | (simp [*]; done), by repeat (first | exact Drawn0.refl _ | apply Drawn0.step)⟩
                · rw [if_neg c8] at H
                  have c8b0 : (!((((rd_T29 l0 x13_1).f0).toList) == (((rd_T29 l1 x13_1).f0).toList)) || (!((((rd_T29 l0 x13_1).f1).toList) == (((rd_T29 l1 x13_1).f1).toList)) || (!(((rd_T29 l0 x13_1).f2) == ((rd_T29 l1 x13_1).f2)) || (!(((rd_T29 l0 x13_1).f3) == ((rd_T29 l1 x13_1).f3)))))) = false := by simpa using c8
                  clear c8
                  have H' := Aside0.mk H
                  clear H
                  have p150 : 0 ≤ (x13_1 : Int) := of_decide_eq_true (by first | (with_reducible assumption) | assumption)
                  have q150 : x13_1 < (l0.length : Int) := of_decide_eq_true (by first | (with_reducible assumption) | assumption)
                  obtain ⟨ad150, e150, hx150_0, hx150_1, hx150_2, hx150_3⟩ := at_T29 HR0.out x13_1 p150 q150
                  cases e150
                  replace p150 := eq_true p150
                  replace q150 := eq_true q150
                  have p151 : 0 ≤ (x13_1 : Int) := of_decide_eq_true (by first | (with_reducible assumption) | assumption)
                  have q151 : x13_1 < (l1.length : Int) := of_decide_eq_true (by first | (with_reducible assumption) | assumption)
                  obtain ⟨ad151, e151, hx151_0, hx151_1, hx151_2, hx151_3⟩ := at_T29 HR1.out x13_1 p151 q151
                  cases e151
                  replace p151 := eq_true p151
                  replace q151 := eq_true q151
                  go_wp2
                  repeat (go_quiet (fail); try go_wp2)
                  go_roundg k1
                  case measure => have := HK1.out; omega
                  case rel => exact ⟨(wrap64 (x13_1 + 1)), (by first | rfl | (simp; done) | (simp [*]; done)), H', ⟨by have := HK1.out; omega⟩, by repeat (first | exact Drawn0.refl _ | apply Drawn0.step)⟩
              · rw [if_neg c7] at H
                exact absurd H (by simp)
            · rw [if_neg c6] at H
              exact absurd H (by simp)
          · rw [if_neg c5] at H
            exact absurd H (by simp)
        · rw [if_neg c4] at H
          have c4b0 : decide (x13_1 < (l0.length : Int)) = false := decide_eq_false c4
          clear c4
          obtain rfl := Option.some.inj H
          go_wp2
          repeat (go_quiet (fail); try go_wp2)
          go_ret
          exact ⟨by first | rfl | (simp; done) | (simp [*]; done), by repeat (first | exact Drawn0.refl _ | apply Drawn0.step)⟩
  · rw [if_neg c3] at H
    have c3b0 : ((l0.length : Int) == (l1.length : Int)) = false := beq_eq_false_iff_ne.mpr c3
    have c3b1 : ((l0.length : Int) != (l1.length : Int)) = true := bne_iff_ne.mpr c3
    have c3b2 : (l0.length == l1.length) = false := by first | simpa using c3 | (simp at c3 ⊢; omega)
    obtain rfl := Option.some.inj H
    go_enter Tryd.func17, Tryd.ntmps17
    go_wp2
    repeat (go_quiet (fail); try go_wp2)
    go_ret
    exact ⟨by first | rfl | (simp; done) | (simp [*]; done), by repeat (first | exact Drawn0.refl _ | apply Drawn0.step)⟩

-- NOT PRINTED: function 11 (laws_rvIs)

-- NOT PRINTED: function 18 (spec_Decimal)

-- NOT PRINTED: function 12 (spec_StepsText)

/-! ### laws_rvRef: function 13 -/
def laws_rvRef.f (a0 : ByteArray) : Option (ByteArray × ByteArray × Int × Bool) := some ((⟨#[82, 101, 102]⟩ : ByteArray), a0, 0, false)
set_option maxHeartbeats 8000000 in
set_option maxRecDepth 100000 in
theorem laws_rvRef.calls (a0 : ByteArray) (r1 : ByteArray) (r2 : ByteArray) (r3 : Int) (r4 : Bool) (w : World) (h : laws_rvRef.f a0 = some (r1, r2, r3, r4)) :
    Calls Tryd.prog 13 #[.string a0] w fun e w' => e = .returned (.agg #[.string r1, .string r2, .int .i64 r3, .bool r4]) ∧ Below w.heap.size w w' := by
  have hu29 := Tryd.underlying29
  have HB := Aside0.mk (Below.refl w.heap.size w)
  have H : (some ((⟨#[82, 101, 102]⟩ : ByteArray), a0, 0, false)) = some (r1, r2, r3, r4) := h
  clear h
  simp only [Option.some.injEq, Prod.mk.injEq] at H
  obtain ⟨rfl, rfl, rfl, rfl⟩ := H
  go_enter Tryd.func13, Tryd.ntmps13
  go_wp2_with (first | ((with_reducible refine gate_dst (N := 2) rfl ?_); refine box_event ?hg (N := 2) ?hd (cs := #[.string (⟨#[]⟩ : ByteArray), .string (⟨#[]⟩ : ByteArray), .int .i64 0, .bool false]) (t := 29) ?hr ?_; (case hd => rfl); (case hg => rfl); (case hr => first | (go_simp; done) | (go_simp; rfl)); intro gb154 hg w2 hbox hb; have n0_ := Aside0.mk (below_step (by repeat (first | (with_reducible first | exact HB.out | apply below_alloc | apply pw_below_drewN | apply below_drew1) | exact HB.out)) hb); have n1_ := Aside0.mk (hbox); have n2_ := Aside0.mk ((by rw [hg]; exact (below_size (by repeat (first | (with_reducible first | exact HB.out | apply below_alloc | apply pw_below_drewN | apply below_drew1) | exact HB.out))) : w.heap.size ≤ gb154)); have n3_ := Aside0.mk ((by rw [hg]; exact (below_size (by repeat (first | (with_reducible first | exact HB.out | apply below_alloc | apply pw_below_drewN | apply below_drew1) | exact HB.out))) : w.heap.size ≤ gb154)); clear HB; have HB := n0_; have BK154 := n1_; have GW154 := n2_; have GE154 := n3_; clear n0_ n1_ n2_ n3_; clear hb hbox hg; have hcz3_0 : w2.cell? ⟨gb154, 0, none⟩ = some (.string (⟨#[]⟩ : ByteArray)) := (blk_cell BK154.out 0).trans rfl; have hcz3_1 : w2.cell? ⟨gb154, 1, none⟩ = some (.string (⟨#[]⟩ : ByteArray)) := (blk_cell BK154.out 1).trans rfl; have hcz3_2 : w2.cell? ⟨gb154, 2, none⟩ = some (.int .i64 0) := (blk_cell BK154.out 2).trans rfl; have hcz3_3 : w2.cell? ⟨gb154, 3, none⟩ = some (.bool false) := (blk_cell BK154.out 3).trans rfl; have hfz3_0 := blk_frozen BK154.out 0; have hfz3_1 := blk_frozen BK154.out 1; have hfz3_2 := blk_frozen BK154.out 2; have hfz3_3 := blk_frozen BK154.out 3))
  refine bodyPost_ret (results_cell_row rfl _ _ gb154 29 #[.string (⟨#[82, 101, 102]⟩ : ByteArray), .string a0, .int .i64 0, .bool false] (0, 0) _ rfl (by (with_reducible repeat (first | refine blk_drewN ?_ _ | refine blk_drew ?_ | refine blk_alloc ?_ _)); refine blk_put (cs := #[.string (⟨#[82, 101, 102]⟩ : ByteArray), .string a0, .int .i64 0, .bool false]) ?_ 3 _ rfl; (with_reducible repeat (first | refine blk_drewN ?_ _ | refine blk_drew ?_ | refine blk_alloc ?_ _)); refine blk_put (cs := #[.string (⟨#[82, 101, 102]⟩ : ByteArray), .string a0, .int .i64 0, .bool false]) ?_ 2 _ rfl; (with_reducible repeat (first | refine blk_drewN ?_ _ | refine blk_drew ?_ | refine blk_alloc ?_ _)); refine blk_put (cs := #[.string (⟨#[82, 101, 102]⟩ : ByteArray), .string (⟨#[]⟩ : ByteArray), .int .i64 0, .bool false]) ?_ 1 _ rfl; (with_reducible repeat (first | refine blk_drewN ?_ _ | refine blk_drew ?_ | refine blk_alloc ?_ _)); refine blk_put (cs := #[.string (⟨#[]⟩ : ByteArray), .string (⟨#[]⟩ : ByteArray), .int .i64 0, .bool false]) ?_ 0 _ rfl; (with_reducible repeat (first | refine blk_drewN ?_ _ | refine blk_drew ?_ | refine blk_alloc ?_ _)); exact BK154.out) Tryd.underlying29 rfl (by kernel_rfl)) rfl ?_
  exact ⟨by first | rfl | (simp [errW_none, errW_some] <;> rfl) | (simp [*, errW_none, errW_some] <;> rfl), by repeat (first | (with_reducible first | exact HB.out | apply below_alloc | apply pw_below_drewN | apply below_drew1 | refine below_set ?_ GE154.out) | exact HB.out)⟩

-- NOT PRINTED: function 4 (laws_FnRevSteps)

end Go.Proofs.YtiibeefadgmicaaDoor.PFnRevSteps
