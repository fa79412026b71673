/- laws.FnDeltaInsert: the walk. -/
import Derived.Test.YtoofbppfbbhliaaDoorCutLaw
import Derived.Test.YtoofbppfbbhliaaDoorPFnDeltaInsertx2
namespace Go.Proofs.YtoofbppfbbhliaaDoor.steps
open Go.RowKit Go.Proofs.YtoofbppfbbhliaaDoorW.PrintWords Go.Proofs.YtoofbppfbbhliaaDoorW.PrintLast Go.Proofs.YtoofbppfbbhliaaDoorW.PrintMore Go.Proofs.YtoofbppfbbhliaaDoor.leb Go.Proofs.YtoofbppfbbhliaaDoor.PFnDeltaCut
set_option linter.unusedVariables false
set_option maxHeartbeats 2000000
set_option maxRecDepth 100000
theorem C_one {α : Type} {d : Kd α} {w : World} {g : Nat} {cells : Array Value} {t : TypeId} {fr : Nat × Nat} {x : α} (h : w.heap[g]? = some (.cells cells t fr)) (hK : d.K w x cells.toList) : d.C w (some ⟨g, 0, none⟩) 1 [x] := by
  refine ⟨rfl, by decide, fun _ => ⟨_, rfl, fun j p hj => ?_⟩⟩
  match j, hj with
  | 0, hj =>
    cases hj
    refine ⟨cells.toList, d.K_len hK, hK, fun i u hu => ?_⟩
    rw [Nat.zero_mul, Nat.zero_add, Lib.addr_add, Nat.zero_add, Lib.cell_of_heap h]
    simpa using hu
theorem slice_K {w : World} {A : Option Addr} {c : Nat} {xs : List Int} (e : Nat) (h : (Kd.int .u8).C w A xs.length xs) (hc : xs.length ≤ c) : (Kd.slice e (Kd.int .u8)).K w xs [.slice A xs.length c] := ⟨A, c, rfl, hc, h⟩
theorem small_f (base : List Int) (hb : base.length ≤ 9223372036854775807) : PFnDeltaInsert.laws_deltaSmall.f 2 [base] = some (decide (base.length ≤ 1000000)) := by
  unfold PFnDeltaInsert.laws_deltaSmall.f
  simp only [PFnDeltaInsert.laws_deltaSmall.l0, List.length_cons, List.length_nil]
  rw [if_pos (by omega), if_pos (by omega), if_pos (by omega)]
  have e : PFnDeltaInsert.rd_L3 [base] 0 = base := rfl
  rw [e]
  by_cases h : (base.length : Int) > 1000000
  · rw [if_pos h, decide_eq_false (by omega)]
  · have e1 : wrap64 (0 + 1) = 1 := w64 (by omega) (by omega)
    rw [if_neg h, e1, if_neg (by omega), decide_eq_true (by omega)]
theorem small_le {n : Nat} (h : n ≤ 1000) : n ≤ 140737488355328 := by omega
theorem insert_law (A0 A1 : Option Addr) (c0 c1 : Nat) (base text : List Int) (w : World) (hr0 : Kd.C (Kd.int .u8) w A0 base.length base) (hc0 : base.length ≤ c0) (hr1 : Kd.C (Kd.int .u8) w A1 text.length text) (hc1 : text.length ≤ c1)
    (hy : Bytes text) (e2 : Value) (ao az : Addr) (co cz : Nat) (hE : Env w e2 ao az co cz) :
    Calls Tryd.prog 8 #[.slice A0 base.length c0, .slice A1 text.length c1] w fun e w' => e = .returned (.bool true) ∧ Below w.heap.size w w' := by
  have hm0 := Kd.C_max hr0
  have HR0 := Aside0.mk hr0
  have HR1 := Aside0.mk hr1
  have HE := Aside0.mk hE
  have HY := Aside0.mk hy
  clear hr0 hr1 hE hy
  have hbA : Below w.heap.size w (w.alloc (.cells #[.slice A0 base.length c0] 44 (0, 0))) := below_alloc (Below.refl _ _) _
  have HBA := Aside0.mk hbA
  have HS : Calls Tryd.prog 33 #[.slice (some ⟨w.heap.size, 0, none⟩) 1 1] (w.alloc (.cells #[.slice A0 base.length c0] 44 (0, 0))) fun e w' => e = .returned (.bool (decide (base.length ≤ 1000000))) ∧ Drawn0 (w.alloc (.cells #[.slice A0 base.length c0] 44 (0, 0))) w' :=
    PFnDeltaInsert.laws_deltaSmall.calls 2 _ 1 [base] _ _ (C_one (blk_new w _) (slice_K _ (Kd.C_below HR0.out HBA.out) hc0)) (Nat.le_refl _) (small_f base hm0)
  have HSS := Aside0.mk HS
  clear HS hbA
  by_cases h31 : 2147483647 < base.length
  · go_enter Tryd.func8, Tryd.ntmps8
    go_wp2_with fail
    all_goals go_ret
    all_goals exact ⟨rfl, Below.refl _ _⟩
  · by_cases h32 : 2147483647 < text.length
    · go_enter Tryd.func8, Tryd.ntmps8
      go_wp2_with fail
      all_goals go_ret
      all_goals exact ⟨rfl, Below.refl _ _⟩
    · by_cases hz : base.length = 0
      · go_enter Tryd.func8, Tryd.ntmps8
        go_wp2_with fail
        refine (works_any w e2 ao az co cz HE.out).mono ?_
        rintro e w2 ⟨rfl, hb2⟩
        have HB2 := Aside0.mk hb2
        go_wp2
        go_ret
        exact ⟨rfl, HB2.out⟩
      · have hz1 : ((base.length : Int) == 0) = false := by rw [beq_eq_false_iff_ne]; omega
        go_enter Tryd.func8, Tryd.ntmps8
        go_wp2_with fail
        refine HSS.out.mono ?_
        rintro e w2 ⟨rfl, hb2⟩
        have HB2 := Aside0.mk (below_step HBA.out hb2.below)
        clear hb2 HSS HBA
        by_cases hsm : base.length ≤ 1000000
        · rw [decide_eq_true hsm]
          by_cases ht0 : text.length = 0
          · go_wp2_with fail
            refine (works_any w2 e2 ao az co cz (HE.out.below HB2.out)).mono ?_
            rintro e w3 ⟨rfl, hb3⟩
            have HB3 := Aside0.mk (below_step HB2.out hb3)
            go_wp2
            go_ret
            exact ⟨rfl, HB3.out⟩
          · have ht1 : ((text.length : Int) == 0) = false := by rw [beq_eq_false_iff_ne]; omega
            by_cases ht127 : 127 < text.length
            · have ht2 : decide (127 < (text.length : Int)) = true := decide_eq_true (by omega)
              go_wp2_with fail
              refine (works_any w2 e2 ao az co cz (HE.out.below HB2.out)).mono ?_
              rintro e w3 ⟨rfl, hb3⟩
              have HB3 := Aside0.mk (below_step HB2.out hb3)
              go_wp2
              go_ret
              exact ⟨rfl, HB3.out⟩
            · have ht2 : decide (127 < (text.length : Int)) = false := decide_eq_false (by omega)
              obtain ⟨X, hX⟩ : ∃ X : S56, X = ⟨false, 0, 0, text, 0⟩ := ⟨_, rfl⟩
              have hg : ∀ x ∈ [X], Good x base := by
                intro x hx
                rw [List.mem_singleton.1 hx, hX, Good, if_neg (by simp)]
                exact ⟨by show 1 ≤ text.length; omega, by show text.length ≤ 127; omega⟩
              have hDe := delta_f base [X] hsm (by simp) hg 700 (by omega)
              have hfl : flat [X] = (text.length : Int) :: text := by rw [hX]; simp [flat, stepB]
              have hma : madeAll base [X] = text := by rw [hX]; simp [madeAll, madeB]
              rw [hfl, hma] at hDe
              have hs1 := seven_len base.length (by omega)
              have hs2 := seven_len text.length (by omega)
              have hSz := sized_of base ((text.length : Int) :: text) text.length hsm (by omega) (by omega) (by
                intro x hx
                rcases List.mem_cons.1 hx with rfl | hx
                · omega
                · exact HY.out x hx)
              have hPa : Patch base text.length ((text.length : Int) :: text) [] (some text) := by
                refine Patch.ins (c := text.length) (by omega) (by omega) (by omega) (Nat.le_refl _) (Nat.le_refl _) ?_
                rw [Nat.sub_self, List.drop_length, List.take_length, List.nil_append]
                exact Patch.done
              obtain ⟨D, hD⟩ : ∃ D, seven base.length ++ seven text.length ++ ((text.length : Int) :: text) = D := ⟨_, rfl⟩
              have hDl : D.length ≤ 1000 := by rw [← hD]; simp only [List.length_append, List.length_cons]; omega
              rw [hD] at hDe hSz
              have HDe := Aside0.mk hDe
              have HSz := Aside0.mk hSz
              have HPa := Aside0.mk hPa
              have HX := Aside0.mk hX
              clear hX hDe hSz hPa hfl hma hg hs1 hs2 hD
              go_wp2_with fail
              have HBX := Aside0.mk (below_step HB2.out (below_alloc (Below.refl w2.heap.size w2) (.cells #[.bool false, .int .i64 0, .int .i64 0, .slice A1 text.length c1, .int .i64 0] 56 (0, 0))))
              have HDD := Aside0.mk (spec_Delta.calls 700 A0 c0 base (some ⟨w2.heap.size, 0, none⟩) 1 [X] D _ (Kd.C_below HR0.out HBX.out) hc0 (C_one (blk_new w2 _) (by rw [HX.out]; exact k56_mk _ ⟨false, 0, 0, text, 0⟩ hc1 (Kd.C_below HR1.out HBX.out))) (Nat.le_refl _) HDe.out)
              refine HDD.out.mono ?_
              rintro e w3 ⟨v3, rfl, hR3, hb3⟩
              obtain ⟨A3, c3, rfl⟩ := Kd.R_slice hR3
              obtain ⟨_, hc3, hC3⟩ := Kd.R_reads' hR3
              have HB3 := Aside0.mk (below_step HBX.out hb3)
              have HI := Aside0.mk (impl_any A0 A3 c0 c3 base D ((text.length : Int) :: text) text.length (some text) w3 (Kd.C_below HR0.out HB3.out) hc0 hC3 hc3 (cut_base hsm) (small_le hDl) e2 ao az co cz (HE.out.below HB3.out) HSz.out (Nat.pos_of_ne_zero hz) HPa.out)
              clear hR3 hC3 hb3 HDD HDe HSz HPa HBX
              go_wp2_with fail
              refine HI.out.mono ?_
              clear HI
              rintro e w4 ⟨⟨v, rfl, hR4⟩, hb4⟩
              obtain ⟨A4, c4, rfl⟩ := Kd.R_slice hR4
              obtain ⟨_, hc4, hC4⟩ := Kd.R_reads' hR4
              have HB4 := Aside0.mk (below_step HB3.out hb4)
              have HSA := Aside0.mk (PFnDeltaInsert.laws_deltaSame.calls A4 c4 text A1 c1 text true w4 hC4 hc4 (Kd.C_below HR1.out HB4.out) hc1 (by unfold PFnDeltaInsert.laws_deltaSame.f; rw [beq_self_eq_true]))
              clear hR4 hC4 hb4
              go_wp2_with fail
              refine HSA.out.mono ?_
              rintro e w5 ⟨rfl, hb5⟩
              have HB5 := Aside0.mk (below_step HB4.out hb5.below)
              clear HSA hb5
              go_wp2
              go_ret
              exact ⟨rfl, HB5.out⟩
        · rw [decide_eq_false hsm]
          go_wp2_with fail
          refine (works_any w2 e2 ao az co cz (HE.out.below HB2.out)).mono ?_
          rintro e w3 ⟨rfl, hb3⟩
          have HB3 := Aside0.mk (below_step HB2.out hb3)
          go_wp2
          go_ret
          exact ⟨rfl, HB3.out⟩
end Go.Proofs.YtoofbppfbbhliaaDoor.steps
