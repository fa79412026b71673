/- laws.FnDeltaNothing: the walk. -/
import Derived.Test.YtoofbppfbbhliaaDoorInsertLaw
import Derived.Deep.DeepMust
namespace Go.Proofs.YtoofbppfbbhliaaDoor.steps
open Go.RowKit Go.Proofs.YtoofbppfbbhliaaDoorW.PrintWords Go.Proofs.YtoofbppfbbhliaaDoorW.PrintLast Go.Proofs.YtoofbppfbbhliaaDoorW.PrintMore Go.Proofs.YtoofbppfbbhliaaDoor.leb Go.Proofs.YtoofbppfbbhliaaDoor.PFnDeltaCut
set_option linter.unusedVariables false
set_option maxHeartbeats 2000000
set_option maxRecDepth 100000
theorem flat_snoc (l : List S56) (x : S56) : flat (l ++ [x]) = flat l ++ stepB x := by simp [flat]
theorem take_one {l : List S56} {j : Nat} (h : j < l.length) : l.take (j + 1) = l.take j ++ [l[j]] := List.take_succ_eq_append_getElem h
theorem seven_two {a b : Nat} (h1 : a ≤ 9) (h2 : b ≤ 9) : (a + b) * 1 ≤ 140737488355328 := by omega
theorem seven_flat {S1 S2 F : List Int} {b : Nat} (h1 : S1.length ≤ 9) (h2 : S2.length ≤ 9) (h3 : F.length ≤ 64000) (h4 : b ≤ 128) : ((S1 ++ S2 ++ F).length + b) * 1 ≤ 140737488355328 := by
  rw [List.length_append, List.length_append]; omega
theorem seven_most {S1 S2 F T : List Int} (h1 : S1.length ≤ 9) (h2 : S2.length ≤ 9) (h3 : F.length ≤ 64000) (h4 : T.length ≤ 1000000) : (S1 ++ S2 ++ F ++ [0] ++ T).length ≤ 140737488355328 := by
  simp only [List.length_append, List.length_cons, List.length_nil]; omega
theorem seven_all {S1 S2 F T : List Int} (h1 : S1.length ≤ 9) (h2 : S2.length ≤ 9) (h3 : F.length ≤ 64000) (h4 : T.length ≤ 1000000) : ((S1 ++ S2 ++ F ++ [0]).length + T.length) * 1 ≤ 140737488355328 := by
  simp only [List.length_append, List.length_cons, List.length_nil]; omega
theorem nothing_law (A0 A1 A2 : Option Addr) (c0 c1 c2 : Nat) (base : List Int) (l : List S56) (tail : List Int) (w : World) (hr0 : Kd.C (Kd.int .u8) w A0 base.length base) (hc0 : base.length ≤ c0) (hr1 : Kd.C k56 w A1 l.length l) (hc1 : l.length ≤ c1)
    (hr2 : Kd.C (Kd.int .u8) w A2 tail.length tail) (hc2 : tail.length ≤ c2)
    (hy : ∀ x ∈ l, Bytes x.f3) (hyt : Bytes tail) (e2 : Value) (ao az : Addr) (co cz : Nat) (hE : Env w e2 ao az co cz) :
    Calls Tryd.prog 9 #[.slice A0 base.length c0, .slice A1 l.length c1, .slice A2 tail.length c2] w fun e w' => e = .returned (.bool true) ∧ Below w.heap.size w w' := by
  obtain ⟨b1, hf1, hf2⟩ := fits_f l
  obtain ⟨b2, hg1, hg2⟩ := good_f base l (Kd.C_max hr0) (Kd.C_max hr1)
  have hm2 := Kd.C_max hr2
  have HF := Aside0.mk (laws_zzFits7.calls _ A1 c1 l b1 w hr1 hc1 hf1)
  have HG := fun W (hb : Below w.heap.size w W) => spec_GoodSteps.calls _ A1 c1 l A0 c0 base b2 W (Kd.C_below hr1 hb) hc1 (Kd.C_below hr0 hb) hc0 hg1
  have HGG := Aside0.mk HG
  have HR0 := Aside0.mk hr0
  have HR1 := Aside0.mk hr1
  have HR2 := Aside0.mk hr2
  have HY := Aside0.mk hy
  have HYT := Aside0.mk hyt
  have HE := Aside0.mk hE
  have HG2 := Aside0.mk hg2
  clear hf1 hf2 hg1 hg2 HG hr0 hr1 hr2 hy hyt hE
  by_cases h31 : 2147483647 < base.length
  · go_enter Tryd.func9, Tryd.ntmps9
    go_wp2_with fail
    all_goals go_ret
    all_goals exact ⟨rfl, Below.refl _ _⟩
  · go_enter Tryd.func9, Tryd.ntmps9
    go_wp2_with fail
    refine HF.out.mono ?_
    rintro e w1 ⟨rfl, hb1⟩
    have HB1 := Aside0.mk hb1
    clear hb1 HF
    cases b1 with
    | false =>
      go_wp2_with fail
      all_goals go_ret
      all_goals exact ⟨rfl, HB1.out⟩
    | true =>
      by_cases h32 : 2147483647 < tail.length
      · go_wp2_with fail
        all_goals go_ret
        all_goals exact ⟨rfl, HB1.out⟩
      · by_cases hz : base.length = 0
        · go_wp2_with fail
          refine (works_any w1 e2 ao az co cz (HE.out.below HB1.out)).mono ?_
          rintro e w2 ⟨rfl, hb2⟩
          have HB2 := Aside0.mk (below_step HB1.out hb2)
          go_wp2
          go_ret
          exact ⟨rfl, HB2.out⟩
        · have hz1 : ((base.length : Int) == 0) = false := by rw [beq_eq_false_iff_ne]; omega
          have HBA := Aside0.mk (below_step HB1.out (below_alloc (Below.refl w1.heap.size w1) (.cells #[.slice A2 tail.length c2] 44 (0, 0))))
          have HSS := Aside0.mk (PFnDeltaInsert.laws_deltaSmall.calls 2 _ 1 [tail] _ _ (C_one (blk_new w1 _) (slice_K _ (Kd.C_below HR2.out HBA.out) hc2)) (Nat.le_refl _) (small_f tail hm2))
          go_wp2_with fail
          refine HSS.out.mono ?_
          rintro e w2 ⟨rfl, hb2⟩
          have HB2 := Aside0.mk (below_step HBA.out hb2.below)
          clear hb2 HSS HBA
          by_cases hsm : tail.length ≤ 1000000
          · rw [decide_eq_true hsm]
            go_wp2_with fail
            refine (HGG.out w2 HB2.out).mono ?_
            rintro e w3 ⟨rfl, hb3⟩
            have HB3 := Aside0.mk (below_step HB2.out hb3)
            clear hb3 HGG
            cases b2 with
            | false =>
              go_wp2_with fail
              refine (works_any w3 e2 ao az co cz (HE.out.below HB3.out)).mono ?_
              rintro e w4 ⟨rfl, hb4⟩
              have HB4 := Aside0.mk (below_step HB3.out hb4)
              go_wp2
              go_ret
              exact ⟨rfl, HB4.out⟩
            | true =>
              obtain ⟨hgl, hl1, hl5, hb6⟩ := HG2.out rfl
              clear HG2
              have hml := madeAll_len base l hgl
              have hfl := flat_len l hgl
              have hMe := made_f base l hb6 hl5 hgl 700 (by omega)
              have hs1 := seven_len base.length (by omega)
              have hs2 := seven_len ((madeAll base l).length + 1) (by omega)
              have hq1 := size7 700 base.length (by omega) (by omega)
              have hq2 := size7 700 ((madeAll base l).length + 1) (by omega) (by omega)
              have hPa : Patch base ((madeAll base l).length + 1) (flat l ++ 0 :: tail) [] none := by
                refine patch_list hb6 l _ _ _ _ hgl (by omega) ?_
                exact Patch.zero (by omega)
              have hBy : Bytes (flat l ++ 0 :: tail) := by
                intro x hx
                rcases List.mem_append.1 hx with hx | hx
                · exact flat_bytes l hgl HY.out x hx
                · rcases List.mem_cons.1 hx with rfl | hx
                  · omega
                  · exact HYT.out x hx
              have hSz := sized_of base (flat l ++ 0 :: tail) ((madeAll base l).length + 1) hb6 (by omega) (by omega) hBy
              have HGL := Aside0.mk hgl
              obtain ⟨M, hM⟩ : ∃ M, madeAll base l = M := ⟨_, rfl⟩
              rw [hM] at hMe hs2 hq2 hPa hSz hml
              obtain ⟨S1, hS1⟩ : ∃ S1, seven base.length = S1 := ⟨_, rfl⟩
              obtain ⟨S2, hS2⟩ : ∃ S2, seven (M.length + 1) = S2 := ⟨_, rfl⟩
              rw [hS1] at hs1 hq1 hSz
              rw [hS2] at hs2 hq2 hSz
              have hM1 : wrap64 ((M.length : Int) + 1) = ((M.length + 1 : Nat) : Int) := by rw [w64 (by omega) (by omega)]; omega
              have HQ1 := Aside0.mk hq1
              have HQ2 := Aside0.mk (show spec_Size7.f 700 ((M.length : Int) + 1) = some S2 from by rw [← hq2]; congr 1)
              have HME := Aside0.mk hMe
              have HSZ := Aside0.mk hSz
              have HPA := Aside0.mk hPa
              have HM1 := Aside0.mk hM1
              clear hq1 hq2 hMe hSz hPa hBy hM hS1 hS2 hM1 hgl
              go_wp2_with fail
              refine (spec_Size7.calls 700 base.length S1 w3 HQ1.out).mono ?_
              rintro e w4 ⟨v4, rfl, hR4, hb4⟩
              have HR4 := Aside0.mk hR4
              have HB4 := Aside0.mk (below_step HB3.out hb4)
              clear hR4 hb4
              go_wp2_with fail
              refine (spec_Made.calls 700 A0 c0 base A1 c1 l M w4 (Kd.C_below HR0.out HB4.out) hc0 (Kd.C_below HR1.out HB4.out) hc1 HME.out).mono ?_
              rintro e w5 ⟨v5, rfl, hR5, hb5⟩
              obtain ⟨A5, c5, rfl⟩ := Kd.R_slice hR5
              have HB5 := Aside0.mk (below_step HB4.out hb5)
              have HR5 := Aside0.mk (Kd.R_below HR4.out hb5)
              clear hR5 hb5 HR4
              go_wp2_with fail
              refine (spec_Size7.calls 700 ((M.length : Int) + 1) S2 w5 HQ2.out).mono ?_
              rintro e w6 ⟨v6, rfl, hR6, hb6⟩
              obtain ⟨A6, c6, rfl⟩ := Kd.R_slice hR6
              obtain ⟨_, hc6, hC6⟩ := Kd.R_reads' hR6
              have HB6 := Aside0.mk (below_step HB5.out hb6)
              have HR6 := Aside0.mk (Kd.R_lower (Kd.R_below HR5.out hb6) (HB3.out.size))
              have HC6 := Aside0.mk hC6
              clear hR6 hC6 hb6 HR5
              go_wp2_with (first | ((with_reducible refine gate_builtin (b := .append) (xs := #[.tmp 43, .tmp 49]) rfl ?_); at_builtin; go_must (refine Kd.R_append_row (Value.int .u8) 0 (w0 := w) w.heap.size rfl (.tmp 43) (.tmp 49) 44 5 (.int .u8 0) 1 rfl Tryd.underlying44 Go.Proofs.YtoofbppfbbhliaaDoor.leb.info5 rfl (by decide) v4 S1 S2 A6 S2.length c6 (fun _ => True) rfl rfl (fun _ _ => trivial) HR6.out HC6.out HB6.out (below_size HB6.out) (seven_two hs1 hs2) ?_); intro v7 w7 ho hb _ _; have HR7 := Aside0.mk ho; have HB7 := Aside0.mk hb; clear ho hb))
              go_loopg [7, 53] (l.length + 1) (fun kq v7 v53 w' => ∃ (j : Nat), v53 = .int .i64 (j : Int) ∧ j ≤ l.length ∧ Aside0 (kq + j = l.length + 1) ∧ Aside0 (Kd.R (Kd.int .u8) 5 w' w.heap.size (fun _ => True) v7 (S1 ++ S2 ++ flat (l.take j))) ∧ Aside0 (Below w.heap.size w w'))
              case atStart => exact ⟨0, rfl, Nat.zero_le _, ⟨by omega⟩, ⟨by rw [List.take_zero, show flat [] = [] from rfl, List.append_nil]; exact HR7.out⟩, HB7⟩
              case round =>
                clear HR7 HB7 HR6 HB6 HC6 HB5 HB4
                obtain ⟨j, rfl, hj, HK, HRj, HBj⟩ := hrel
                cases gk with
                | zero => exact absurd HK.out (by omega)
                | succ k1 =>
                  by_cases hlt : j < l.length
                  · have p150 : 0 ≤ (j : Int) := by omega
                    have q150 : (j : Int) < (l.length : Int) := by omega
                    have c5b0 : decide ((j : Int) < (l.length : Int)) = true := decide_eq_true q150
                    obtain ⟨ad150, A9s, c9s, e150, hx0, hx1, hx2, hx3, hx4, hl9, hi9⟩ := at_T56 HR1.out j p150 q150
                    cases e150
                    rw [rd_get hlt] at hx0 hx1 hx2 hx3 hx4 hl9 hi9
                    rw [Int.toNat_natCast] at hx0 hx1 hx2 hx3 hx4
                    replace hx0 := (HBj.out.cell (World.block_lt_of_cell? w _ hx0)).trans hx0
                    replace hx1 := (HBj.out.cell (World.block_lt_of_cell? w _ hx1)).trans hx1
                    replace hx2 := (HBj.out.cell (World.block_lt_of_cell? w _ hx2)).trans hx2
                    replace hx3 := (HBj.out.cell (World.block_lt_of_cell? w _ hx3)).trans hx3
                    replace hx4 := (HBj.out.cell (World.block_lt_of_cell? w _ hx4)).trans hx4
                    obtain ⟨x, hx⟩ : ∃ x, l[j] = x := ⟨_, rfl⟩
                    have HGx := Aside0.mk (HGL.out _ (List.getElem_mem hlt))
                    have HT := Aside0.mk (take_one hlt)
                    rw [hx] at hx0 hx1 hx2 hx3 hx4 hl9 hi9 HGx HT
                    have HSl := Aside0.mk (stepB_len HGx.out).2
                    have HFj := Aside0.mk (show (flat (l.take j)).length ≤ 64000 from by
                      have h1 := (flat_len (base := base) (l.take j) (fun y hy => HGL.out y (List.mem_of_mem_take hy))).2
                      rw [List.length_take] at h1; omega)
                    have HSB := Aside0.mk (good_bytes 700 HGx.out (by decide))
                    have HI9 := Aside0.mk hi9
                    have HL9 := Aside0.mk hl9
                    have HJ := Aside0.mk hlt
                    clear hx hi9 hl9
                    go_wp2_with (first | ((with_reducible refine gate_dst (N := 9) rfl ?_); refine box_event ?hg (N := 9) ?hd (cs := #[.bool false, .int .i64 0, .int .i64 0, .slice none 0 0, .int .i64 0]) (t := 56) ?hr ?_; (case hd => rfl); (case hg => rfl); (case hr => first | (go_simp; done) | (go_simp; rfl)); intro g1 hg1 wa hbox hb; have HR1a := Aside0.mk (Kd.R_below HRj.out hb); have HB1a := Aside0.mk (below_step HBj.out hb); have GE1 := Aside0.mk (show w.heap.size ≤ g1 by rw [hg1]; exact HBj.out.size); have BK1 := Aside0.mk hbox; clear hbox hb hg1; have hz0 : wa.cell? ⟨g1, 0, none⟩ = some (.bool false) := (blk_cell BK1.out 0).trans rfl; have hzz1 : wa.cell? ⟨g1, 1, none⟩ = some (.int .i64 0) := (blk_cell BK1.out 1).trans rfl; have hzz2 : wa.cell? ⟨g1, 2, none⟩ = some (.int .i64 0) := (blk_cell BK1.out 2).trans rfl; have hzz3 : wa.cell? ⟨g1, 3, none⟩ = some (.slice none 0 0) := (blk_cell BK1.out 3).trans rfl; have hzz4 : wa.cell? ⟨g1, 4, none⟩ = some (.int .i64 0) := (blk_cell BK1.out 4).trans rfl; have hfr0 := blk_frozen BK1.out 0; have hfr1 := blk_frozen BK1.out 1; have hfr2 := blk_frozen BK1.out 2; have hfr3 := blk_frozen BK1.out 3; have hfr4 := blk_frozen BK1.out 4))
                    refine (spec_StepBytes.calls 700 x.f0 x.f1 x.f2 A9s c9s x.f3 x.f4 (stepB x) _ (Kd.C_below HI9.out (below_set (below_set (below_set (below_set (below_set HB1a.out GE1.out) GE1.out) GE1.out) GE1.out) GE1.out)) HL9.out HSB.out).mono ?_
                    rintro e w9 ⟨v9, rfl, hR9, hb9⟩
                    obtain ⟨A9, c9, rfl⟩ := Kd.R_slice hR9
                    obtain ⟨_, hc9, hC9⟩ := Kd.R_reads' hR9
                    have HB9 := Aside0.mk (below_step (below_set (below_set (below_set (below_set (below_set HB1a.out GE1.out) GE1.out) GE1.out) GE1.out) GE1.out) hb9)
                    have HR9 := Aside0.mk (Kd.R_below (Kd.R_mono (Kd.R_far (p := ⟨g1, 4, none⟩) (Kd.R_far (p := ⟨g1, 3, none⟩) (Kd.R_far (p := ⟨g1, 2, none⟩) (Kd.R_far (p := ⟨g1, 1, none⟩) (Kd.R_far (p := ⟨g1, 0, none⟩) (Kd.R_types HR1a.out BK1.out (by decide)) (fun _ hk => hk.2) (.bool x.f0)) (fun _ hk => hk.2) (.int .i64 x.f1)) (fun _ hk => hk.2) (.int .i64 x.f2)) (fun _ hk => hk.2) (.slice A9s x.f3.length c9s)) (fun _ hk => hk.2) (.int .i64 x.f4)) (fun _ hk => trivial)) hb9)
                    have HC9 := Aside0.mk hC9
                    clear hR9 hC9 hb9
                    go_wp2_with (first | ((with_reducible refine gate_builtin (b := .append) (xs := #[.tmp 57, .tmp 59]) rfl ?_); at_builtin; go_must (refine Kd.R_append_row (Value.int .u8) 0 (w0 := w) w.heap.size rfl (.tmp 57) (.tmp 59) 44 5 (.int .u8 0) 1 rfl Tryd.underlying44 Go.Proofs.YtoofbppfbbhliaaDoor.leb.info5 rfl (by decide) u7 (S1 ++ S2 ++ flat (l.take j)) (stepB x) A9 (stepB x).length c9 (fun _ => True) rfl rfl (fun _ _ => trivial) HR9.out HC9.out HB9.out (below_size HB9.out) (seven_flat hs1 hs2 HFj.out HSl.out) ?_); intro v10 w10 ho hb _ _; have HR10 := Aside0.mk ho; have HB10 := Aside0.mk hb; clear ho hb))
                    go_roundg k1
                    case measure => have := HK.out; omega
                    case rel => exact ⟨j + 1, by go_num, HJ.out, ⟨by have := HK.out; omega⟩, ⟨by rw [HT.out, flat_snoc, ← List.append_assoc]; exact HR10.out⟩, HB10⟩
                  · have c5b0 : decide ((j : Int) < (l.length : Int)) = false := decide_eq_false (by omega)
                    have HT := Aside0.mk (show l.take j = l from List.take_of_length_le (by omega))
                    rw [HT.out] at HRj
                    clear HT
                    have HFl := Aside0.mk hfl.2
                    have HTl := Aside0.mk hsm
                    have hl64 : l.length * 128 ≤ 64000 := by omega
                    have HL64 := Aside0.mk hl64
                    clear hl64
                    have hE12 : S1 ++ S2 ++ flat l ++ [0] ++ tail = S1 ++ S2 ++ (flat l ++ 0 :: tail) := by simp
                    have HSz0 := Aside0.mk (show Sized base (S1 ++ S2 ++ flat l ++ [0] ++ tail) (flat l ++ 0 :: tail) (M.length + 1) by rw [hE12]; exact HSZ.out)
                    have HDl0 := Aside0.mk (seven_most hs1 hs2 (Nat.le_trans HFl.out HL64.out) HTl.out)
                    obtain ⟨D, HD⟩ : ∃ D, Aside0 (S1 ++ S2 ++ flat l ++ [0] ++ tail = D) := ⟨_, ⟨rfl⟩⟩
                    have HSz := Aside0.mk (show Sized base D (flat l ++ 0 :: tail) (M.length + 1) by rw [← HD.out]; exact HSz0.out)
                    have HDl := Aside0.mk (show D.length ≤ 140737488355328 by rw [← HD.out]; exact HDl0.out)
                    clear hE12 HSz0 HDl0 HSZ
                    go_wp2_with (first | ((with_reducible refine gate_builtin (b := .append) (xs := #[.tmp 64, .tmp 65]) rfl ?_); at_builtin; go_must (refine Kd.R_append (Kd.int .u8) (w0 := w) w.heap.size rfl (.tmp 64) (.tmp 65) 44 5 (.int .u8 0) 1 rfl Tryd.underlying44 Go.Proofs.YtoofbppfbbhliaaDoor.leb.info5 rfl (by decide) (by omega) u7 (S1 ++ S2 ++ flat l) 0 [.int .u8 0] (fun _ => True) (fun _ => False) rfl (by first | (go_simp; done) | (go_simp; rfl)) rfl (fun _ hk => hk.elim) (fun _ _ => trivial) HRj.out HBj.out (below_size HBj.out) (seven_flat hs1 hs2 (Nat.le_trans HFl.out HL64.out) (by omega)) ?_); intro v11 w11 ho hb _ _; have HR11 := Aside0.mk ho; have HB11 := Aside0.mk hb; clear ho hb) | ((with_reducible refine gate_builtin (b := .append) (xs := #[.tmp 66, .tmp 67]) rfl ?_); at_builtin; go_must (refine Kd.R_append_row (Value.int .u8) 0 (w0 := w) w.heap.size rfl (.tmp 66) (.tmp 67) 44 5 (.int .u8 0) 1 rfl Tryd.underlying44 Go.Proofs.YtoofbppfbbhliaaDoor.leb.info5 rfl (by decide) v11 (S1 ++ S2 ++ flat l ++ [0]) tail A2 tail.length c2 (fun _ => True) rfl rfl (fun _ _ => trivial) HR11.out (Kd.C_below HR2.out HB11.out) HB11.out (below_size HB11.out) (seven_all hs1 hs2 (Nat.le_trans HFl.out HL64.out) HTl.out) ?_); intro v12 w12 ho hb _ _; rw [HD.out] at ho; have HR12 := Aside0.mk ho; have HB12 := Aside0.mk hb; clear ho hb; obtain ⟨A12, c12, e12⟩ := Kd.R_slice HR12.out; subst e12))
                    obtain ⟨_, hc12, hC12⟩ := Kd.R_reads' HR12.out
                    have HI := Aside0.mk (impl_any A0 A12 c0 c12 base D (flat l ++ 0 :: tail) (M.length + 1) none w12 (Kd.C_below HR0.out HB12.out) hc0 hC12 hc12 (cut_base hb6) HDl.out e2 ao az co cz (HE.out.below HB12.out) HSz.out (Nat.pos_of_ne_zero hz) HPA.out)
                    clear hC12 HSz HR12 HPA
                    refine HI.out.mono ?_
                    clear HI
                    rintro e w13 ⟨⟨v, rfl⟩, hb13⟩
                    have HB13 := Aside0.mk (below_step HB12.out hb13)
                    clear hb13
                    go_wp2_with fail
                    refine (works_any w13 e2 ao az co cz (HE.out.below HB13.out)).mono ?_
                    rintro e w14 ⟨rfl, hb14⟩
                    have HB14 := Aside0.mk (below_step HB13.out hb14)
                    go_wp2
                    go_ret
                    exact ⟨rfl, HB14.out⟩
          · rw [decide_eq_false hsm]
            go_wp2_with fail
            refine (works_any w2 e2 ao az co cz (HE.out.below HB2.out)).mono ?_
            rintro e w3 ⟨rfl, hb3⟩
            have HB3 := Aside0.mk (below_step HB2.out hb3)
            go_wp2
            go_ret
            exact ⟨rfl, HB3.out⟩
end Go.Proofs.YtoofbppfbbhliaaDoor.steps
