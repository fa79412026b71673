/- config: the sections of a configuration, told again. -/
import Derived.Test.YtoofbppfbbhliaaDoorPutJ
namespace Go.Proofs.YtoofbppfbbhliaaDoor.confP
open Go.RowKit Go.Proofs.YtoofbppfbbhliaaDoorW.PrintWords Go.Proofs.YtoofbppfbbhliaaDoorW.PrintLast Go.Proofs.YtoofbppfbbhliaaDoorW.PrintMore Go.Proofs.YtoofbppfbbhliaaDoor.PFnConfAdd Go.Proofs.YtoofbppfbbhliaaDoor.ptr
set_option linter.unusedVariables false
set_option linter.unusedSimpArgs false
set_option maxHeartbeats 2000000
set_option maxRecDepth 100000
theorem sectionsOf_any (gc : Nat) (A0 : Option Addr) (c0 : Nat) (l : List S71) (w : World) (hgc : w.heap[gc]? = some (.cells #[.pointer none, .slice A0 l.length c0, .slice none 0 0] 163 (0, 0))) (hr0 : Kd.C kP w A0 l.length l) (hc0 : l.length ≤ c0) (hl : Fits l) :
    Calls Tryd.prog 68 #[.pointer (some ⟨gc, 0, none⟩)] w fun e w' => ∃ v, e = .returned v ∧ Kd.R k71 71 w' w.heap.size (fun _ => True) v l ∧ Below w.heap.size w w' := by
  have hcv : w.cell? ⟨gc, 1, none⟩ = some (.slice A0 l.length c0) := (blk_cell hgc 1).trans rfl
  have HR0 := Aside0.mk hr0
  have HL := Aside0.mk hl
  have hb31 := hl.1
  have HB0 := Aside0.mk (Below.refl w.heap.size w)
  clear hr0 hl hgc
  go_enter Tryd.func68, Tryd.ntmps68
  go_wp2_with fail
  clear hcv
  go_loopg [3, 14] (l.length + 1) (fun kq v3 v14 w' => ∃ (j : Nat), v14 = .int .i64 (j : Int) ∧ j ≤ l.length ∧ Aside0 (kq + j = l.length + 1) ∧ Aside0 (Kd.R k71 71 w' w.heap.size (fun _ => True) v3 (l.take j)) ∧ Aside0 (Below w.heap.size w w'))
  case atStart => exact ⟨0, rfl, Nat.zero_le _, ⟨by omega⟩, ⟨Kd.R_nil _ _ _ _ _⟩, HB0⟩
  case round =>
    clear HB0
    obtain ⟨j, rfl, hj, HK, HO, HB⟩ := hrel
    cases gk with
    | zero => exact absurd HK.out (by omega)
    | succ k1 =>
      obtain ⟨wo, hwo⟩ : ∃ wo : World, wo = wr := ⟨_, rfl⟩
      subst hwo
      by_cases hlt : j < l.length
      · have p150 : 0 ≤ (j : Int) := by omega
        have q150 : (j : Int) < (l.length : Int) := by omega
        have c5b0 : decide ((j : Int) < (l.length : Int)) = true := decide_eq_true q150
        obtain ⟨ad, gs, arr, e0, hc, hg, hK⟩ := at_ptr HR0.out j hlt
        subst e0
        have HF := Aside0.mk (HL.out.2 _ (List.getElem_mem hlt))
        have hb32 := HF.out.2.1
        have HT := Aside0.mk (take_snoc hlt)
        have HTl := Aside0.mk (show (l.take j).length ≤ 4294967295 by rw [List.length_take]; omega)
        obtain ⟨s, hs⟩ : ∃ s, l[j] = s := ⟨_, rfl⟩
        rw [hs] at hK HF HT hb32
        obtain ⟨A1, c1, A2, c2, ea, hl1, hC1, hl2, hC2⟩ := kSec_open hK
        obtain ⟨arr⟩ := arr
        simp only at ea
        subst ea
        replace hc := (HB.out.cell (World.block_lt_of_cell? w _ hc)).trans hc
        have HGS := Aside0.mk ((HB.out.block gs (blk_lt hg)).trans hg)
        have HC1 := Aside0.mk (Kd.C_below hC1 HB.out)
        have HC2 := Aside0.mk (Kd.C_below hC2 HB.out)
        have HL1 := Aside0.mk hl1
        have hs0 : wo.cell? ⟨gs, 0, none⟩ = some (.string s.f0) := (blk_cell HGS.out 0).trans rfl
        have hs1 : wo.cell? ⟨gs, 1, none⟩ = some (.slice A1 s.f1.length c1) := (blk_cell HGS.out 1).trans rfl
        have HI := Aside0.mk hlt
        obtain ⟨zs, hzs⟩ : ∃ zs, l.take (j + 1) = zs := ⟨_, rfl⟩
        rw [hzs] at HT
        have HZ := Aside0.mk hzs
        clear hg hK hs hC1 hC2 hl1 hzs
        go_wp2_with fail
        refine start_ (n := 12) (S := fun w' => w'.cell? ⟨gs, 0, none⟩ = some (.string s.f0) ∧ w'.cell? ⟨gs, 1, none⟩ = some (.slice A1 s.f1.length c1)) (ds := [11]) #[false, false, false, false, false, false, false, false, false, false, false, false] (by kernel_rfl) rfl rfl ⟨hs0, hs1⟩ (fun hHeld => ?_)
        refine pure_ (i := 0) (N := some 18) (v := ?_) (a' := ?_) #[true, false, false, false, false, false, false, false, false, false, false, false] rfl rfl (by kernel_rfl) (fun _ _ _ h => h) (Or.inl ⟨by rfl, ?_⟩) ?_ ?_
        rotate_left
        · intro w'
          go_simp
          with_reducible rfl
        rotate_left
        · simp only [Act.put, List.setIfInBounds_toArray, List.set_cons_zero, List.set_cons_succ, i64_w, i32_w]
          rfl
        refine pure_ (i := 1) (N := some 19) (v := ?_) (a' := ?_) #[true, true, false, false, false, false, false, false, false, false, false, false] rfl rfl (by kernel_rfl) (fun _ _ _ h => h) (Or.inl ⟨by rfl, ?_⟩) ?_ ?_
        rotate_left
        · intro w'
          go_simp
          with_reducible rfl
        rotate_left
        · simp only [Act.put, List.setIfInBounds_toArray, List.set_cons_zero, List.set_cons_succ, i64_w, i32_w]
          rfl
        refine pure_ (i := 2) (N := some 20) (v := ?_) (a' := ?_) #[true, true, true, false, false, false, false, false, false, false, false, false] rfl rfl (by kernel_rfl) (fun _ _ _ h => h) (Or.inl ⟨by rfl, ?_⟩) ?_ ?_
        rotate_left
        · intro w'
          go_simp
          with_reducible rfl
        rotate_left
        · simp only [Act.put, List.setIfInBounds_toArray, List.set_cons_zero, List.set_cons_succ, i64_w, i32_w]
          rfl
        refine pure_ (i := 4) (N := some 22) (v := ?_) (a' := ?_) #[true, true, true, false, true, false, false, false, false, false, false, false] rfl rfl (by kernel_rfl) (fun _ _ _ h => h) (Or.inl ⟨by rfl, ?_⟩) ?_ ?_
        rotate_left
        · intro w'
          go_simp
          with_reducible rfl
        rotate_left
        · simp only [Act.put, List.setIfInBounds_toArray, List.set_cons_zero, List.set_cons_succ, i64_w, i32_w]
          rfl
        refine pure_ (i := 5) (N := some 23) (v := ?_) (a' := ?_) #[true, true, true, false, true, true, false, false, false, false, false, false] rfl rfl (by kernel_rfl) (fun _ _ _ h => h) (Or.inl ⟨by rfl, ?_⟩) ?_ ?_
        rotate_left
        · intro w'
          go_simp
          with_reducible rfl
        rotate_left
        · simp only [Act.put, List.setIfInBounds_toArray, List.set_cons_zero, List.set_cons_succ, i64_w, i32_w]
          rfl
        refine pure_ (i := 6) (N := some 24) (v := ?_) (a' := ?_) #[true, true, true, false, true, true, true, false, false, false, false, false] rfl rfl (by kernel_rfl) (fun _ _ _ h => h) (Or.inl ⟨by rfl, ?_⟩) ?_ ?_
        rotate_left
        · intro w'
          go_simp
          with_reducible rfl
        rotate_left
        · simp only [Act.put, List.setIfInBounds_toArray, List.set_cons_zero, List.set_cons_succ, i64_w, i32_w]
          rfl
        refine take_ (i := 3) (N := some 21) (v := ?_) (a' := ?_) #[true, true, true, true, true, true, true, false, false, false, false, false] rfl rfl (by kernel_rfl) (fun _ _ _ h => h) (Or.inl ⟨by rfl, ?_⟩) hHeld ?_ ?_
        rotate_left
        · rintro w' ⟨s0, s1⟩
          go_simp
          with_reducible rfl
        rotate_left
        · simp only [Act.put, List.setIfInBounds_toArray, List.set_cons_zero, List.set_cons_succ, i64_w, i32_w]
          rfl
        refine take_ (i := 7) (N := some 25) (v := ?_) (a' := ?_) #[true, true, true, true, true, true, true, true, false, false, false, false] rfl rfl (by kernel_rfl) (fun _ _ _ h => h) (Or.inl ⟨by rfl, ?_⟩) hHeld ?_ ?_
        rotate_left
        · rintro w' ⟨s0, s1⟩
          go_simp
          with_reducible rfl
        rotate_left
        · simp only [Act.put, List.setIfInBounds_toArray, List.set_cons_zero, List.set_cons_succ, i64_w, i32_w]
          rfl
        refine join_ (σ := Nat × (Option Addr × Nat)) 1 #[true, true, true, true, true, true, true, true, true, true, true, false] (fun s_ => [(26, .slice s_.2.1 s.f1.length s_.2.2), (27, .agg #[.string s.f0, .slice s_.2.1 s.f1.length s_.2.2, .slice none 0 0]), (6, .pointer (some ⟨s_.1, 0, none⟩))]) (fun s_ w' => w'.heap[s_.1]? = some (.cells #[.string (⟨#[]⟩ : ByteArray), .slice none 0 0, .slice none 0 0] 71 (0, 0)) ∧ wo.heap.size ≤ s_.1 ∧ Kd.R k112 112 w' wo.heap.size (fun _ => True) (.slice s_.2.1 s.f1.length s_.2.2) s.f1 ∧ Below wo.heap.size wo w') ?_ ?_
        rotate_left
        · intro hCont
          refine two_ (i := 8) (j := 10) (Ni := some 26) (Nj := some 6) #[true, true, true, true, true, true, true, true, true, false, false, false] #[true, true, true, true, true, true, true, true, false, false, true, false] rfl rfl rfl rfl (by kernel_rfl) (by decide) (by decide) (fun K hK => ?_) (fun K hK => ?_)
          · skip
            refine goes_ Tryd.func97 (by kernel_rfl) rfl #[.slice A1 s.f1.length c1] (by rfl) rfl rfl (by simp only [List.map_toArray, List.map_cons, List.map_nil]; rfl) ?_
            with_reducible refine (plainOptions_any A1 c1 s.f1 _ (Kd.C_below HC1.out (below_drew (Below.refl _ _))) HL1.out HF.out.1).mono ?_
            rintro e w5 ⟨v5, rfl, hR5, hb5⟩
            refine ⟨_, rfl, ?_⟩
            obtain ⟨A5, c5, e5⟩ := Kd.R_slice hR5
            subst e5
            have HG5 := Aside0.mk ((hb5.block gs (blk_lt HGS.out)).trans HGS.out)
            have HR5 := Aside0.mk hR5
            have HB5 := Aside0.mk (below_step (below_drew (Below.refl wo.heap.size wo)) hb5)
            clear hR5 hb5
            refine hK.out _ _ ⟨(blk_cell HG5.out 0).trans rfl, (blk_cell HG5.out 1).trans rfl⟩ (fun hHeld => ?_)
            clear hK K
            refine norm_ (a' := ?_) ?_ ?_
            rotate_left
            · show Act.put _ (some 26) _ = _
              simp only [Act.put, List.setIfInBounds_toArray, List.set_cons_zero, List.set_cons_succ, i64_w, i32_w]
              rfl
            refine pure_ (i := 9) (N := some 27) (v := ?_) (a' := ?_) #[true, true, true, true, true, true, true, true, true, true, false, false] rfl rfl (by kernel_rfl) (fun _ _ _ h => h) (Or.inl ⟨by rfl, ?_⟩) ?_ ?_
            rotate_left
            · intro w'
              go_simp
              with_reducible rfl
            rotate_left
            · simp only [Act.put, List.setIfInBounds_toArray, List.set_cons_zero, List.set_cons_succ, i64_w, i32_w]
              rfl
            refine one_ (i := 10) (N := some 6) #[true, true, true, true, true, true, true, true, true, true, true, false] rfl rfl (by kernel_rfl) (by decide) (fun K hK => ?_)
            refine value_ (w1 := ?_) (v := ?_) (by rfl) rfl ?_ ?_
            rotate_left 2
            · go_simp
              constructor
              · rfl
              · rfl
            refine hK.out _ _ ⟨(blk_cell (blk_alloc HG5.out _) 0).trans rfl, (blk_cell (blk_alloc HG5.out _) 1).trans rfl⟩ (fun hHeld => ?_)
            clear hK K
            refine norm_ (a' := ?_) ?_ ?_
            rotate_left
            · show Act.put _ (some 6) _ = _
              simp only [Act.put, List.setIfInBounds_toArray, List.set_cons_zero, List.set_cons_succ, i64_w, i32_w]
              rfl
            exact norm_ (by simp only [putAll, Act.put, List.setIfInBounds_toArray, List.set_cons_zero, List.set_cons_succ]) (hCont ⟨w5.heap.size, A5, c5⟩ _ ⟨blk_new w5 _, HB5.out.size, Kd.R_alloc (Kd.R_lower HR5.out (Nat.le_refl _)) _, below_alloc HB5.out _⟩)
          · skip
            refine value_ (w1 := ?_) (v := ?_) (by rfl) rfl ?_ ?_
            rotate_left 2
            · go_simp
              constructor
              · rfl
              · rfl
            refine hK.out _ _ ⟨(blk_cell (blk_alloc (show wo.drew.heap[gs]? = _ from HGS.out) _) 0).trans rfl, (blk_cell (blk_alloc (show wo.drew.heap[gs]? = _ from HGS.out) _) 1).trans rfl⟩ (fun hHeld => ?_)
            clear hK K
            refine norm_ (a' := ?_) ?_ ?_
            rotate_left
            · show Act.put _ (some 6) _ = _
              simp only [Act.put, List.setIfInBounds_toArray, List.set_cons_zero, List.set_cons_succ, i64_w, i32_w]
              rfl
            refine one_ (i := 8) (N := some 26) #[true, true, true, true, true, true, true, true, true, false, true, false] rfl rfl (by kernel_rfl) (by decide) (fun K hK => ?_)
            refine goes_ Tryd.func97 (by kernel_rfl) rfl #[.slice A1 s.f1.length c1] (by rfl) rfl rfl (by simp only [List.map_toArray, List.map_cons, List.map_nil]; rfl) ?_
            with_reducible refine (plainOptions_any A1 c1 s.f1 _ (Kd.C_below HC1.out (below_drew (below_alloc (Below.refl _ _) _))) HL1.out HF.out.1).mono ?_
            rintro e w5 ⟨v5, rfl, hR5, hb5⟩
            refine ⟨_, rfl, ?_⟩
            obtain ⟨A5, c5, e5⟩ := Kd.R_slice hR5
            subst e5
            have HG5 := Aside0.mk ((hb5.block gs (blk_lt (blk_alloc HGS.out (.cells #[.string (⟨#[]⟩ : ByteArray), .slice none 0 0, .slice none 0 0] 71 (0, 0))))).trans (blk_alloc HGS.out (.cells #[.string (⟨#[]⟩ : ByteArray), .slice none 0 0, .slice none 0 0] 71 (0, 0))))
            have HX5 := Aside0.mk ((hb5.block wo.heap.size (by simp)).trans (blk_new wo (.cells #[.string (⟨#[]⟩ : ByteArray), .slice none 0 0, .slice none 0 0] 71 (0, 0))))
            have HR5 := Aside0.mk (Kd.R_lower hR5 (by simp : wo.heap.size ≤ _))
            have HB5 := Aside0.mk (below_step (below_drew (below_alloc (Below.refl wo.heap.size wo) (.cells #[.string (⟨#[]⟩ : ByteArray), .slice none 0 0, .slice none 0 0] 71 (0, 0)))) hb5)
            clear hR5 hb5
            refine hK.out _ _ ⟨(blk_cell HG5.out 0).trans rfl, (blk_cell HG5.out 1).trans rfl⟩ (fun hHeld => ?_)
            clear hK K
            refine norm_ (a' := ?_) ?_ ?_
            rotate_left
            · show Act.put _ (some 26) _ = _
              simp only [Act.put, List.setIfInBounds_toArray, List.set_cons_zero, List.set_cons_succ, i64_w, i32_w]
              rfl
            refine pure_ (i := 9) (N := some 27) (v := ?_) (a' := ?_) #[true, true, true, true, true, true, true, true, true, true, true, false] rfl rfl (by kernel_rfl) (fun _ _ _ h => h) (Or.inl ⟨by rfl, ?_⟩) ?_ ?_
            rotate_left
            · intro w'
              go_simp
              with_reducible rfl
            rotate_left
            · simp only [Act.put, List.setIfInBounds_toArray, List.set_cons_zero, List.set_cons_succ, i64_w, i32_w]
              rfl
            exact norm_ (by simp only [putAll, Act.put, List.setIfInBounds_toArray, List.set_cons_zero, List.set_cons_succ]) (hCont ⟨wo.heap.size, A5, c5⟩ _ ⟨HX5.out, Nat.le_refl _, HR5.out, HB5.out⟩)
        rintro ⟨gx, Ao, co⟩ w5 ⟨hX, hgx, hRo, hbo⟩
        have HX := Aside0.mk hX
        have GX := Aside0.mk hgx
        have HRo := Aside0.mk hRo
        have HBo := Aside0.mk hbo
        have HG5 := Aside0.mk ((hbo.block gs (blk_lt HGS.out)).trans HGS.out)
        clear hX hgx hRo hbo
        have hHeld : w5.cell? ⟨gs, 0, none⟩ = some (.string s.f0) ∧ w5.cell? ⟨gs, 1, none⟩ = some (.slice A1 s.f1.length c1) := ⟨(blk_cell HG5.out 0).trans rfl, (blk_cell HG5.out 1).trans rfl⟩
        have z0 : w5.cell? ⟨gx, 0, none⟩ = some (.string (⟨#[]⟩ : ByteArray)) := (blk_cell HX.out 0).trans rfl
        have z1 : w5.cell? ⟨gx, 1, none⟩ = some (.slice none 0 0) := (blk_cell HX.out 1).trans rfl
        have z2 : w5.cell? ⟨gx, 2, none⟩ = some (.slice none 0 0) := (blk_cell HX.out 2).trans rfl
        have y0 := blk_frozen HX.out 0
        have y1 := blk_frozen HX.out 1
        have y2 := blk_frozen HX.out 2
        refine norm_ (a' := ?_) ?_ ?_
        rotate_left
        · simp only [putAll, Act.put, List.setIfInBounds_toArray, List.set_cons_zero, List.set_cons_succ]
          rfl
        refine last_ (i := 11) (N := none) #[true, true, true, true, true, true, true, true, true, true, true, true] rfl rfl (by kernel_rfl) (by decide) (fun K hK => ?_)
        refine skip_ (w1 := ?_) (by rfl) rfl ?_ ?_
        rotate_left
        · go_simp
          rfl
        refine hK.out _ _ ?_
        clear hK K
        refine done_ (by kernel_rfl) ?_
        generalize hW : World.setCell _ _ _ = W1
        have BX := Aside0.mk (show W1.heap[gx]? = some (.cells #[.string s.f0, .slice Ao s.f1.length co, .slice none 0 0] 71 (0, 0)) by rw [← hW]; exact blk_put (cs := #[.string s.f0, .slice Ao s.f1.length co, .slice none 0 0]) (blk_put (cs := #[.string s.f0, .slice none 0 0, .slice none 0 0]) (blk_put (cs := #[.string (⟨#[]⟩ : ByteArray), .slice none 0 0, .slice none 0 0]) HX.out 0 _ rfl) 1 _ rfl) 2 _ rfl)
        have HB1 := Aside0.mk (show Below wo.heap.size wo W1 by rw [← hW]; exact below_set (below_set (below_set HBo.out GX.out) GX.out) GX.out)
        have HR1 := Aside0.mk (show Kd.R k112 112 W1 wo.heap.size (fun _ => True) (.slice Ao s.f1.length co) s.f1 by
          rw [← hW]
          exact Kd.R_mono (Kd.R_far (p := ⟨gx, 2, none⟩) (Kd.R_far (p := ⟨gx, 1, none⟩) (Kd.R_far (p := ⟨gx, 0, none⟩) (Kd.R_types HRo.out HX.out (by decide)) (fun _ hk => hk.2) _) (fun _ hk => hk.2) _) (fun _ hk => hk.2) _) (fun _ _ => trivial))
        have h2 : W1.cell? ⟨gs, 2, none⟩ = some (.slice A2 s.f2.length c2) := (blk_cell ((HB1.out.block gs (blk_lt HGS.out)).trans HGS.out) 2).trans rfl
        clear hW z0 z1 z2 y0 y1 y2 hHeld HX HRo HBo HG5 hs0 hs1 hc
        go_wp2_with fail
        clear h2
        go_loopg [33] (s.f2.length + 1) (fun kq v33 w' => ∃ (i : Nat) (vu : Value), v33 = .int .i64 (i : Int) ∧ i ≤ s.f2.length ∧ Aside0 (kq + i = s.f2.length + 1) ∧ Aside0 (w'.heap[gx]? = some (.cells #[.string s.f0, .slice Ao s.f1.length co, vu] 71 (0, 0))) ∧ Aside0 (Kd.R k112 112 w' wo.heap.size (fun _ => True) (.slice Ao s.f1.length co) s.f1) ∧ Aside0 (Kd.R k115 115 w' wo.heap.size (fun _ => True) vu (s.f2.take i)) ∧ Aside0 (Below wo.heap.size wo w'))
        case atStart => exact ⟨0, .slice none 0 0, rfl, Nat.zero_le _, ⟨by omega⟩, BX, HR1, ⟨Kd.R_nil _ _ _ _ _⟩, HB1⟩
        case round =>
          clear BX HR1 HB1
          obtain ⟨i, vu, rfl, hi, HKi, HX, HRO, HRU, HBi⟩ := hrel
          cases gk with
          | zero => exact absurd HKi.out (by omega)
          | succ k2 =>
            by_cases hlu : i < s.f2.length
            · have p250 : 0 ≤ (i : Int) := by omega
              have q250 : (i : Int) < (s.f2.length : Int) := by omega
              have c6b0 : decide ((i : Int) < (s.f2.length : Int)) = true := decide_eq_true q250
              obtain ⟨ad2, gu, arr2, e2, hcu, hgu, hKu⟩ := at_ptr HC2.out i hlu
              subst e2
              have HFx := Aside0.mk (HF.out.2.2 _ (List.getElem_mem hlu))
              have HTu := Aside0.mk (take_snoc hlu)
              have HYl := Aside0.mk (show (s.f2.take i).length ≤ 4294967295 by rw [List.length_take]; omega)
              obtain ⟨x, hx⟩ : ∃ x, s.f2[i] = x := ⟨_, rfl⟩
              rw [hx] at hKu HFx HTu
              obtain ⟨A4, c4, eu, hl4, hC4⟩ := kSub_open hKu
              obtain ⟨arr2⟩ := arr2
              simp only at eu
              subst eu
              replace hcu := (HBi.out.cell (World.block_lt_of_cell? wo _ hcu)).trans hcu
              have HGU := Aside0.mk ((HBi.out.block gu (blk_lt hgu)).trans hgu)
              obtain ⟨ys, hys⟩ : ∃ ys, s.f2.take i = ys := ⟨_, rfl⟩
              obtain ⟨zu, hzu⟩ : ∃ zu, s.f2.take (i + 1) = zu := ⟨_, rfl⟩
              rw [hys] at HRU HTu HYl
              rw [hzu] at HTu
              have HZu := Aside0.mk hzu
              have HC4 := Aside0.mk hC4
              have HL4 := Aside0.mk hl4
              have HIu := Aside0.mk hlu
              obtain ⟨Au, cu, eu⟩ := Kd.R_slice HRU.out
              subst eu
              have HBr := Aside0.mk (below_drew HBi.out)
              have h9x : wr.cell? ⟨gx, 2, none⟩ = some (.slice Au ys.length cu) := (blk_cell HX.out 2).trans rfl
              have h9a : wr.cell? ⟨gu, 0, none⟩ = some (.string x.f0) := (blk_cell HGU.out 0).trans rfl
              have h9b : wr.cell? ⟨gu, 1, none⟩ = some (.slice A4 x.f1.length c4) := (blk_cell HGU.out 1).trans rfl
              clear hx hys hzu hC4 hl4 hgu hKu
              go_wp2_with fail
              refine start_ (n := 16) (S := fun w' => w'.cell? ⟨gx, 2, none⟩ = some (.slice Au ys.length cu) ∧ w'.cell? ⟨gu, 0, none⟩ = some (.string x.f0) ∧ w'.cell? ⟨gu, 1, none⟩ = some (.slice A4 x.f1.length c4)) (ds := [15]) #[false, false, false, false, false, false, false, false, false, false, false, false, false, false, false, false] (by kernel_rfl) rfl rfl ⟨h9x, h9a, h9b⟩ (fun hHeld => ?_)
              refine pure_ (i := 0) (N := some 37) (v := ?_) (a' := ?_) #[true, false, false, false, false, false, false, false, false, false, false, false, false, false, false, false] rfl rfl (by kernel_rfl) (fun _ _ _ h => h) (Or.inl ⟨by rfl, ?_⟩) ?_ ?_
              rotate_left
              · intro w'
                go_simp
                with_reducible rfl
              rotate_left
              · simp only [Act.put, List.setIfInBounds_toArray, List.set_cons_zero, List.set_cons_succ, i64_w, i32_w]
                rfl
              refine pure_ (i := 2) (N := some 39) (v := ?_) (a' := ?_) #[true, false, true, false, false, false, false, false, false, false, false, false, false, false, false, false] rfl rfl (by kernel_rfl) (fun _ _ _ h => h) (Or.inl ⟨by rfl, ?_⟩) ?_ ?_
              rotate_left
              · intro w'
                go_simp
                with_reducible rfl
              rotate_left
              · simp only [Act.put, List.setIfInBounds_toArray, List.set_cons_zero, List.set_cons_succ, i64_w, i32_w]
                rfl
              refine pure_ (i := 3) (N := some 40) (v := ?_) (a' := ?_) #[true, false, true, true, false, false, false, false, false, false, false, false, false, false, false, false] rfl rfl (by kernel_rfl) (fun _ _ _ h => h) (Or.inl ⟨by rfl, ?_⟩) ?_ ?_
              rotate_left
              · intro w'
                go_simp
                with_reducible rfl
              rotate_left
              · simp only [Act.put, List.setIfInBounds_toArray, List.set_cons_zero, List.set_cons_succ, i64_w, i32_w]
                rfl
              refine pure_ (i := 4) (N := some 41) (v := ?_) (a' := ?_) #[true, false, true, true, true, false, false, false, false, false, false, false, false, false, false, false] rfl rfl (by kernel_rfl) (fun _ _ _ h => h) (Or.inl ⟨by rfl, ?_⟩) ?_ ?_
              rotate_left
              · intro w'
                go_simp
                with_reducible rfl
              rotate_left
              · simp only [Act.put, List.setIfInBounds_toArray, List.set_cons_zero, List.set_cons_succ, i64_w, i32_w]
                rfl
              refine pure_ (i := 6) (N := some 43) (v := ?_) (a' := ?_) #[true, false, true, true, true, false, true, false, false, false, false, false, false, false, false, false] rfl rfl (by kernel_rfl) (fun _ _ _ h => h) (Or.inl ⟨by rfl, ?_⟩) ?_ ?_
              rotate_left
              · intro w'
                go_simp
                with_reducible rfl
              rotate_left
              · simp only [Act.put, List.setIfInBounds_toArray, List.set_cons_zero, List.set_cons_succ, i64_w, i32_w]
                rfl
              refine pure_ (i := 7) (N := some 44) (v := ?_) (a' := ?_) #[true, false, true, true, true, false, true, true, false, false, false, false, false, false, false, false] rfl rfl (by kernel_rfl) (fun _ _ _ h => h) (Or.inl ⟨by rfl, ?_⟩) ?_ ?_
              rotate_left
              · intro w'
                go_simp
                with_reducible rfl
              rotate_left
              · simp only [Act.put, List.setIfInBounds_toArray, List.set_cons_zero, List.set_cons_succ, i64_w, i32_w]
                rfl
              refine pure_ (i := 8) (N := some 45) (v := ?_) (a' := ?_) #[true, false, true, true, true, false, true, true, true, false, false, false, false, false, false, false] rfl rfl (by kernel_rfl) (fun _ _ _ h => h) (Or.inl ⟨by rfl, ?_⟩) ?_ ?_
              rotate_left
              · intro w'
                go_simp
                with_reducible rfl
              rotate_left
              · simp only [Act.put, List.setIfInBounds_toArray, List.set_cons_zero, List.set_cons_succ, i64_w, i32_w]
                rfl
              refine take_ (i := 1) (N := some 38) (v := ?_) (a' := ?_) #[true, true, true, true, true, false, true, true, true, false, false, false, false, false, false, false] rfl rfl (by kernel_rfl) (fun _ _ _ h => h) (Or.inl ⟨by rfl, ?_⟩) hHeld ?_ ?_
              rotate_left
              · rintro w' ⟨s0, s1, s2⟩
                go_simp
                with_reducible rfl
              rotate_left
              · simp only [Act.put, List.setIfInBounds_toArray, List.set_cons_zero, List.set_cons_succ, i64_w, i32_w]
                rfl
              refine take_ (i := 5) (N := some 42) (v := ?_) (a' := ?_) #[true, true, true, true, true, true, true, true, true, false, false, false, false, false, false, false] rfl rfl (by kernel_rfl) (fun _ _ _ h => h) (Or.inl ⟨by rfl, ?_⟩) hHeld ?_ ?_
              rotate_left
              · rintro w' ⟨s0, s1, s2⟩
                go_simp
                with_reducible rfl
              rotate_left
              · simp only [Act.put, List.setIfInBounds_toArray, List.set_cons_zero, List.set_cons_succ, i64_w, i32_w]
                rfl
              refine take_ (i := 9) (N := some 46) (v := ?_) (a' := ?_) #[true, true, true, true, true, true, true, true, true, true, false, false, false, false, false, false] rfl rfl (by kernel_rfl) (fun _ _ _ h => h) (Or.inl ⟨by rfl, ?_⟩) hHeld ?_ ?_
              rotate_left
              · rintro w' ⟨s0, s1, s2⟩
                go_simp
                with_reducible rfl
              rotate_left
              · simp only [Act.put, List.setIfInBounds_toArray, List.set_cons_zero, List.set_cons_succ, i64_w, i32_w]
                rfl
              refine one_ (i := 10) (N := some 47) #[true, true, true, true, true, true, true, true, true, true, true, false, false, false, false, false] rfl rfl (by kernel_rfl) (by decide) (fun K hK => ?_)
              refine goes_ Tryd.func97 (by kernel_rfl) rfl #[.slice A4 x.f1.length c4] (by rfl) rfl rfl (by simp only [List.map_toArray, List.map_cons, List.map_nil]; rfl) ?_
              with_reducible refine (plainOptions_any A4 c4 x.f1 _ (Kd.C_below HC4.out HBr.out) HL4.out HFx.out).mono ?_
              rintro e w6 ⟨v6, rfl, hR6, hb6⟩
              refine ⟨_, rfl, ?_⟩
              obtain ⟨A5, c5, e5⟩ := Kd.R_slice hR6
              subst e5
              have BX6 := Aside0.mk ((hb6.block gx (blk_lt (show wr.drew.heap[gx]? = _ from HX.out))).trans (show wr.drew.heap[gx]? = _ from HX.out))
              have BU6 := Aside0.mk ((hb6.block gu (blk_lt (show wr.drew.heap[gu]? = _ from HGU.out))).trans (show wr.drew.heap[gu]? = _ from HGU.out))
              have HR6 := Aside0.mk hR6
              have HB6 := Aside0.mk hb6
              have HU6 := Aside0.mk (Kd.R_below (Kd.R_drew HRU.out) hb6)
              have HO6 := Aside0.mk (Kd.R_below (Kd.R_drew HRO.out) hb6)
              have HBw := Aside0.mk (below_step HBr.out hb6)
              clear hR6 hb6
              refine hK.out _ _ ⟨(blk_cell BX6.out 2).trans rfl, (blk_cell BU6.out 0).trans rfl, (blk_cell BU6.out 1).trans rfl⟩ (fun hHeld => ?_)
              clear hK K
              refine norm_ (a' := ?_) ?_ ?_
              rotate_left
              · show Act.put _ (some 47) _ = _
                simp only [Act.put, List.setIfInBounds_toArray, List.set_cons_zero, List.set_cons_succ, i64_w, i32_w]
                rfl
              refine pure_ (i := 11) (N := some 48) (v := ?_) (a' := ?_) #[true, true, true, true, true, true, true, true, true, true, true, true, false, false, false, false] rfl rfl (by kernel_rfl) (fun _ _ _ h => h) (Or.inl ⟨by rfl, ?_⟩) ?_ ?_
              rotate_left
              · intro w'
                go_simp
                with_reducible rfl
              rotate_left
              · simp only [Act.put, List.setIfInBounds_toArray, List.set_cons_zero, List.set_cons_succ, i64_w, i32_w]
                rfl
              refine one_ (i := 12) (N := some 49) #[true, true, true, true, true, true, true, true, true, true, true, true, true, false, false, false] rfl rfl (by kernel_rfl) (by decide) (fun K hK => ?_)
              refine value_ (w1 := ?_) (v := ?_) (by rfl) rfl ?_ ?_
              rotate_left 2
              · go_simp
                constructor
                · rfl
                · rfl
              refine hK.out _ _ ⟨(blk_cell (blk_alloc BX6.out _) 2).trans rfl, (blk_cell (blk_alloc BU6.out _) 0).trans rfl, (blk_cell (blk_alloc BU6.out _) 1).trans rfl⟩ (fun hHeld => ?_)
              clear hK K
              refine norm_ (a' := ?_) ?_ ?_
              rotate_left
              · show Act.put _ (some 49) _ = _
                simp only [Act.put, List.setIfInBounds_toArray, List.set_cons_zero, List.set_cons_succ, i64_w, i32_w]
                rfl
              refine one_ (i := 13) (N := some 50) #[true, true, true, true, true, true, true, true, true, true, true, true, true, true, false, false] rfl rfl (by kernel_rfl) (by decide) (fun K hK => ?_)
              refine append_E k115 (w0 := wo) (W := w6) wo.heap.size rfl (.tmp 38) (.tmp 49) 69 115 (.agg #[.string ⟨#[]⟩, .slice none 0 0]) 40 rfl Tryd.underlying69 infoSub rfl (by decide) (by omega) (.slice Au ys.length cu) ys x [.string x.f0, .slice A5 x.f1.length c5] (fun _ => True) (fun k => wr.drew.heap.size ≤ k) rfl rfl (k115_mkM _ _ _ x (Kd.R_lower (Kd.R_mono (Kd.R_bound HR6.out) (fun k hk => hk.2.1)) HBr.out.size)) (fun k hk => ⟨trivial, Kd.fresh' (Kd.R_lt (Kd.R_drew HRU.out)) k hk⟩) (fun _ _ => trivial) HU6.out HBw.out (below_size HBw.out) (usub_room HYl.out) ?_
              intro v7 w7 ho hb hg hat
              rw [← HTu.out] at ho
              obtain ⟨A7, c7, e7⟩ := Kd.R_slice ho
              subst e7
              have BX7 := Aside0.mk (blk_grown BX6.out hg (Kd.R_ne HU6.out BX6.out (by decide)))
              have BU7 := Aside0.mk (blk_grown BU6.out hg (Kd.R_ne HU6.out BU6.out (by decide)))
              have HRO7 := Aside0.mk (Kd.R_over HO6.out HU6.out (by decide) hg)
              have HRU7 := Aside0.mk ho
              have HB7 := Aside0.mk hb
              clear ho hb hg hat
              have m2 : w7.cell? ⟨gx, 2, none⟩ = some (.slice Au ys.length cu) := (blk_cell BX7.out 2).trans rfl
              have mf := blk_frozen BX7.out 2
              refine hK.out _ _ ⟨(blk_cell BX7.out 2).trans rfl, (blk_cell BU7.out 0).trans rfl, (blk_cell BU7.out 1).trans rfl⟩ (fun hHeld => ?_)
              clear hK K
              refine norm_ (a' := ?_) ?_ ?_
              rotate_left
              · show Act.put _ (some 50) _ = _
                simp only [Act.put, List.setIfInBounds_toArray, List.set_cons_zero, List.set_cons_succ, i64_w, i32_w]
                rfl
              refine pure_ (i := 14) (N := some 51) (v := ?_) (a' := ?_) #[true, true, true, true, true, true, true, true, true, true, true, true, true, true, true, false] rfl rfl (by kernel_rfl) (fun _ _ _ h => h) (Or.inl ⟨by rfl, ?_⟩) ?_ ?_
              rotate_left
              · intro w'
                go_simp
                with_reducible rfl
              rotate_left
              · simp only [Act.put, List.setIfInBounds_toArray, List.set_cons_zero, List.set_cons_succ, i64_w, i32_w]
                rfl
              refine last_ (i := 15) (N := none) #[true, true, true, true, true, true, true, true, true, true, true, true, true, true, true, true] rfl rfl (by kernel_rfl) (by decide) (fun K hK => ?_)
              refine skip_ (w1 := ?_) (by rfl) rfl ?_ ?_
              rotate_left
              · go_simp
                rfl
              refine hK.out _ _ ?_
              clear hK K
              refine done_ (by kernel_rfl) ?_
              go_wp2
              go_roundg k2
              case measure => have := HKi.out; omega
              case rel => exact ⟨i + 1, .slice A7 zu.length c7, by go_num, HIu.out, ⟨by have := HKi.out; omega⟩, ⟨blk_put (cs := #[.string s.f0, .slice Ao s.f1.length co, .slice Au ys.length cu]) BX7.out 2 _ rfl⟩, ⟨Kd.R_set HRO7.out BX7.out (by decide) 2 _⟩, ⟨by rw [HZu.out]; exact Kd.R_set HRU7.out BX7.out (by decide) 2 _⟩, ⟨below_set HB7.out GX.out⟩⟩
            · have c6b0 : decide ((i : Int) < (s.f2.length : Int)) = false := decide_eq_false (by omega)
              have HTu := Aside0.mk (show s.f2.take i = s.f2 from List.take_of_length_le (by omega))
              rw [HTu.out] at HRU
              obtain ⟨Au, cu, eu⟩ := Kd.R_slice HRU.out
              subst eu
              have hv0 : wr.cell? ⟨gx, 0, none⟩ = some (.string s.f0) := (blk_cell HX.out 0).trans rfl
              have hv1 : wr.cell? ⟨gx, 1, none⟩ = some (.slice Ao s.f1.length co) := (blk_cell HX.out 1).trans rfl
              have hv2 : wr.cell? ⟨gx, 2, none⟩ = some (.slice Au s.f2.length cu) := (blk_cell HX.out 2).trans rfl
              have HOi := Aside0.mk (Kd.R_below HO.out HBi.out)
              have HBw := Aside0.mk (below_step HB.out HBi.out)
              clear HTu
              go_wp2_with (first | ((with_reducible refine gate_builtin (b := .append) (xs := #[.tmp 53, .tmp 55]) rfl ?_); at_builtin; go_must (refine Kd.R_append k71 (w0 := w) w.heap.size rfl (.tmp 53) (.tmp 55) 60 71 (.agg #[.string ⟨#[]⟩, .slice none 0 0, .slice none 0 0]) 64 rfl Tryd.underlying60 infoSec rfl (by decide) (by omega) u3 (l.take j) s [.string s.f0, .slice Ao s.f1.length co, .slice Au s.f2.length cu] (fun _ => True) (fun k => wo.heap.size ≤ k) rfl (by first | (go_simp; done) | (go_simp; rfl)) (k71_mkM _ _ _ s (Kd.R_lower (Kd.R_mono (Kd.R_bound HRO.out) (fun k hk => hk.2.1)) HB.out.size) (Kd.R_lower (Kd.R_mono (Kd.R_bound HRU.out) (fun k hk => hk.2.1)) HB.out.size)) (fun k hk => ⟨trivial, Kd.fresh' (Kd.R_lt HO.out) k hk⟩) (fun _ _ => trivial) HOi.out HBw.out (below_size HBw.out) (usec_room HTl.out) ?_); intro v8 w8 ho hb hg hat; go_must (rw [← HT.out] at ho); have HO8 := Aside0.mk ho; have HB8 := Aside0.mk hb; clear ho hb hg hat) | fail)
              go_roundg k1
              case measure => have := HK.out; omega
              case rel => exact ⟨j + 1, by go_num, HI.out, ⟨by have := HK.out; omega⟩, ⟨by rw [HZ.out]; exact HO8.out⟩, HB8⟩
      · have c5b0 : decide ((j : Int) < (l.length : Int)) = false := decide_eq_false (by omega)
        have HT := Aside0.mk (show l.take j = l from List.take_of_length_le (by omega))
        go_wp2
        go_ret
        exact ⟨_, rfl, by rw [← HT.out]; exact HO.out, HB.out⟩
end Go.Proofs.YtoofbppfbbhliaaDoor.confP
