/- Revisions: bufio.Reader.ReadRune where a byte is left. -/
import Derived.Test.YtiibeefadgmicaaDoorRevF
namespace Go.Proofs.YtiibeefadgmicaaDoor.rev
open Go.RowKit Go.Proofs.YtiibeefadgmicaaDoorW.PrintWords Go.Proofs.YtiibeefadgmicaaDoorW.PrintLast Go.Proofs.YtiibeefadgmicaaDoorW.PrintMore Go.Proofs.YtiibeefadgmicaaDoor.PFnRevSteps
set_option linter.unusedVariables false
set_option linter.unusedSimpArgs false
set_option maxHeartbeats 2000000
set_option maxRecDepth 100000
theorem readRune_cons (w : World) (d : Ad) (hD : Dis d) (ea : Addr) (c : UInt8) (l : List UInt8) (b : Option UInt8) (hc : c.toNat < 128) (hT : Tabs w ea) (h : AtR w d (c :: l) b) :
    Calls Tryd.prog 45 #[.pointer (some ⟨d.gr, 0, none⟩)] w fun e w' => e = .returned (.tuple #[.int .i32 (c.toNat : Int), .int .i64 1, .nilIface]) ∧ Off d.S w w' ∧ AtR w' d l (some c) := by
  have HST : Aside0 (Fresh w d (c :: l) ∨ ∃ r lr, Loaded w d (c :: l) r .nilIface lr) := ⟨h.imp (fun h => h.1) (fun ⟨r, lr, h, _⟩ => ⟨r, lr, h⟩)⟩
  have HT := Aside0.mk hT
  have HD := Aside0.mk hD
  obtain ⟨gr, hg⟩ : ∃ gr, d.gr = gr := ⟨_, rfl⟩
  have HG := Aside0.mk hg
  obtain ⟨gb, hgb⟩ : ∃ gb, d.gb = gb := ⟨_, rfl⟩
  have HGB := Aside0.mk hgb
  rw [hg]
  clear h hT hD hg hgb
  go_enter Tryd.func45, Tryd.ntmps45
  go_wp2_with fail
  go_loopg [5] 2 (fun kq v5 w' => Aside0 (Off d.S w w') ∧ Aside0 ((kq = 2 ∧ Fresh w' d (c :: l)) ∨ (1 ≤ kq ∧ ∃ r lr, Loaded w' d (c :: l) r .nilIface lr)))
  case atStart => exact ⟨⟨Off.refl _ _⟩, ⟨HST.out.imp (fun h => ⟨rfl, h⟩) (fun h => ⟨by decide, h⟩)⟩⟩
  case round =>
    obtain ⟨HO, HS⟩ := hrel
    rcases HS.out with ⟨hk, hF⟩ | ⟨hk, r, lr, hL⟩
    · subst hk
      obtain ⟨lb, lr, hr⟩ := hF.hr
      obtain ⟨cur, hb, hcur⟩ := hF.hb
      rw [HG.out, HGB.out] at hr
      have HF := Aside0.mk hF
      have q0 := (blk_cell hr 0).trans (show _ = some (Value.slice (some ⟨gb, 0, none⟩) 4096 4096) from rfl)
      have q2 := (blk_cell hr 2).trans (show _ = some (Value.int .i64 0) from rfl)
      have q3 := (blk_cell hr 3).trans (show _ = some (Value.int .i64 0) from rfl)
      have q4 := (blk_cell hr 4).trans (show _ = some Value.nilIface from rfl)
      clear hF hr hb HS HST
      go_wp2_with fail
      go_quiet ((go_at_call 60; exact Calls.quiet_of_same (fullRune_nil _ _ _)))
      go_wp2_with fail
      clear q0 q2 q3 q4
      have HF1 := Aside0.mk (HF.out.off (S := fun _ => False) (w' := wr.drewN nq) ((Off.refl _ wr).drewN nq) ⟨id, id, id, id, id⟩)
      have HO1 := Aside0.mk (HO.out.drewN nq)
      generalize wr.drewN nq = W1 at HF1 HO1
      have HFI := fill_fresh W1 d HD.out (c :: l) HF1.out
      rw [HG.out] at HFI
      refine HFI.mono ?_
      rintro e w2 ⟨rfl, ho2, lr2, hL2⟩
      have HO2 := Aside0.mk (HO1.out.trans ho2)
      have HL2 := Aside0.mk hL2
      clear HFI ho2 hL2
      go_wp2_with fail
      go_roundg 1
      case measure => omega
      case rel => exact ⟨HO2, ⟨.inr ⟨Nat.le_refl _, _, _, HL2.out⟩⟩⟩
    · cases gk with
      | zero => omega
      | succ k1 =>
        obtain ⟨lb, hr⟩ := hL.hr
        rw [HG.out, HGB.out] at hr
        obtain ⟨wv, hwv⟩ : ∃ wv, r + (c :: l).length = wv := ⟨_, rfl⟩
        have HWV := Aside0.mk hwv
        have hmx := hL.max
        rw [hwv] at hr hmx
        have hlt : r < wv := by rw [← hwv, List.length_cons]; omega
        have HL := Aside0.mk hL
        have HC := Aside0.mk (HGB.out ▸ hL.cell)
        have HR := Aside0.mk hr
        have HTr := Aside0.mk (HT.out.off HO.out HD.out.S16)
        have HFR := Aside0.mk (fun (W : World) (hW : W.heap = wr.heap) (hO : Off (fun _ => False) wr W) => fullRune_any W ea (HTr.out.off (S := fun _ => False) hO (fun k hk => hk.elim)) gb r (wv - r) (4096 - r) c hc (by omega) ((cell_same gb r (congrArg (fun h : Array Obj => h[gb]?) hW)).trans HC.out))
        have q0 := (blk_cell hr 0).trans (show _ = some (Value.slice (some ⟨gb, 0, none⟩) 4096 4096) from rfl)
        have q2 := (blk_cell hr 2).trans (show _ = some (Value.int .i64 (r : Int)) from rfl)
        have q3 := (blk_cell hr 3).trans (show _ = some (Value.int .i64 (wv : Int)) from rfl)
        have w1 : wrap64 ((r : Int) + 4) = (r : Int) + 4 := w64 (by omega) (by omega)
        have v0 : (0 : Int) ≤ (r : Int) := by omega
        have v1 : (r : Int) ≤ (wv : Int) := by omega
        have v2 : (wv : Int) ≤ (4096 : Int) := by omega
        have v3 : wv ≤ 4096 := by omega
        have v4 : (4096 = r) = False := eq_false (by omega)
        have v5 : r ≤ wv := by omega
        have g1 : ((r : Int) == (wv : Int)) = false := beq_eq_false_iff_ne.2 (by omega)
        have g2 : (r == wv) = false := beq_eq_false_iff_ne.2 (by omega)
        clear hL hr HS HST hwv
        rcases Nat.lt_or_ge wv (r + 4) with ha | ha
        all_goals first | (have c1 : decide ((wv : Int) < (r : Int) + 4) = true := decide_eq_true (by omega); go_wp2_with fail; go_quiet ((go_at_call 60; exact Calls.quiet_of_same (HFR.out _ rfl ⟨rfl, rfl, rfl, Nat.le_refl _, fun _ _ _ => rfl⟩)))) | (have c1 : decide ((wv : Int) < (r : Int) + 4) = false := decide_eq_false (by omega); go_wp2_with fail; go_quiet (fail))
        all_goals have HL1 := Aside0.mk (HL.out.off (S := fun _ => False) (w' := wr.drewN nq) ((Off.refl _ wr).drewN nq) ⟨id, id, id, id⟩)
        all_goals have HO1 := Aside0.mk (HO.out.drewN nq)
        all_goals have HR1 := Aside0.mk (show (wr.drewN nq).heap[gr]? = _ from HR.out)
        all_goals have HC1 := Aside0.mk (show (wr.drewN nq).cell? ⟨gb, r, none⟩ = _ from HC.out)
        all_goals generalize wr.drewN nq = W1 at HL1 HO1 HR1 HC1
        all_goals clear q0 q2 q3 HL HO HR HC HFR HTr
        all_goals have q6 := (blk_cell HR1.out 6).trans (show _ = some (Value.int .i64 lr) from rfl)
        all_goals have f6 := blk_frozen HR1.out 6
        all_goals go_wp2_with fail
        all_goals have HR2 := Aside0.mk (blk_put HR1.out 6 (.int .i64 (-1)) rfl)
        all_goals have HO2 := Aside0.mk ((HO1.out.cell (g := d.gr) (by simp [Ad.S, In]) 6 (.int .i64 (-1))))
        all_goals have HC2 := Aside0.mk ((cell_same gb r (Below.heap_setCell W1 ⟨gr, 6, none⟩ (.int .i64 (-1)) gb (by rw [← HG.out, ← HGB.out]; exact Ne.symm HD.out.rb))).trans HC1.out)
        all_goals have HX2 := Aside0.mk (show ∀ j, j ≠ d.gr → (W1.setCell ⟨d.gr, 6, none⟩ (.int .i64 (-1))).heap[j]? = W1.heap[j]? from fun j hj => Below.heap_setCell _ ⟨d.gr, 6, none⟩ _ j hj)
        all_goals rw [HG.out] at HO2 HX2
        all_goals generalize W1.setCell ⟨gr, 6, none⟩ (.int .i64 (-1)) = W2 at HR2 HO2 HC2 HX2
        all_goals clear q6 f6
        all_goals have q2 := (blk_cell HR2.out 2).trans (show _ = some (Value.int .i64 (r : Int)) from rfl)
        all_goals have q3 := (blk_cell HR2.out 3).trans (show _ = some (Value.int .i64 (wv : Int)) from rfl)
        all_goals go_quiet (fail)
        all_goals go_wp2_with fail
        all_goals have HR3 := Aside0.mk (show (W2.drewN nq).heap[gr]? = _ from HR2.out)
        all_goals have HC3 := Aside0.mk (show (W2.drewN nq).cell? ⟨gb, r, none⟩ = _ from HC2.out)
        all_goals have HX3 := Aside0.mk (show ∀ j, j ≠ gr → (W2.drewN nq).heap[j]? = W1.heap[j]? from HX2.out)
        all_goals have HO3 := Aside0.mk (HO2.out.drewN nq)
        all_goals generalize W2.drewN nq = W3 at HR3 HC3 HX3 HO3
        all_goals clear q2 q3 HR2 HC2 HX2 HO2
        all_goals have q0 := (blk_cell HR3.out 0).trans (show _ = some (Value.slice (some ⟨gb, 0, none⟩) 4096 4096) from rfl)
        all_goals have q2 := (blk_cell HR3.out 2).trans (show _ = some (Value.int .i64 (r : Int)) from rfl)
        all_goals have q3 := (blk_cell HR3.out 3).trans (show _ = some (Value.int .i64 (wv : Int)) from rfl)
        all_goals have HDC := Aside0.mk (fun (W : World) (hW : W.heap = W3.heap) => decodeRune_any W gb r (wv - r) (4096 - r) c hc (by omega) ((cell_same gb r (congrArg (fun h : Array Obj => h[gb]?) hW)).trans HC3.out))
        all_goals go_quiet ((go_at_call 63; exact Calls.quiet_of_same (HDC.out _ rfl)))
        all_goals have HR4 := Aside0.mk (show (W3.drewN nq).heap[gr]? = _ from HR3.out)
        all_goals have HC4 := Aside0.mk (show (W3.drewN nq).cell? ⟨gb, r, none⟩ = _ from HC3.out)
        all_goals have HX4 := Aside0.mk (show ∀ j, j ≠ gr → (W3.drewN nq).heap[j]? = W1.heap[j]? from HX3.out)
        all_goals have HO4 := Aside0.mk (HO3.out.drewN nq)
        all_goals generalize W3.drewN nq = W4 at HR4 HC4 HX4 HO4
        all_goals clear q0 q2 q3 HDC HR3 HC3 HX3 HO3
        all_goals have q2 := (blk_cell HR4.out 2).trans (show _ = some (Value.int .i64 (r : Int)) from rfl)
        all_goals have f2 := blk_frozen HR4.out 2
        all_goals have w2 : wrap64 ((r : Int) + 1) = (r : Int) + 1 := w64 (by omega) (by omega)
        all_goals go_wp2_with fail
        all_goals have hne : gb ≠ gr := by rw [← HG.out, ← HGB.out]; exact Ne.symm HD.out.rb
        all_goals have HNE := Aside0.mk hne
        all_goals clear hne
        all_goals have HR5 := Aside0.mk (blk_put HR4.out 2 (.int .i64 ((r : Int) + 1)) rfl)
        all_goals have HC5 := Aside0.mk ((cell_same gb r (Below.heap_setCell W4 ⟨gr, 2, none⟩ (.int .i64 ((r : Int) + 1)) gb HNE.out)).trans HC4.out)
        all_goals have HX5 := Aside0.mk (show ∀ j, j ≠ gr → (W4.setCell ⟨gr, 2, none⟩ (.int .i64 ((r : Int) + 1))).heap[j]? = W1.heap[j]? from fun j hj => (Below.heap_setCell _ ⟨gr, 2, none⟩ _ j hj).trans (HX4.out j hj))
        all_goals have HO5 := Aside0.mk (HO4.out.cell (g := gr) (by rw [← HG.out]; simp [Ad.S, In]) 2 (.int .i64 ((r : Int) + 1)))
        all_goals generalize W4.setCell ⟨gr, 2, none⟩ (.int .i64 ((r : Int) + 1)) = W5 at HR5 HC5 HX5 HO5
        all_goals clear q2 f2 w2 HR4 HC4 HX4 HO4
        all_goals have q0 := (blk_cell HR5.out 0).trans (show _ = some (Value.slice (some ⟨gb, 0, none⟩) 4096 4096) from rfl)
        all_goals have q2 := (blk_cell HR5.out 2).trans (show _ = some (Value.int .i64 ((r : Int) + 1)) from rfl)
        all_goals obtain ⟨lb5, q5⟩ : ∃ v, W5.cell? ⟨gr, 5, none⟩ = some v := ⟨_, (blk_cell HR5.out 5).trans rfl⟩
        all_goals have q6 := (blk_cell HR5.out 6).trans (show _ = some (Value.int .i64 (-1)) from rfl)
        all_goals have f5 := blk_frozen HR5.out 5
        all_goals have f6 := blk_frozen HR5.out 6
        all_goals have qc := HC5.out
        all_goals have w5 : wrap64 ((r : Int) + 1 - 1) = (r : Int) := by rw [show ((r : Int) + 1 - 1) = (r : Int) by omega]; exact w64 (by omega) (by omega)
        all_goals have w6 : ((r : Int) + 1 - 1) = (r : Int) := by omega
        all_goals have w7 : wrap64 (r : Int) = (r : Int) := w64 (by omega) (by omega)
        all_goals have v6 : (r : Int) < 4096 := by omega
        all_goals have v7 : r < 4096 := by omega
        all_goals obtain ⟨kc, hkc⟩ : ∃ kc : Int, (c.toNat : Int) = kc := ⟨_, rfl⟩
        all_goals have HKC := Aside0.mk hkc
        all_goals rw [hkc] at qc
        all_goals have w8 : IntKind.i64.wrap kc = kc := by rw [← hkc]; exact wrap_small _ (by omega) (by omega)
        all_goals clear hkc
        all_goals (
        refine start_ (n := 16) (S := fun w' => w'.cell? ⟨gr, 0, none⟩ = some (.slice (some ⟨gb, 0, none⟩) 4096 4096) ∧ w'.cell? ⟨gr, 2, none⟩ = some (.int .i64 ((r : Int) + 1)) ∧ w'.cell? ⟨gb, r, none⟩ = some (.int .u8 kc)) (ds := [15]) #[false, false, false, false, false, false, false, false, false, false, false, false, false, false, false, false] (by kernel_rfl) rfl rfl ⟨q0, q2, qc⟩ (fun hHeld => ?_)
        refine pure_ (i := 0) (N := some 97) (v := ?_) (a' := ?_) #[true, false, false, false, false, false, false, false, false, false, false, false, false, false, false, false] rfl rfl (by kernel_rfl) (fun _ _ _ h => h) (Or.inl ⟨by rfl, ?_⟩) ?_ ?_
        rotate_left
        · intro w'
          go_simp
          with_reducible rfl
        rotate_left
        · simp only [Act.put, List.setIfInBounds_toArray, List.set_cons_zero, List.set_cons_succ, i64_w, i32_w]
          rfl
        refine pure_ (i := 1) (N := some 98) (v := ?_) (a' := ?_) #[true, true, false, false, false, false, false, false, false, false, false, false, false, false, false, false] rfl rfl (by kernel_rfl) (fun _ _ _ h => h) (Or.inl ⟨by rfl, ?_⟩) ?_ ?_
        rotate_left
        · intro w'
          go_simp
          with_reducible rfl
        rotate_left
        · simp only [Act.put, List.setIfInBounds_toArray, List.set_cons_zero, List.set_cons_succ, i64_w, i32_w]
          rfl
        refine pure_ (i := 2) (N := some 99) (v := ?_) (a' := ?_) #[true, true, true, false, false, false, false, false, false, false, false, false, false, false, false, false] rfl rfl (by kernel_rfl) (fun _ _ _ h => h) (Or.inl ⟨by rfl, ?_⟩) ?_ ?_
        rotate_left
        · intro w'
          go_simp
          with_reducible rfl
        rotate_left
        · simp only [Act.put, List.setIfInBounds_toArray, List.set_cons_zero, List.set_cons_succ, i64_w, i32_w]
          rfl
        refine pure_ (i := 3) (N := some 100) (v := ?_) (a' := ?_) #[true, true, true, true, false, false, false, false, false, false, false, false, false, false, false, false] rfl rfl (by kernel_rfl) (fun _ _ _ h => h) (Or.inl ⟨by rfl, ?_⟩) ?_ ?_
        rotate_left
        · intro w'
          go_simp
          with_reducible rfl
        rotate_left
        · simp only [Act.put, List.setIfInBounds_toArray, List.set_cons_zero, List.set_cons_succ, i64_w, i32_w]
          rfl
        refine pure_ (i := 5) (N := some 102) (v := ?_) (a' := ?_) #[true, true, true, true, false, true, false, false, false, false, false, false, false, false, false, false] rfl rfl (by kernel_rfl) (fun _ _ _ h => h) (Or.inl ⟨by rfl, ?_⟩) ?_ ?_
        rotate_left
        · intro w'
          go_simp
          with_reducible rfl
        rotate_left
        · simp only [Act.put, List.setIfInBounds_toArray, List.set_cons_zero, List.set_cons_succ, i64_w, i32_w]
          rfl
        refine pure_ (i := 6) (N := some 103) (v := ?_) (a' := ?_) #[true, true, true, true, false, true, true, false, false, false, false, false, false, false, false, false] rfl rfl (by kernel_rfl) (fun _ _ _ h => h) (Or.inl ⟨by rfl, ?_⟩) ?_ ?_
        rotate_left
        · intro w'
          go_simp
          with_reducible rfl
        rotate_left
        · simp only [Act.put, List.setIfInBounds_toArray, List.set_cons_zero, List.set_cons_succ, i64_w, i32_w]
          rfl
        refine pure_ (i := 7) (N := some 104) (v := ?_) (a' := ?_) #[true, true, true, true, false, true, true, true, false, false, false, false, false, false, false, false] rfl rfl (by kernel_rfl) (fun _ _ _ h => h) (Or.inl ⟨by rfl, ?_⟩) ?_ ?_
        rotate_left
        · intro w'
          go_simp
          with_reducible rfl
        rotate_left
        · simp only [Act.put, List.setIfInBounds_toArray, List.set_cons_zero, List.set_cons_succ, i64_w, i32_w]
          rfl
        refine take_ (i := 4) (N := some 101) (v := ?_) (a' := ?_) #[true, true, true, true, true, true, true, true, false, false, false, false, false, false, false, false] rfl rfl (by kernel_rfl) (fun _ _ _ h => h) (Or.inl ⟨by rfl, ?_⟩) hHeld ?_ ?_
        rotate_left
        · rintro w' ⟨s0, s1, s2⟩
          go_simp
          with_reducible rfl
        rotate_left
        · simp only [Act.put, List.setIfInBounds_toArray, List.set_cons_zero, List.set_cons_succ, i64_w, i32_w]
          rfl
        refine take_ (i := 8) (N := some 105) (v := ?_) (a' := ?_) #[true, true, true, true, true, true, true, true, true, false, false, false, false, false, false, false] rfl rfl (by kernel_rfl) (fun _ _ _ h => h) (Or.inl ⟨by rfl, ?_⟩) hHeld ?_ ?_
        rotate_left
        · rintro w' ⟨s0, s1, s2⟩
          go_simp
          with_reducible rfl
        rotate_left
        · simp only [Act.put, List.setIfInBounds_toArray, List.set_cons_zero, List.set_cons_succ, i64_w, i32_w]
          rfl
        refine pure_ (i := 9) (N := some 106) (v := ?_) (a' := ?_) #[true, true, true, true, true, true, true, true, true, true, false, false, false, false, false, false] rfl rfl (by kernel_rfl) (fun _ _ _ h => h) (Or.inl ⟨by rfl, ?_⟩) ?_ ?_
        rotate_left
        · intro w'
          go_simp
          with_reducible rfl
        rotate_left
        · simp only [Act.put, List.setIfInBounds_toArray, List.set_cons_zero, List.set_cons_succ, i64_w, i32_w]
          rfl
        refine pure_ (i := 10) (N := some 107) (v := ?_) (a' := ?_) #[true, true, true, true, true, true, true, true, true, true, true, false, false, false, false, false] rfl rfl (by kernel_rfl) (fun _ _ _ h => h) (Or.inl ⟨by rfl, ?_⟩) ?_ ?_
        rotate_left
        · intro w'
          go_simp
          with_reducible rfl
        rotate_left
        · simp only [Act.put, List.setIfInBounds_toArray, List.set_cons_zero, List.set_cons_succ, i64_w, i32_w]
          rfl
        refine take_ (i := 11) (N := some 108) (v := ?_) (a' := ?_) #[true, true, true, true, true, true, true, true, true, true, true, true, false, false, false, false] rfl rfl (by kernel_rfl) (fun _ _ _ h => h) (Or.inl ⟨by rfl, ?_⟩) hHeld ?_ ?_
        rotate_left
        · rintro w' ⟨s0, s1, s2⟩
          go_simp
          with_reducible rfl
        rotate_left
        · simp only [Act.put, List.setIfInBounds_toArray, List.set_cons_zero, List.set_cons_succ, i64_w, i32_w]
          rfl
        refine pure_ (i := 12) (N := some 109) (v := ?_) (a' := ?_) #[true, true, true, true, true, true, true, true, true, true, true, true, true, false, false, false] rfl rfl (by kernel_rfl) (fun _ _ _ h => h) (Or.inl ⟨by rfl, ?_⟩) ?_ ?_
        rotate_left
        · intro w'
          go_simp
          with_reducible rfl
        rotate_left
        · simp only [Act.put, List.setIfInBounds_toArray, List.set_cons_zero, List.set_cons_succ, i64_w, i32_w]
          rfl
        refine pure_ (i := 13) (N := some 110) (v := ?_) (a' := ?_) #[true, true, true, true, true, true, true, true, true, true, true, true, true, true, false, false] rfl rfl (by kernel_rfl) (fun _ _ _ h => h) (Or.inl ⟨by rfl, ?_⟩) ?_ ?_
        rotate_left
        · intro w'
          go_simp
          with_reducible rfl
        rotate_left
        · simp only [Act.put, List.setIfInBounds_toArray, List.set_cons_zero, List.set_cons_succ, i64_w, i32_w]
          rfl
        refine pure_ (i := 14) (N := some 111) (v := ?_) (a' := ?_) #[true, true, true, true, true, true, true, true, true, true, true, true, true, true, true, false] rfl rfl (by kernel_rfl) (fun _ _ _ h => h) (Or.inl ⟨by rfl, ?_⟩) ?_ ?_
        rotate_left
        · intro w'
          go_simp
          with_reducible rfl
        rotate_left
        · simp only [Act.put, List.setIfInBounds_toArray, List.set_cons_zero, List.set_cons_succ, i64_w, i32_w]
          rfl
        refine last_ (i := 15) (N := none) #[true, true, true, true, true, true, true, true, true, true, true, true, true, true, true, true] rfl rfl (by kernel_rfl) (by decide) (fun K hK => ?_)
        refine skip_ (w1 := ?_) (by rfl) rfl ?_ ?_
        rotate_left
        · go_simp
          rfl
        refine hK.out _ _ ?_
        clear hK K
        refine done_ (by kernel_rfl) ?_
)
        all_goals go_wp2_with fail
        all_goals go_ret3
        all_goals have hDD := HD.out
        all_goals obtain rfl := HG.out
        all_goals obtain rfl := HGB.out
        all_goals refine ⟨rfl, ((HO5.out.cell (g := d.gr) (by simp [Ad.S, In]) 5 _).cell (g := d.gr) (by simp [Ad.S, In]) 6 _).drew, .inr ⟨r + 1, 1, HL1.out.set hDD kc (fun j hj => (Below.heap_setCell _ ⟨d.gr, 6, none⟩ _ j hj).trans ((Below.heap_setCell _ ⟨d.gr, 5, none⟩ _ j hj).trans (HX5.out j hj))) ((blk_put (blk_put HR5.out 5 (.int .i64 kc) rfl) 6 (.int .i64 1) rfl).trans ?_) (fun cur hx hb j v hj => ?_) (by have := HWV.out; rw [List.length_cons] at this; omega), fun x hx => ⟨Nat.succ_pos _, rfl, ?_⟩⟩⟩
        all_goals first | (rw [show r + 1 + l.length = wv by have := HWV.out; rw [List.length_cons] at this; omega]; rfl) | (have := hx (j + 1) v hj; rw [← this]; congr 1; omega) | (injection hx with hx; subst hx; exact ((cell_same d.gb r (Below.heap_setCell _ ⟨d.gr, 6, none⟩ _ d.gb HNE.out)).trans (cell_same d.gb r (Below.heap_setCell _ ⟨d.gr, 5, none⟩ _ d.gb HNE.out))).trans HC5.out)
end Go.Proofs.YtiibeefadgmicaaDoor.rev
