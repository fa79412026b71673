/- index: spec.AreFiles. -/
import Derived.Test.YtoofbppfbbhliaaDoorIdxB
import Derived.Laws.Cover1
namespace Go.Proofs.YtoofbppfbbhliaaDoor.idx
open Go.RowKit Go.Lib Go.Proofs.YtoofbppfbbhliaaDoorW.PrintWords Go.Proofs.YtoofbppfbbhliaaDoorW.PrintLast Go.Proofs.YtoofbppfbbhliaaDoorW.PrintMore Go.Proofs.YtoofbppfbbhliaaDoor.PFnIdxDrop Go.Proofs.YtoofbppfbbhliaaDoor.ptr
set_option linter.unusedVariables false
set_option linter.unusedSimpArgs false
set_option maxHeartbeats 2000000
set_option maxRecDepth 100000
/-- A call that answers; of a yes something holds. -/
def Asks (p : Prop) (w : World) (e : Ending) (w' : World) : Prop := ∃ b, e = .returned (.bool b) ∧ (b = true → p) ∧ Below w.heap.size w w'
/-- The first files are right, by rising names. -/
def Upto (l : List S35) (j : Nat) : Prop := ∀ (i : Nat) (h : i < l.length), i < j → Good l[i] ∧ (∀ h1 : 0 < i, Op.bytesLess (l[i - 1]'(by omega)).f9.toList l[i].f9.toList = true)
theorem Upto.next {l : List S35} {j : Nat} (h : Upto l j) (hj : j < l.length) (hg : Good l[j]) (hb : ∀ h1 : 0 < j, Op.bytesLess (l[j - 1]'(by omega)).f9.toList l[j].f9.toList = true) : Upto l (j + 1) := by
  intro i hi hlt
  by_cases e : i = j
  · subst e; exact ⟨hg, hb⟩
  · exact h i hi (by omega)
theorem Upto.files {l : List S35} (h : Upto l l.length) (hl : l.length ≤ 1000) : Files l := ⟨hl, fun i hi => ⟨(h i hi hi).1, fun h1 => by simpa using (h (i + 1) h1 h1).2 (Nat.succ_pos _)⟩⟩
theorem areFiles_any (A0 : Option Addr) (c0 : Nat) (l : List S35) (w : World) (hr0 : Kd.C k35 w A0 l.length l) (hc0 : l.length ≤ c0) (hf : FFiles l) :
    Calls Tryd.prog 20 #[.slice A0 l.length c0] w (Asks (Files l) w) := by
  have hu35 := Tryd.underlying35
  have HR0 := Aside0.mk hr0
  have HF := Aside0.mk hf
  clear hr0 hf
  by_cases hbig : 1000 < l.length
  · have d1 : decide (1000 < (l.length : Int)) = true := decide_eq_true (by omega)
    have d2 : decide (1000 < l.length) = true := decide_eq_true hbig
    go_enter Tryd.func20, Tryd.ntmps20
    go_wp2_with fail
    go_ret
    exact ⟨false, rfl, (fun h => by cases h), Below.refl _ _⟩
  have d1 : decide (1000 < (l.length : Int)) = false := decide_eq_false (by omega)
  have d2 : decide (1000 < l.length) = false := decide_eq_false hbig
  have HBIG := Aside0.mk (show l.length ≤ 1000 by omega)
  clear hbig
  go_enter Tryd.func20, Tryd.ntmps20
  go_wp2_with fail
  clear d1 d2
  go_loopg [10] (l.length + 1) (fun kq v10 w' => ∃ (j : Nat), v10 = .int .i64 (j : Int) ∧ j ≤ l.length ∧ Aside0 (kq + j = l.length + 1) ∧ Aside0 (Upto l j) ∧ Aside0 (Below w.heap.size w w'))
  case atStart => exact ⟨0, rfl, Nat.zero_le _, ⟨by omega⟩, ⟨fun i hi h => by omega⟩, ⟨Below.refl _ _⟩⟩
  case round =>
    obtain ⟨j, rfl, hj, HK, HU, HB⟩ := hrel
    cases gk with
    | zero => exact absurd HK.out (by omega)
    | succ k1 =>
      obtain ⟨wo, hwo⟩ : ∃ wo : World, wo = wr := ⟨_, rfl⟩
      subst hwo
      by_cases hlt : j < l.length
      · have p150 : 0 ≤ (j : Int) := by omega
        have q150 : (j : Int) < (l.length : Int) := by omega
        have c5b0 : decide ((j : Int) < (l.length : Int)) = true := decide_eq_true q150
        obtain ⟨ad, e0, y0, y1, y2, y3, y4, y5, y6, y7, y8, y9, y10, y11, y12, y13, y14⟩ := at_T35 HR0.out j p150 q150
        subst e0
        rw [rdF hlt] at y0 y1 y2 y3 y4 y5 y6 y7 y8 y9 y10 y11 y12 y13 y14
        rw [Int.toNat_natCast] at y0 y1 y2 y3 y4 y5 y6 y7 y8 y9 y10 y11 y12 y13 y14
        replace y0 := (HB.out.cell (World.block_lt_of_cell? w _ y0)).trans y0
        replace y1 := (HB.out.cell (World.block_lt_of_cell? w _ y1)).trans y1
        replace y2 := (HB.out.cell (World.block_lt_of_cell? w _ y2)).trans y2
        replace y3 := (HB.out.cell (World.block_lt_of_cell? w _ y3)).trans y3
        replace y4 := (HB.out.cell (World.block_lt_of_cell? w _ y4)).trans y4
        replace y5 := (HB.out.cell (World.block_lt_of_cell? w _ y5)).trans y5
        replace y6 := (HB.out.cell (World.block_lt_of_cell? w _ y6)).trans y6
        replace y7 := (HB.out.cell (World.block_lt_of_cell? w _ y7)).trans y7
        replace y8 := (HB.out.cell (World.block_lt_of_cell? w _ y8)).trans y8
        replace y9 := (HB.out.cell (World.block_lt_of_cell? w _ y9)).trans y9
        replace y10 := (HB.out.cell (World.block_lt_of_cell? w _ y10)).trans y10
        replace y11 := (HB.out.cell (World.block_lt_of_cell? w _ y11)).trans y11
        replace y12 := (HB.out.cell (World.block_lt_of_cell? w _ y12)).trans y12
        replace y13 := (HB.out.cell (World.block_lt_of_cell? w _ y13)).trans y13
        replace y14 := (HB.out.cell (World.block_lt_of_cell? w _ y14)).trans y14
        have HFX := Aside0.mk (HF.out.2 _ (List.getElem_mem hlt))
        have HNX := Aside0.mk (fun hg hb => HU.out.next hlt hg hb)
        have HPP := Aside0.mk (show ∀ h1 : 0 < j, ∃ pn, pn = (l[j - 1]'(by omega)).f9 ∧ wo.cell? ⟨(ad.add ((j - 1) * 15)).block, (ad.add ((j - 1) * 15)).off + 11, none⟩ = some (.string pn) from fun h1 => by
          obtain ⟨ad', e0', z0, z1, z2, z3, z4, z5, z6, z7, z8, z9, z10, z11, z12, z13, z14⟩ := at_T35 HR0.out ((j - 1 : Nat) : Int) (by omega) (by omega)
          injection e0' with e0'
          subst e0'
          rw [rdF (by omega), Int.toNat_natCast] at z11
          exact ⟨_, rfl, (HB.out.cell (World.block_lt_of_cell? w _ z11)).trans z11⟩)
        obtain ⟨x, hx⟩ : ∃ x, l[j] = x := ⟨_, rfl⟩
        rw [hx] at y0 y1 y2 y3 y4 y5 y6 y7 y8 y9 y10 y11 y12 y13 y14 HFX
        have HX := Aside0.mk hx
        have HI := Aside0.mk hlt
        obtain ⟨b, hbe, hbg⟩ := plain_says x HFX.out.1 HFX.out.2
        obtain ⟨kp, hkp⟩ := hbe.rounds
        have HPL := Aside0.mk hkp
        have HGD := Aside0.mk hbg
        clear hx hbe hkp hbg
        go_wp2_with (first | ((with_reducible refine gate_dst (N := 4) rfl ?_); refine box_event ?hg (N := 4) ?hd (cs := #[.int .i64 0, .int .i64 0, .int .i64 0, .int .i64 0, .int .u32 0, .int .u32 0, .int .u32 0, .int .u32 0, .int .u32 0, .int .u32 0, .string (⟨#[]⟩ : ByteArray), .string (⟨#[]⟩ : ByteArray), .int .i64 0, .bool false, .bool false]) (t := 35) ?hr ?_; (case hd => rfl); (case hg => rfl); (case hr => first | (go_simp; done) | (go_simp; rfl)); intro gf hg1 wa hbox hb; have BFa := Aside0.mk hbox; have HBa := Aside0.mk (show Below wo.heap.size wo wa from hb); have GF := Aside0.mk (show wo.heap.size ≤ gf by rw [hg1]; exact Nat.le_refl _); clear hbox hb hg1) | (refine wpList_store_row rfl 35 _ _ rfl gf #[.int .i64 x.f0.f0, .int .i64 x.f0.f1, .int .i64 x.f1.f0, .int .i64 x.f1.f1, .int .u32 x.f2, .int .u32 x.f3, .int .u32 x.f4, .int .u32 x.f5, .int .u32 x.f6, .int .u32 x.f7, .string x.f8, .string x.f9, .int .i64 x.f10, .bool x.f11, .bool x.f12] ?hx ?hy 35 _ BFa.out (by kernel_rfl) rfl (file_one x) ?_; (case hx => rfl); (case hy => rfl)) | fail)
        generalize hW : World.setRow _ _ _ = W2
        have HBd := Aside0.mk (show Below wo.heap.size wo W2.drew by rw [← hW]; exact below_drew1 (below_setRow HBa.out GF.out _))
        have BF2 := Aside0.mk (show W2.drew.heap[gf]? = some (.cells #[.int .i64 x.f0.f0, .int .i64 x.f0.f1, .int .i64 x.f1.f0, .int .i64 x.f1.f1, .int .u32 x.f2, .int .u32 x.f3, .int .u32 x.f4, .int .u32 x.f5, .int .u32 x.f6, .int .u32 x.f7, .string x.f8, .string x.f9, .int .i64 x.f10, .bool x.f11, .bool x.f12] 35 (0, 0)) by rw [← hW]; exact blk_drew (setRow_heap _ _ _ _ _ _ BFa.out))
        have HB2 := Aside0.mk (below_step HB.out HBd.out)
        clear hW BFa HBa y0 y1 y2 y3 y4 y5 y6 y7 y8 y9 y10 y11 y12 y13 y14
        cases b with
        | false =>
          refine start_ (n := 18) (S := fun w' => w'.cell? ⟨gf, 0, none⟩ = some (.int .i64 x.f0.f0) ∧ w'.cell? ⟨gf, 1, none⟩ = some (.int .i64 x.f0.f1) ∧ w'.cell? ⟨gf, 2, none⟩ = some (.int .i64 x.f1.f0) ∧ w'.cell? ⟨gf, 3, none⟩ = some (.int .i64 x.f1.f1) ∧ w'.cell? ⟨gf, 4, none⟩ = some (.int .u32 x.f2) ∧ w'.cell? ⟨gf, 5, none⟩ = some (.int .u32 x.f3) ∧ w'.cell? ⟨gf, 6, none⟩ = some (.int .u32 x.f4) ∧ w'.cell? ⟨gf, 7, none⟩ = some (.int .u32 x.f5) ∧ w'.cell? ⟨gf, 8, none⟩ = some (.int .u32 x.f6) ∧ w'.cell? ⟨gf, 9, none⟩ = some (.int .u32 x.f7) ∧ w'.cell? ⟨gf, 10, none⟩ = some (.string x.f8) ∧ w'.cell? ⟨gf, 11, none⟩ = some (.string x.f9) ∧ w'.cell? ⟨gf, 12, none⟩ = some (.int .i64 x.f10) ∧ w'.cell? ⟨gf, 13, none⟩ = some (.bool x.f11) ∧ w'.cell? ⟨gf, 14, none⟩ = some (.bool x.f12)) (ds := []) #[false, false, false, false, false, false, false, false, false, false, false, false, false, false, false, false, false, false] (by kernel_rfl) rfl rfl ⟨(blk_cell BF2.out 0).trans rfl, (blk_cell BF2.out 1).trans rfl, (blk_cell BF2.out 2).trans rfl, (blk_cell BF2.out 3).trans rfl, (blk_cell BF2.out 4).trans rfl, (blk_cell BF2.out 5).trans rfl, (blk_cell BF2.out 6).trans rfl, (blk_cell BF2.out 7).trans rfl, (blk_cell BF2.out 8).trans rfl, (blk_cell BF2.out 9).trans rfl, (blk_cell BF2.out 10).trans rfl, (blk_cell BF2.out 11).trans rfl, (blk_cell BF2.out 12).trans rfl, (blk_cell BF2.out 13).trans rfl, (blk_cell BF2.out 14).trans rfl⟩ (fun hHeld => ?_)
          refine take_ (i := 0) (N := some 15) (v := ?_) (a' := ?_) #[true, false, false, false, false, false, false, false, false, false, false, false, false, false, false, false, false, false] rfl rfl (by kernel_rfl) (fun _ _ _ h => h) (Or.inl ⟨by rfl, ?_⟩) hHeld ?_ ?_
          rotate_left
          · rintro w' ⟨s0, s1, s2, s3, s4, s5, s6, s7, s8, s9, s10, s11, s12, s13, s14⟩
            go_simp
            with_reducible rfl
          rotate_left
          · simp only [Act.put, List.setIfInBounds_toArray, List.set_cons_zero, List.set_cons_succ, i64_w, i32_w]
            rfl
          refine one_ (i := 1) (N := some 16) #[true, true, false, false, false, false, false, false, false, false, false, false, false, false, false, false, false, false] rfl rfl (by kernel_rfl) (by decide) (fun K hK => ?_)
          refine goes_ Tryd.func50 (by kernel_rfl) rfl #[.agg #[.int .i64 x.f0.f0, .int .i64 x.f0.f1, .int .i64 x.f1.f0, .int .i64 x.f1.f1, .int .u32 x.f2, .int .u32 x.f3, .int .u32 x.f4, .int .u32 x.f5, .int .u32 x.f6, .int .u32 x.f7, .string x.f8, .string x.f9, .int .i64 x.f10, .bool x.f11, .bool x.f12]] (by rfl) rfl rfl (by simp only [List.map_toArray, List.map_cons, List.map_nil]; rfl) ?_
          with_reducible refine (spec_IsPlainFile.calls kp x.f0.f0 x.f0.f1 x.f1.f0 x.f1.f1 x.f2 x.f3 x.f4 x.f5 x.f6 x.f7 x.f8 x.f9 x.f10 x.f11 x.f12 false _ HPL.out).mono ?_
          rintro e w3 ⟨rfl, hb3⟩
          refine ⟨_, rfl, ?_⟩
          have BF3 := Aside0.mk ((hb3.block gf (blk_lt BF2.out)).trans BF2.out)
          have HB3 := Aside0.mk (below_step HB2.out hb3)
          clear hb3
          refine hK.out _ _ ⟨(blk_cell BF3.out 0).trans rfl, (blk_cell BF3.out 1).trans rfl, (blk_cell BF3.out 2).trans rfl, (blk_cell BF3.out 3).trans rfl, (blk_cell BF3.out 4).trans rfl, (blk_cell BF3.out 5).trans rfl, (blk_cell BF3.out 6).trans rfl, (blk_cell BF3.out 7).trans rfl, (blk_cell BF3.out 8).trans rfl, (blk_cell BF3.out 9).trans rfl, (blk_cell BF3.out 10).trans rfl, (blk_cell BF3.out 11).trans rfl, (blk_cell BF3.out 12).trans rfl, (blk_cell BF3.out 13).trans rfl, (blk_cell BF3.out 14).trans rfl⟩ (fun hHeld => ?_)
          clear hK K
          refine norm_ (a' := ?_) ?_ ?_
          rotate_left
          · show Act.put _ (some 16) _ = _
            simp only [Act.put, List.setIfInBounds_toArray, List.set_cons_zero, List.set_cons_succ, i64_w, i32_w]
            rfl
          refine pure_ (i := 2) (N := some 17) (v := ?_) (a' := ?_) #[true, true, true, false, false, false, false, false, false, false, false, false, false, false, false, false, false, false] rfl rfl (by kernel_rfl) (fun _ _ _ h => h) (Or.inl ⟨by rfl, ?_⟩) ?_ ?_
          rotate_left
          · intro w'
            go_simp
            with_reducible rfl
          rotate_left
          · simp only [Act.put, List.setIfInBounds_toArray, List.set_cons_zero, List.set_cons_succ, i64_w, i32_w]
            rfl
          refine pure_ (i := 3) (N := some 18) (v := ?_) (a' := ?_) #[true, true, true, true, false, false, false, false, false, false, false, false, false, false, false, false, false, false] rfl rfl (by kernel_rfl) (fun _ _ _ h => h) (Or.inl ⟨by rfl, ?_⟩) ?_ ?_
          rotate_left
          · intro w'
            go_simp
            with_reducible rfl
          rotate_left
          · simp only [Act.put, List.setIfInBounds_toArray, List.set_cons_zero, List.set_cons_succ, i64_w, i32_w]
            rfl
          refine pure_ (i := 4) (N := some 19) (v := undef) (a' := ?_) #[true, true, true, true, true, false, false, false, false, false, false, false, false, false, false, false, false, false] rfl rfl (by kernel_rfl) (fun _ _ _ h => h) (Or.inr ⟨by rfl, rfl⟩) ?_ ?_
          rotate_left
          · simp only [Act.put, List.setIfInBounds_toArray, List.set_cons_zero, List.set_cons_succ, i64_w, i32_w]
            rfl
          refine pure_ (i := 5) (N := some 20) (v := undef) (a' := ?_) #[true, true, true, true, true, true, false, false, false, false, false, false, false, false, false, false, false, false] rfl rfl (by kernel_rfl) (fun _ _ _ h => h) (Or.inr ⟨by rfl, rfl⟩) ?_ ?_
          rotate_left
          · simp only [Act.put, List.setIfInBounds_toArray, List.set_cons_zero, List.set_cons_succ, i64_w, i32_w]
            rfl
          refine pure_ (i := 6) (N := some 21) (v := undef) (a' := ?_) #[true, true, true, true, true, true, true, false, false, false, false, false, false, false, false, false, false, false] rfl rfl (by kernel_rfl) (fun _ _ _ h => h) (Or.inr ⟨by rfl, rfl⟩) ?_ ?_
          rotate_left
          · simp only [Act.put, List.setIfInBounds_toArray, List.set_cons_zero, List.set_cons_succ, i64_w, i32_w]
            rfl
          refine pure_ (i := 7) (N := some 22) (v := undef) (a' := ?_) #[true, true, true, true, true, true, true, true, false, false, false, false, false, false, false, false, false, false] rfl rfl (by kernel_rfl) (fun _ _ _ h => h) (Or.inr ⟨by rfl, rfl⟩) ?_ ?_
          rotate_left
          · simp only [Act.put, List.setIfInBounds_toArray, List.set_cons_zero, List.set_cons_succ, i64_w, i32_w]
            rfl
          refine pure_ (i := 8) (N := some 23) (v := undef) (a' := ?_) #[true, true, true, true, true, true, true, true, true, false, false, false, false, false, false, false, false, false] rfl rfl (by kernel_rfl) (fun _ _ _ h => h) (Or.inr ⟨by rfl, rfl⟩) ?_ ?_
          rotate_left
          · simp only [Act.put, List.setIfInBounds_toArray, List.set_cons_zero, List.set_cons_succ, i64_w, i32_w]
            rfl
          refine pure_ (i := 9) (N := some 24) (v := undef) (a' := ?_) #[true, true, true, true, true, true, true, true, true, true, false, false, false, false, false, false, false, false] rfl rfl (by kernel_rfl) (fun _ _ _ h => h) (Or.inr ⟨by rfl, rfl⟩) ?_ ?_
          rotate_left
          · simp only [Act.put, List.setIfInBounds_toArray, List.set_cons_zero, List.set_cons_succ, i64_w, i32_w]
            rfl
          refine pure_ (i := 10) (N := some 25) (v := undef) (a' := ?_) #[true, true, true, true, true, true, true, true, true, true, true, false, false, false, false, false, false, false] rfl rfl (by kernel_rfl) (fun _ _ _ h => h) (Or.inr ⟨by rfl, rfl⟩) ?_ ?_
          rotate_left
          · simp only [Act.put, List.setIfInBounds_toArray, List.set_cons_zero, List.set_cons_succ, i64_w, i32_w]
            rfl
          refine pure_ (i := 11) (N := some 26) (v := undef) (a' := ?_) #[true, true, true, true, true, true, true, true, true, true, true, true, false, false, false, false, false, false] rfl rfl (by kernel_rfl) (fun _ _ _ h => h) (Or.inr ⟨by rfl, rfl⟩) ?_ ?_
          rotate_left
          · simp only [Act.put, List.setIfInBounds_toArray, List.set_cons_zero, List.set_cons_succ, i64_w, i32_w]
            rfl
          refine pure_ (i := 12) (N := some 27) (v := undef) (a' := ?_) #[true, true, true, true, true, true, true, true, true, true, true, true, true, false, false, false, false, false] rfl rfl (by kernel_rfl) (fun _ _ _ h => h) (Or.inr ⟨by rfl, rfl⟩) ?_ ?_
          rotate_left
          · simp only [Act.put, List.setIfInBounds_toArray, List.set_cons_zero, List.set_cons_succ, i64_w, i32_w]
            rfl
          refine pure_ (i := 13) (N := some 28) (v := undef) (a' := ?_) #[true, true, true, true, true, true, true, true, true, true, true, true, true, true, false, false, false, false] rfl rfl (by kernel_rfl) (fun _ _ _ h => h) (Or.inr ⟨by rfl, rfl⟩) ?_ ?_
          rotate_left
          · simp only [Act.put, List.setIfInBounds_toArray, List.set_cons_zero, List.set_cons_succ, i64_w, i32_w]
            rfl
          refine pure_ (i := 14) (N := some 29) (v := undef) (a' := ?_) #[true, true, true, true, true, true, true, true, true, true, true, true, true, true, true, false, false, false] rfl rfl (by kernel_rfl) (fun _ _ _ h => h) (Or.inr ⟨by rfl, rfl⟩) ?_ ?_
          rotate_left
          · simp only [Act.put, List.setIfInBounds_toArray, List.set_cons_zero, List.set_cons_succ, i64_w, i32_w]
            rfl
          refine pure_ (i := 15) (N := some 30) (v := undef) (a' := ?_) #[true, true, true, true, true, true, true, true, true, true, true, true, true, true, true, true, false, false] rfl rfl (by kernel_rfl) (fun _ _ _ h => h) (Or.inr ⟨by rfl, rfl⟩) ?_ ?_
          rotate_left
          · simp only [Act.put, List.setIfInBounds_toArray, List.set_cons_zero, List.set_cons_succ, i64_w, i32_w]
            rfl
          refine pure_ (i := 16) (N := some 31) (v := undef) (a' := ?_) #[true, true, true, true, true, true, true, true, true, true, true, true, true, true, true, true, true, false] rfl rfl (by kernel_rfl) (fun _ _ _ h => h) (Or.inr ⟨by rfl, rfl⟩) ?_ ?_
          rotate_left
          · simp only [Act.put, List.setIfInBounds_toArray, List.set_cons_zero, List.set_cons_succ, i64_w, i32_w]
            rfl
          refine pure_ (i := 17) (N := some 32) (v := ?_) (a' := ?_) #[true, true, true, true, true, true, true, true, true, true, true, true, true, true, true, true, true, true] rfl rfl (by kernel_rfl) (fun _ _ _ h => h) (Or.inl ⟨by rfl, ?_⟩) ?_ ?_
          rotate_left
          · intro w'
            go_simp
            with_reducible rfl
          rotate_left
          · simp only [Act.put, List.setIfInBounds_toArray, List.set_cons_zero, List.set_cons_succ, i64_w, i32_w]
            rfl
          refine done_ (by kernel_rfl) ?_
          go_wp2
          go_ret
          exact ⟨false, rfl, (fun h => by cases h), HB3.out⟩
        | true =>
          by_cases h0 : j = 0
          · have g0 : decide (0 < (j : Int)) = false := decide_eq_false (by omega)
            have g1 : decide (0 < j) = false := decide_eq_false (by omega)
            refine start_ (n := 18) (S := fun w' => w'.cell? ⟨gf, 0, none⟩ = some (.int .i64 x.f0.f0) ∧ w'.cell? ⟨gf, 1, none⟩ = some (.int .i64 x.f0.f1) ∧ w'.cell? ⟨gf, 2, none⟩ = some (.int .i64 x.f1.f0) ∧ w'.cell? ⟨gf, 3, none⟩ = some (.int .i64 x.f1.f1) ∧ w'.cell? ⟨gf, 4, none⟩ = some (.int .u32 x.f2) ∧ w'.cell? ⟨gf, 5, none⟩ = some (.int .u32 x.f3) ∧ w'.cell? ⟨gf, 6, none⟩ = some (.int .u32 x.f4) ∧ w'.cell? ⟨gf, 7, none⟩ = some (.int .u32 x.f5) ∧ w'.cell? ⟨gf, 8, none⟩ = some (.int .u32 x.f6) ∧ w'.cell? ⟨gf, 9, none⟩ = some (.int .u32 x.f7) ∧ w'.cell? ⟨gf, 10, none⟩ = some (.string x.f8) ∧ w'.cell? ⟨gf, 11, none⟩ = some (.string x.f9) ∧ w'.cell? ⟨gf, 12, none⟩ = some (.int .i64 x.f10) ∧ w'.cell? ⟨gf, 13, none⟩ = some (.bool x.f11) ∧ w'.cell? ⟨gf, 14, none⟩ = some (.bool x.f12)) (ds := []) #[false, false, false, false, false, false, false, false, false, false, false, false, false, false, false, false, false, false] (by kernel_rfl) rfl rfl ⟨(blk_cell BF2.out 0).trans rfl, (blk_cell BF2.out 1).trans rfl, (blk_cell BF2.out 2).trans rfl, (blk_cell BF2.out 3).trans rfl, (blk_cell BF2.out 4).trans rfl, (blk_cell BF2.out 5).trans rfl, (blk_cell BF2.out 6).trans rfl, (blk_cell BF2.out 7).trans rfl, (blk_cell BF2.out 8).trans rfl, (blk_cell BF2.out 9).trans rfl, (blk_cell BF2.out 10).trans rfl, (blk_cell BF2.out 11).trans rfl, (blk_cell BF2.out 12).trans rfl, (blk_cell BF2.out 13).trans rfl, (blk_cell BF2.out 14).trans rfl⟩ (fun hHeld => ?_)
            refine take_ (i := 0) (N := some 15) (v := ?_) (a' := ?_) #[true, false, false, false, false, false, false, false, false, false, false, false, false, false, false, false, false, false] rfl rfl (by kernel_rfl) (fun _ _ _ h => h) (Or.inl ⟨by rfl, ?_⟩) hHeld ?_ ?_
            rotate_left
            · rintro w' ⟨s0, s1, s2, s3, s4, s5, s6, s7, s8, s9, s10, s11, s12, s13, s14⟩
              go_simp
              with_reducible rfl
            rotate_left
            · simp only [Act.put, List.setIfInBounds_toArray, List.set_cons_zero, List.set_cons_succ, i64_w, i32_w]
              rfl
            refine one_ (i := 1) (N := some 16) #[true, true, false, false, false, false, false, false, false, false, false, false, false, false, false, false, false, false] rfl rfl (by kernel_rfl) (by decide) (fun K hK => ?_)
            refine goes_ Tryd.func50 (by kernel_rfl) rfl #[.agg #[.int .i64 x.f0.f0, .int .i64 x.f0.f1, .int .i64 x.f1.f0, .int .i64 x.f1.f1, .int .u32 x.f2, .int .u32 x.f3, .int .u32 x.f4, .int .u32 x.f5, .int .u32 x.f6, .int .u32 x.f7, .string x.f8, .string x.f9, .int .i64 x.f10, .bool x.f11, .bool x.f12]] (by rfl) rfl rfl (by simp only [List.map_toArray, List.map_cons, List.map_nil]; rfl) ?_
            with_reducible refine (spec_IsPlainFile.calls kp x.f0.f0 x.f0.f1 x.f1.f0 x.f1.f1 x.f2 x.f3 x.f4 x.f5 x.f6 x.f7 x.f8 x.f9 x.f10 x.f11 x.f12 true _ HPL.out).mono ?_
            rintro e w3 ⟨rfl, hb3⟩
            refine ⟨_, rfl, ?_⟩
            have BF3 := Aside0.mk ((hb3.block gf (blk_lt BF2.out)).trans BF2.out)
            have HB3 := Aside0.mk (below_step HB2.out hb3)
            clear hb3
            refine hK.out _ _ ⟨(blk_cell BF3.out 0).trans rfl, (blk_cell BF3.out 1).trans rfl, (blk_cell BF3.out 2).trans rfl, (blk_cell BF3.out 3).trans rfl, (blk_cell BF3.out 4).trans rfl, (blk_cell BF3.out 5).trans rfl, (blk_cell BF3.out 6).trans rfl, (blk_cell BF3.out 7).trans rfl, (blk_cell BF3.out 8).trans rfl, (blk_cell BF3.out 9).trans rfl, (blk_cell BF3.out 10).trans rfl, (blk_cell BF3.out 11).trans rfl, (blk_cell BF3.out 12).trans rfl, (blk_cell BF3.out 13).trans rfl, (blk_cell BF3.out 14).trans rfl⟩ (fun hHeld => ?_)
            clear hK K
            refine norm_ (a' := ?_) ?_ ?_
            rotate_left
            · show Act.put _ (some 16) _ = _
              simp only [Act.put, List.setIfInBounds_toArray, List.set_cons_zero, List.set_cons_succ, i64_w, i32_w]
              rfl
            refine pure_ (i := 2) (N := some 17) (v := ?_) (a' := ?_) #[true, true, true, false, false, false, false, false, false, false, false, false, false, false, false, false, false, false] rfl rfl (by kernel_rfl) (fun _ _ _ h => h) (Or.inl ⟨by rfl, ?_⟩) ?_ ?_
            rotate_left
            · intro w'
              go_simp
              with_reducible rfl
            rotate_left
            · simp only [Act.put, List.setIfInBounds_toArray, List.set_cons_zero, List.set_cons_succ, i64_w, i32_w]
              rfl
            refine pure_ (i := 3) (N := some 18) (v := ?_) (a' := ?_) #[true, true, true, true, false, false, false, false, false, false, false, false, false, false, false, false, false, false] rfl rfl (by kernel_rfl) (fun _ _ _ h => h) (Or.inl ⟨by rfl, ?_⟩) ?_ ?_
            rotate_left
            · intro w'
              go_simp
              with_reducible rfl
            rotate_left
            · simp only [Act.put, List.setIfInBounds_toArray, List.set_cons_zero, List.set_cons_succ, i64_w, i32_w]
              rfl
            refine pure_ (i := 4) (N := some 19) (v := ?_) (a' := ?_) #[true, true, true, true, true, false, false, false, false, false, false, false, false, false, false, false, false, false] rfl rfl (by kernel_rfl) (fun _ _ _ h => h) (Or.inl ⟨by rfl, ?_⟩) ?_ ?_
            rotate_left
            · intro w'
              go_simp
              with_reducible rfl
            rotate_left
            · simp only [Act.put, List.setIfInBounds_toArray, List.set_cons_zero, List.set_cons_succ, i64_w, i32_w]
              rfl
            refine pure_ (i := 5) (N := some 20) (v := ?_) (a' := ?_) #[true, true, true, true, true, true, false, false, false, false, false, false, false, false, false, false, false, false] rfl rfl (by kernel_rfl) (fun _ _ _ h => h) (Or.inl ⟨by rfl, ?_⟩) ?_ ?_
            rotate_left
            · intro w'
              go_simp
              with_reducible rfl
            rotate_left
            · simp only [Act.put, List.setIfInBounds_toArray, List.set_cons_zero, List.set_cons_succ, i64_w, i32_w]
              rfl
            refine pure_ (i := 6) (N := some 21) (v := ?_) (a' := ?_) #[true, true, true, true, true, true, true, false, false, false, false, false, false, false, false, false, false, false] rfl rfl (by kernel_rfl) (fun _ _ _ h => h) (Or.inl ⟨by rfl, ?_⟩) ?_ ?_
            rotate_left
            · intro w'
              go_simp
              with_reducible rfl
            rotate_left
            · simp only [Act.put, List.setIfInBounds_toArray, List.set_cons_zero, List.set_cons_succ, i64_w, i32_w]
              rfl
            refine pure_ (i := 7) (N := some 22) (v := undef) (a' := ?_) #[true, true, true, true, true, true, true, true, false, false, false, false, false, false, false, false, false, false] rfl rfl (by kernel_rfl) (fun _ _ _ h => h) (Or.inr ⟨by rfl, rfl⟩) ?_ ?_
            rotate_left
            · simp only [Act.put, List.setIfInBounds_toArray, List.set_cons_zero, List.set_cons_succ, i64_w, i32_w]
              rfl
            refine pure_ (i := 8) (N := some 23) (v := undef) (a' := ?_) #[true, true, true, true, true, true, true, true, true, false, false, false, false, false, false, false, false, false] rfl rfl (by kernel_rfl) (fun _ _ _ h => h) (Or.inr ⟨by rfl, rfl⟩) ?_ ?_
            rotate_left
            · simp only [Act.put, List.setIfInBounds_toArray, List.set_cons_zero, List.set_cons_succ, i64_w, i32_w]
              rfl
            refine pure_ (i := 9) (N := some 24) (v := undef) (a' := ?_) #[true, true, true, true, true, true, true, true, true, true, false, false, false, false, false, false, false, false] rfl rfl (by kernel_rfl) (fun _ _ _ h => h) (Or.inr ⟨by rfl, rfl⟩) ?_ ?_
            rotate_left
            · simp only [Act.put, List.setIfInBounds_toArray, List.set_cons_zero, List.set_cons_succ, i64_w, i32_w]
              rfl
            refine pure_ (i := 10) (N := some 25) (v := undef) (a' := ?_) #[true, true, true, true, true, true, true, true, true, true, true, false, false, false, false, false, false, false] rfl rfl (by kernel_rfl) (fun _ _ _ h => h) (Or.inr ⟨by rfl, rfl⟩) ?_ ?_
            rotate_left
            · simp only [Act.put, List.setIfInBounds_toArray, List.set_cons_zero, List.set_cons_succ, i64_w, i32_w]
              rfl
            refine pure_ (i := 11) (N := some 26) (v := undef) (a' := ?_) #[true, true, true, true, true, true, true, true, true, true, true, true, false, false, false, false, false, false] rfl rfl (by kernel_rfl) (fun _ _ _ h => h) (Or.inr ⟨by rfl, rfl⟩) ?_ ?_
            rotate_left
            · simp only [Act.put, List.setIfInBounds_toArray, List.set_cons_zero, List.set_cons_succ, i64_w, i32_w]
              rfl
            refine pure_ (i := 12) (N := some 27) (v := undef) (a' := ?_) #[true, true, true, true, true, true, true, true, true, true, true, true, true, false, false, false, false, false] rfl rfl (by kernel_rfl) (fun _ _ _ h => h) (Or.inr ⟨by rfl, rfl⟩) ?_ ?_
            rotate_left
            · simp only [Act.put, List.setIfInBounds_toArray, List.set_cons_zero, List.set_cons_succ, i64_w, i32_w]
              rfl
            refine pure_ (i := 13) (N := some 28) (v := undef) (a' := ?_) #[true, true, true, true, true, true, true, true, true, true, true, true, true, true, false, false, false, false] rfl rfl (by kernel_rfl) (fun _ _ _ h => h) (Or.inr ⟨by rfl, rfl⟩) ?_ ?_
            rotate_left
            · simp only [Act.put, List.setIfInBounds_toArray, List.set_cons_zero, List.set_cons_succ, i64_w, i32_w]
              rfl
            refine pure_ (i := 14) (N := some 29) (v := undef) (a' := ?_) #[true, true, true, true, true, true, true, true, true, true, true, true, true, true, true, false, false, false] rfl rfl (by kernel_rfl) (fun _ _ _ h => h) (Or.inr ⟨by rfl, rfl⟩) ?_ ?_
            rotate_left
            · simp only [Act.put, List.setIfInBounds_toArray, List.set_cons_zero, List.set_cons_succ, i64_w, i32_w]
              rfl
            refine pure_ (i := 15) (N := some 30) (v := undef) (a' := ?_) #[true, true, true, true, true, true, true, true, true, true, true, true, true, true, true, true, false, false] rfl rfl (by kernel_rfl) (fun _ _ _ h => h) (Or.inr ⟨by rfl, rfl⟩) ?_ ?_
            rotate_left
            · simp only [Act.put, List.setIfInBounds_toArray, List.set_cons_zero, List.set_cons_succ, i64_w, i32_w]
              rfl
            refine pure_ (i := 16) (N := some 31) (v := ?_) (a' := ?_) #[true, true, true, true, true, true, true, true, true, true, true, true, true, true, true, true, true, false] rfl rfl (by kernel_rfl) (fun _ _ _ h => h) (Or.inl ⟨by rfl, ?_⟩) ?_ ?_
            rotate_left
            · intro w'
              go_simp
              with_reducible rfl
            rotate_left
            · simp only [Act.put, List.setIfInBounds_toArray, List.set_cons_zero, List.set_cons_succ, i64_w, i32_w]
              rfl
            refine pure_ (i := 17) (N := some 32) (v := ?_) (a' := ?_) #[true, true, true, true, true, true, true, true, true, true, true, true, true, true, true, true, true, true] rfl rfl (by kernel_rfl) (fun _ _ _ h => h) (Or.inl ⟨by rfl, ?_⟩) ?_ ?_
            rotate_left
            · intro w'
              go_simp
              with_reducible rfl
            rotate_left
            · simp only [Act.put, List.setIfInBounds_toArray, List.set_cons_zero, List.set_cons_succ, i64_w, i32_w]
              rfl
            refine done_ (by kernel_rfl) ?_
            go_wp2
            go_roundg k1
            case measure => have := HK.out; omega
            case rel => exact ⟨j + 1, by go_num, HI.out, ⟨by have := HK.out; omega⟩, ⟨HNX.out (by rw [HX.out]; exact HGD.out (by trivial)) (fun h1 => by omega)⟩, HB3⟩
          · have g0 : decide (0 < (j : Int)) = true := decide_eq_true (by omega)
            have g1 : decide (0 < j) = true := decide_eq_true (by omega)
            have w1 : wrap64 ((j : Int) - 1) = (j : Int) - 1 := by have := HBIG.out; exact w64 (by omega) (by omega)
            have hi3 : (1 : Int) ≤ (j : Int) := by omega
            have hi0 : 0 ≤ (j : Int) - 1 := by omega
            have hi1 : (j : Int) - 1 < (l.length : Int) := by omega
            have hi2 : ((j : Int) - 1).toNat = j - 1 := by omega
            obtain ⟨pn, hpn, hpc⟩ := HPP.out (by omega)
            have HP2 := Aside0.mk ((HBd.out.cell (World.block_lt_of_cell? wo _ hpc)).trans hpc)
            have HLS := Aside0.mk (show Op.bytesLess pn.toList x.f9.toList = true → Upto l (j + 1) from fun hb => HNX.out (by rw [HX.out]; exact HGD.out (by trivial)) (fun h1 => by rw [HX.out, ← hpn]; exact hb))
            obtain ⟨lb, hlb⟩ : ∃ lb, Op.bytesLess pn.toList x.f9.toList = lb := ⟨_, rfl⟩
            rw [hlb] at HLS
            clear hpn hpc
            refine start_ (n := 18) (S := fun w' => w'.cell? ⟨gf, 0, none⟩ = some (.int .i64 x.f0.f0) ∧ w'.cell? ⟨gf, 1, none⟩ = some (.int .i64 x.f0.f1) ∧ w'.cell? ⟨gf, 2, none⟩ = some (.int .i64 x.f1.f0) ∧ w'.cell? ⟨gf, 3, none⟩ = some (.int .i64 x.f1.f1) ∧ w'.cell? ⟨gf, 4, none⟩ = some (.int .u32 x.f2) ∧ w'.cell? ⟨gf, 5, none⟩ = some (.int .u32 x.f3) ∧ w'.cell? ⟨gf, 6, none⟩ = some (.int .u32 x.f4) ∧ w'.cell? ⟨gf, 7, none⟩ = some (.int .u32 x.f5) ∧ w'.cell? ⟨gf, 8, none⟩ = some (.int .u32 x.f6) ∧ w'.cell? ⟨gf, 9, none⟩ = some (.int .u32 x.f7) ∧ w'.cell? ⟨gf, 10, none⟩ = some (.string x.f8) ∧ w'.cell? ⟨gf, 11, none⟩ = some (.string x.f9) ∧ w'.cell? ⟨gf, 12, none⟩ = some (.int .i64 x.f10) ∧ w'.cell? ⟨gf, 13, none⟩ = some (.bool x.f11) ∧ w'.cell? ⟨gf, 14, none⟩ = some (.bool x.f12) ∧ w'.cell? ⟨(ad.add ((j - 1) * 15)).block, (ad.add ((j - 1) * 15)).off + 11, none⟩ = some (.string pn)) (ds := []) #[false, false, false, false, false, false, false, false, false, false, false, false, false, false, false, false, false, false] (by kernel_rfl) rfl rfl ⟨(blk_cell BF2.out 0).trans rfl, (blk_cell BF2.out 1).trans rfl, (blk_cell BF2.out 2).trans rfl, (blk_cell BF2.out 3).trans rfl, (blk_cell BF2.out 4).trans rfl, (blk_cell BF2.out 5).trans rfl, (blk_cell BF2.out 6).trans rfl, (blk_cell BF2.out 7).trans rfl, (blk_cell BF2.out 8).trans rfl, (blk_cell BF2.out 9).trans rfl, (blk_cell BF2.out 10).trans rfl, (blk_cell BF2.out 11).trans rfl, (blk_cell BF2.out 12).trans rfl, (blk_cell BF2.out 13).trans rfl, (blk_cell BF2.out 14).trans rfl, HP2.out⟩ (fun hHeld => ?_)
            refine take_ (i := 0) (N := some 15) (v := ?_) (a' := ?_) #[true, false, false, false, false, false, false, false, false, false, false, false, false, false, false, false, false, false] rfl rfl (by kernel_rfl) (fun _ _ _ h => h) (Or.inl ⟨by rfl, ?_⟩) hHeld ?_ ?_
            rotate_left
            · rintro w' ⟨s0, s1, s2, s3, s4, s5, s6, s7, s8, s9, s10, s11, s12, s13, s14, s15⟩
              go_simp
              with_reducible rfl
            rotate_left
            · simp only [Act.put, List.setIfInBounds_toArray, List.set_cons_zero, List.set_cons_succ, i64_w, i32_w]
              rfl
            refine one_ (i := 1) (N := some 16) #[true, true, false, false, false, false, false, false, false, false, false, false, false, false, false, false, false, false] rfl rfl (by kernel_rfl) (by decide) (fun K hK => ?_)
            refine goes_ Tryd.func50 (by kernel_rfl) rfl #[.agg #[.int .i64 x.f0.f0, .int .i64 x.f0.f1, .int .i64 x.f1.f0, .int .i64 x.f1.f1, .int .u32 x.f2, .int .u32 x.f3, .int .u32 x.f4, .int .u32 x.f5, .int .u32 x.f6, .int .u32 x.f7, .string x.f8, .string x.f9, .int .i64 x.f10, .bool x.f11, .bool x.f12]] (by rfl) rfl rfl (by simp only [List.map_toArray, List.map_cons, List.map_nil]; rfl) ?_
            with_reducible refine (spec_IsPlainFile.calls kp x.f0.f0 x.f0.f1 x.f1.f0 x.f1.f1 x.f2 x.f3 x.f4 x.f5 x.f6 x.f7 x.f8 x.f9 x.f10 x.f11 x.f12 true _ HPL.out).mono ?_
            rintro e w3 ⟨rfl, hb3⟩
            refine ⟨_, rfl, ?_⟩
            have BF3 := Aside0.mk ((hb3.block gf (blk_lt BF2.out)).trans BF2.out)
            have HP3 := Aside0.mk ((hb3.cell (World.block_lt_of_cell? _ _ HP2.out)).trans HP2.out)
            have HB3 := Aside0.mk (below_step HB2.out hb3)
            clear hb3
            refine hK.out _ _ ⟨(blk_cell BF3.out 0).trans rfl, (blk_cell BF3.out 1).trans rfl, (blk_cell BF3.out 2).trans rfl, (blk_cell BF3.out 3).trans rfl, (blk_cell BF3.out 4).trans rfl, (blk_cell BF3.out 5).trans rfl, (blk_cell BF3.out 6).trans rfl, (blk_cell BF3.out 7).trans rfl, (blk_cell BF3.out 8).trans rfl, (blk_cell BF3.out 9).trans rfl, (blk_cell BF3.out 10).trans rfl, (blk_cell BF3.out 11).trans rfl, (blk_cell BF3.out 12).trans rfl, (blk_cell BF3.out 13).trans rfl, (blk_cell BF3.out 14).trans rfl, HP3.out⟩ (fun hHeld => ?_)
            clear hK K
            refine norm_ (a' := ?_) ?_ ?_
            rotate_left
            · show Act.put _ (some 16) _ = _
              simp only [Act.put, List.setIfInBounds_toArray, List.set_cons_zero, List.set_cons_succ, i64_w, i32_w]
              rfl
            refine pure_ (i := 2) (N := some 17) (v := ?_) (a' := ?_) #[true, true, true, false, false, false, false, false, false, false, false, false, false, false, false, false, false, false] rfl rfl (by kernel_rfl) (fun _ _ _ h => h) (Or.inl ⟨by rfl, ?_⟩) ?_ ?_
            rotate_left
            · intro w'
              go_simp
              with_reducible rfl
            rotate_left
            · simp only [Act.put, List.setIfInBounds_toArray, List.set_cons_zero, List.set_cons_succ, i64_w, i32_w]
              rfl
            refine pure_ (i := 3) (N := some 18) (v := ?_) (a' := ?_) #[true, true, true, true, false, false, false, false, false, false, false, false, false, false, false, false, false, false] rfl rfl (by kernel_rfl) (fun _ _ _ h => h) (Or.inl ⟨by rfl, ?_⟩) ?_ ?_
            rotate_left
            · intro w'
              go_simp
              with_reducible rfl
            rotate_left
            · simp only [Act.put, List.setIfInBounds_toArray, List.set_cons_zero, List.set_cons_succ, i64_w, i32_w]
              rfl
            refine pure_ (i := 4) (N := some 19) (v := ?_) (a' := ?_) #[true, true, true, true, true, false, false, false, false, false, false, false, false, false, false, false, false, false] rfl rfl (by kernel_rfl) (fun _ _ _ h => h) (Or.inl ⟨by rfl, ?_⟩) ?_ ?_
            rotate_left
            · intro w'
              go_simp
              with_reducible rfl
            rotate_left
            · simp only [Act.put, List.setIfInBounds_toArray, List.set_cons_zero, List.set_cons_succ, i64_w, i32_w]
              rfl
            refine pure_ (i := 5) (N := some 20) (v := ?_) (a' := ?_) #[true, true, true, true, true, true, false, false, false, false, false, false, false, false, false, false, false, false] rfl rfl (by kernel_rfl) (fun _ _ _ h => h) (Or.inl ⟨by rfl, ?_⟩) ?_ ?_
            rotate_left
            · intro w'
              go_simp
              with_reducible rfl
            rotate_left
            · simp only [Act.put, List.setIfInBounds_toArray, List.set_cons_zero, List.set_cons_succ, i64_w, i32_w]
              rfl
            refine pure_ (i := 6) (N := some 21) (v := ?_) (a' := ?_) #[true, true, true, true, true, true, true, false, false, false, false, false, false, false, false, false, false, false] rfl rfl (by kernel_rfl) (fun _ _ _ h => h) (Or.inl ⟨by rfl, ?_⟩) ?_ ?_
            rotate_left
            · intro w'
              go_simp
              with_reducible rfl
            rotate_left
            · simp only [Act.put, List.setIfInBounds_toArray, List.set_cons_zero, List.set_cons_succ, i64_w, i32_w]
              rfl
            refine pure_ (i := 7) (N := some 22) (v := ?_) (a' := ?_) #[true, true, true, true, true, true, true, true, false, false, false, false, false, false, false, false, false, false] rfl rfl (by kernel_rfl) (fun _ _ _ h => h) (Or.inl ⟨by rfl, ?_⟩) ?_ ?_
            rotate_left
            · intro w'
              go_simp
              with_reducible rfl
            rotate_left
            · simp only [Act.put, List.setIfInBounds_toArray, List.set_cons_zero, List.set_cons_succ, i64_w, i32_w]
              rfl
            refine pure_ (i := 8) (N := some 23) (v := ?_) (a' := ?_) #[true, true, true, true, true, true, true, true, true, false, false, false, false, false, false, false, false, false] rfl rfl (by kernel_rfl) (fun _ _ _ h => h) (Or.inl ⟨by rfl, ?_⟩) ?_ ?_
            rotate_left
            · intro w'
              go_simp
              with_reducible rfl
            rotate_left
            · simp only [Act.put, List.setIfInBounds_toArray, List.set_cons_zero, List.set_cons_succ, i64_w, i32_w]
              rfl
            refine pure_ (i := 9) (N := some 24) (v := ?_) (a' := ?_) #[true, true, true, true, true, true, true, true, true, true, false, false, false, false, false, false, false, false] rfl rfl (by kernel_rfl) (fun _ _ _ h => h) (Or.inl ⟨by rfl, ?_⟩) ?_ ?_
            rotate_left
            · intro w'
              go_simp
              with_reducible rfl
            rotate_left
            · simp only [Act.put, List.setIfInBounds_toArray, List.set_cons_zero, List.set_cons_succ, i64_w, i32_w]
              rfl
            refine pure_ (i := 10) (N := some 25) (v := ?_) (a' := ?_) #[true, true, true, true, true, true, true, true, true, true, true, false, false, false, false, false, false, false] rfl rfl (by kernel_rfl) (fun _ _ _ h => h) (Or.inl ⟨by rfl, ?_⟩) ?_ ?_
            rotate_left
            · intro w'
              go_simp
              with_reducible rfl
            rotate_left
            · simp only [Act.put, List.setIfInBounds_toArray, List.set_cons_zero, List.set_cons_succ, i64_w, i32_w]
              rfl
            refine pure_ (i := 11) (N := some 26) (v := ?_) (a' := ?_) #[true, true, true, true, true, true, true, true, true, true, true, true, false, false, false, false, false, false] rfl rfl (by kernel_rfl) (fun _ _ _ h => h) (Or.inl ⟨by rfl, ?_⟩) ?_ ?_
            rotate_left
            · intro w'
              go_simp
              with_reducible rfl
            rotate_left
            · simp only [Act.put, List.setIfInBounds_toArray, List.set_cons_zero, List.set_cons_succ, i64_w, i32_w]
              rfl
            refine pure_ (i := 13) (N := some 28) (v := ?_) (a' := ?_) #[true, true, true, true, true, true, true, true, true, true, true, true, false, true, false, false, false, false] rfl rfl (by kernel_rfl) (fun _ _ _ h => h) (Or.inl ⟨by rfl, ?_⟩) ?_ ?_
            rotate_left
            · intro w'
              go_simp
              with_reducible rfl
            rotate_left
            · simp only [Act.put, List.setIfInBounds_toArray, List.set_cons_zero, List.set_cons_succ, i64_w, i32_w]
              rfl
            refine take_ (i := 12) (N := some 27) (v := ?_) (a' := ?_) #[true, true, true, true, true, true, true, true, true, true, true, true, true, true, false, false, false, false] rfl rfl (by kernel_rfl) (fun _ _ _ h => h) (Or.inl ⟨by rfl, ?_⟩) hHeld ?_ ?_
            rotate_left
            · rintro w' ⟨s0, s1, s2, s3, s4, s5, s6, s7, s8, s9, s10, s11, s12, s13, s14, s15⟩
              go_simp
              with_reducible rfl
            rotate_left
            · simp only [Act.put, List.setIfInBounds_toArray, List.set_cons_zero, List.set_cons_succ, i64_w, i32_w]
              rfl
            refine take_ (i := 14) (N := some 29) (v := ?_) (a' := ?_) #[true, true, true, true, true, true, true, true, true, true, true, true, true, true, true, false, false, false] rfl rfl (by kernel_rfl) (fun _ _ _ h => h) (Or.inl ⟨by rfl, ?_⟩) hHeld ?_ ?_
            rotate_left
            · rintro w' ⟨s0, s1, s2, s3, s4, s5, s6, s7, s8, s9, s10, s11, s12, s13, s14, s15⟩
              go_simp
              with_reducible rfl
            rotate_left
            · simp only [Act.put, List.setIfInBounds_toArray, List.set_cons_zero, List.set_cons_succ, i64_w, i32_w]
              rfl
            refine pure_ (i := 15) (N := some 30) (v := ?_) (a' := ?_) #[true, true, true, true, true, true, true, true, true, true, true, true, true, true, true, true, false, false] rfl rfl (by kernel_rfl) (fun _ _ _ h => h) (Or.inl ⟨by rfl, ?_⟩) ?_ ?_
            rotate_left
            · intro w'
              go_simp
              with_reducible rfl
            rotate_left
            · simp only [Act.put, List.setIfInBounds_toArray, List.set_cons_zero, List.set_cons_succ, i64_w, i32_w]
              rfl
            refine pure_ (i := 16) (N := some 31) (v := ?_) (a' := ?_) #[true, true, true, true, true, true, true, true, true, true, true, true, true, true, true, true, true, false] rfl rfl (by kernel_rfl) (fun _ _ _ h => h) (Or.inl ⟨by rfl, ?_⟩) ?_ ?_
            rotate_left
            · intro w'
              go_simp
              with_reducible rfl
            rotate_left
            · simp only [Act.put, List.setIfInBounds_toArray, List.set_cons_zero, List.set_cons_succ, i64_w, i32_w]
              rfl
            refine pure_ (i := 17) (N := some 32) (v := ?_) (a' := ?_) #[true, true, true, true, true, true, true, true, true, true, true, true, true, true, true, true, true, true] rfl rfl (by kernel_rfl) (fun _ _ _ h => h) (Or.inl ⟨by rfl, ?_⟩) ?_ ?_
            rotate_left
            · intro w'
              go_simp
              with_reducible rfl
            rotate_left
            · simp only [Act.put, List.setIfInBounds_toArray, List.set_cons_zero, List.set_cons_succ, i64_w, i32_w]
              rfl
            refine done_ (by kernel_rfl) ?_
            cases lb with
            | false =>
              go_wp2
              go_ret
              exact ⟨false, rfl, (fun h => by cases h), HB3.out⟩
            | true =>
              go_wp2
              have hbg := HBIG.out
              have hij := HI.out
              have w2 : wrap64 ((j : Int) + 1) = (j : Int) + 1 := w64 (by omega) (by omega)
              go_roundg k1
              case measure => have := HK.out; omega
              case rel => exact ⟨j + 1, by first | go_num | (rw [w2]; push_cast; rfl), HI.out, ⟨by have := HK.out; omega⟩, ⟨HLS.out (by trivial)⟩, HB3⟩
      · have c5b0 : decide ((j : Int) < (l.length : Int)) = false := decide_eq_false (by omega)
        obtain rfl : j = l.length := by omega
        go_wp2
        go_ret
        exact ⟨true, rfl, (fun _ => HU.out.files HBIG.out), HB.out⟩
end Go.Proofs.YtoofbppfbbhliaaDoor.idx
