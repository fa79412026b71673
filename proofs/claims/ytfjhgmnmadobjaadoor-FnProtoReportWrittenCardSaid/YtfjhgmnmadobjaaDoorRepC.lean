/- A report: impl.WriteReport. -/
import Derived.Test.YtfjhgmnmadobjaaDoorRepB
namespace Go.Proofs.YtfjhgmnmadobjaaDoor.rep
open Go.RowKit Go.Proofs.YtfjhgmnmadobjaaDoorW.PrintWords Go.Proofs.YtfjhgmnmadobjaaDoorW.PrintLast Go.Proofs.YtfjhgmnmadobjaaDoorW.PrintMore Go.Proofs.YtfjhgmnmadobjaaDoor.PFnProtoReportWritten Go.Proofs.YtfjhgmnmadobjaaDoor.pkt Go.Proofs.YtfjhgmnmadobjaaDoor.buf Go.Proofs.YtfjhgmnmadobjaaDoor.enc Go.Proofs.YtfjhgmnmadobjaaDoor.ptr
set_option linter.unusedVariables false
set_option linter.unusedSimpArgs false
set_option maxHeartbeats 2000000
set_option maxRecDepth 100000
theorem infoCS : (Tryd.prog.info? 60).map (fun i => (i.zero, i.size, i.bytes)) = some (some (.pointer none), 1, 8) := by kernel_rfl
theorem cs_room {n : Nat} (h : n ≤ 1000) : (n + 1) * 8 ≤ 140737488355328 := by omega
def rsCells (u : ByteArray) (v : Value) : Array Value := #[.string u, v]
theorem cs_M {x : S53} (w5 : World) (base : Nat) (hb : base ≤ w5.heap.size) :
    kCS.M (w5.alloc (.cells #[.string x.f0, .string x.f1] 63 (0, 0))) base (fun k => w5.heap.size ≤ k) x [.pointer (some ⟨w5.heap.size, 0, none⟩)] :=
  ⟨w5.heap.size, _, rfl, Nat.le_refl _, hb, blk_new w5 _, k53_mkM _ _ _ _⟩
theorem take_snoc {α : Type} {l : List α} {j : Nat} (h : j < l.length) : l.take (j + 1) = l.take j ++ [l[j]] := by rw [List.take_succ_eq_append_getElem h]
theorem newRs_any (w : World) : Calls Tryd.prog 22 #[] w fun e w' => ∃ gr, w.heap.size ≤ gr ∧ e = .returned (.pointer (some ⟨gr, 0, none⟩)) ∧ w'.heap[gr]? = some (.cells (rsCells ⟨#[]⟩ (.slice none 0 0)) 59 (0, 0)) ∧ Below w.heap.size w w' := by
  go_enter Tryd.func22, Tryd.ntmps22
  go_wp2
  go_ret
  exact ⟨w.heap.size, Nat.le_refl _, rfl, blk_new w _, below_alloc (Below.refl _ _) _⟩
theorem writeReport_any (w : World) (u : ByteArray) (A : Option Addr) (cc : Nat) (l : List S53) (ok : RepOk u l) (hC : Kd.C k53 w A l.length l) (hcc : l.length ≤ cc) :
    Calls Tryd.prog 13 #[.string u, .slice A l.length cc] w fun e w' => ∃ A' c', e = .returned (.tuple #[.slice A' (repL u l).length c', .bool true]) ∧ (repL u l).length ≤ c' ∧ (Kd.int .u8).C w' A' (repL u l).length (repL u l) ∧ Below w.heap.size w w' := by
  obtain ⟨PL, hPL⟩ : ∃ PL, repL u l = PL := ⟨_, rfl⟩
  rw [hPL]
  have HPL := Aside0.mk hPL
  have HC := Aside0.mk hC
  have HOK := Aside0.mk ok
  have hn := ok.n
  have hu53 := Tryd.underlying53
  clear ok hC hPL
  go_enter Tryd.func13, Tryd.ntmps13
  go_wp2_with fail
  refine (newRs_any _).mono ?_
  rintro e w1 ⟨gr, hgr, rfl, hbx, hb1⟩
  have BX := Aside0.mk hbx
  have HB1 := Aside0.mk hb1
  have GR := Aside0.mk hgr
  have z0 := (blk_cell hbx 0).trans (show _ = some (Value.string ⟨#[]⟩) from rfl)
  have f0 := blk_frozen hbx 0
  clear hgr hbx hb1
  go_wp2_with fail
  have BX0 := Aside0.mk (blk_put (cs := rsCells ⟨#[]⟩ (.slice none 0 0)) BX.out 0 (.string u) rfl)
  have HB0 := Aside0.mk (below_set (j := 0) (v := .string u) HB1.out GR.out)
  go_loopg [18] (l.length + 1) (fun kq v18 w' => ∃ (j : Nat) (v : Value), v18 = .int .i64 (j : Int) ∧ j ≤ l.length ∧ Aside0 (kq + j = l.length + 1) ∧ Aside0 (w'.heap[gr]? = some (.cells (rsCells u v) 59 (0, 0))) ∧ Aside0 (RC w' w.heap.size v (l.take j)) ∧ Aside0 (Below w.heap.size w w'))
  case atStart => exact ⟨0, .slice none 0 0, rfl, Nat.zero_le _, ⟨by omega⟩, ⟨BX0.out⟩, ⟨Kd.R_nil _ _ _ _ _⟩, ⟨HB0.out⟩⟩
  case round =>
    clear BX0 HB0 BX z0 f0
    obtain ⟨j, v, rfl, hj, HK, BX, HO, HB⟩ := hrel
    cases gk with
    | zero => exact absurd HK.out (by omega)
    | succ k1 =>
      obtain ⟨wo, hwo⟩ : ∃ wo : World, wo = wr := ⟨_, rfl⟩
      subst hwo
      by_cases hlt : j < l.length
      · have p150 : 0 ≤ (j : Int) := by omega
        have q150 : (j : Int) < (l.length : Int) := by omega
        have c5b0 : decide ((j : Int) < (l.length : Int)) = true := decide_eq_true q150
        have c5b1 : decide (j < l.length) = true := decide_eq_true hlt
        have w1 : wrap64 ((j : Int) + 1) = (j : Int) + 1 := w64 (by omega) (by omega)
        obtain ⟨ad, e0, y0, y1⟩ := at_T53 HC.out j p150 q150
        subst e0
        rw [rd_list l j hlt, Int.toNat_natCast] at y0 y1
        replace y0 := (HB.out.cell (World.block_lt_of_cell? w _ y0)).trans y0
        replace y1 := (HB.out.cell (World.block_lt_of_cell? w _ y1)).trans y1
        have HTu := Aside0.mk (take_snoc hlt)
        obtain ⟨x, hx⟩ : ∃ x, l[j] = x := ⟨_, rfl⟩
        rw [hx] at y0 y1 HTu
        obtain ⟨ys, hys⟩ : ∃ ys, l.take j = ys := ⟨_, rfl⟩
        have HYl := Aside0.mk (show ys.length ≤ 1000 by rw [← hys, List.length_take]; omega)
        rw [hys] at HO HTu
        obtain ⟨zs, hzs⟩ : ∃ zs, l.take (j + 1) = zs := ⟨_, rfl⟩
        rw [hzs] at HTu
        have HZ := Aside0.mk hzs
        clear hzs
        obtain ⟨Av, cv, ev'⟩ := Kd.R_slice HO.out
        subst ev'
        have HI := Aside0.mk hlt
        clear hx hys
        go_wp2_with (first | ((with_reducible refine gate_dst (N := 8) rfl ?_); refine box_event ?hg (N := 8) ?hd (cs := #[.string (⟨#[]⟩ : ByteArray), .string (⟨#[]⟩ : ByteArray)]) (t := 53) ?hr ?_; (case hd => rfl); (case hg => rfl); (case hr => first | (go_simp; done) | (go_simp; rfl)); intro gs hgs wa hbox hb; have BFa := Aside0.mk hbox; have HBa := Aside0.mk (show Below wo.heap.size wo wa from hb); have GF := Aside0.mk (show wo.heap.size ≤ gs by rw [hgs]; exact Nat.le_refl _); have z0 := (blk_cell hbox 0).trans (show _ = some (Value.string ⟨#[]⟩) from rfl); have z1 := (blk_cell hbox 1).trans (show _ = some (Value.string ⟨#[]⟩) from rfl); have f0 := blk_frozen hbox 0; have f1 := blk_frozen hbox 1; replace y0 := (hb.cell (World.block_lt_of_cell? wo _ y0)).trans y0; replace y1 := (hb.cell (World.block_lt_of_cell? wo _ y1)).trans y1; clear hbox hb hgs) | fail)
        have BF1 := Aside0.mk (blk_put (cs := #[.string x.f0, .string (⟨#[]⟩ : ByteArray)]) (blk_put (cs := #[.string (⟨#[]⟩ : ByteArray), .string (⟨#[]⟩ : ByteArray)]) BFa.out 0 (.string x.f0) rfl) 1 (.string x.f1) rfl)
        have HBe := Aside0.mk (below_set (j := 1) (v := .string x.f1) (below_set (j := 0) (v := .string x.f0) HBa.out GF.out) GF.out)
        generalize hW : World.setCell (World.setCell _ _ _) _ _ = W2
        have HBd := Aside0.mk (show Below wo.heap.size wo W2.drew by rw [← hW]; exact below_drew HBe.out)
        have BF2 := Aside0.mk (show W2.drew.heap[gs]? = some (.cells #[.string x.f0, .string x.f1] 53 (0, 0)) by rw [← hW]; exact BF1.out)
        have BX2 := Aside0.mk ((HBd.out.block gr (blk_lt BX.out)).trans BX.out)
        have HO2 := Aside0.mk (Kd.R_below HO.out HBd.out)
        have HB2 := Aside0.mk (below_step HB.out HBd.out)
        have HHH := Aside0.mk (show ∀ W : World, Value.slice (some ⟨W.heap.size + 1, 0, none⟩) 1 1 = Value.slice (some ⟨(W.alloc (.cells #[.string x.f0, .string x.f1] 63 (0, 0))).heap.size, 0, none⟩) 1 1 from fun W => by simp)
        clear hW y0 y1 BF1 HBe BFa HBa z0 z1 f0 f1
        refine start_ (n := 16) (S := fun w' => w'.cell? ⟨gr, 1, none⟩ = some (.slice Av ys.length cv) ∧ w'.cell? ⟨gs, 0, none⟩ = some (.string x.f0) ∧ w'.cell? ⟨gs, 1, none⟩ = some (.string x.f1)) (ds := [12, 15]) #[false, false, false, false, false, false, false, false, false, false, false, false, false, false, false, false] (by kernel_rfl) rfl rfl ⟨(blk_cell BX2.out 1).trans rfl, (blk_cell BF2.out 0).trans rfl, (blk_cell BF2.out 1).trans rfl⟩ (fun hHeld => ?_)
        refine pure_ (i := 0) (N := some 22) (v := ?_) (a' := ?_) #[true, false, false, false, false, false, false, false, false, false, false, false, false, false, false, false] rfl rfl (by kernel_rfl) (fun _ _ _ h => h) (Or.inl ⟨by rfl, ?_⟩) ?_ ?_
        rotate_left
        · intro w'
          go_simp
          with_reducible rfl
        rotate_left
        · simp only [Act.put, List.setIfInBounds_toArray, List.set_cons_zero, List.set_cons_succ, i64_w, i32_w]
          rfl
        refine pure_ (i := 1) (N := some 23) (v := ?_) (a' := ?_) #[true, true, false, false, false, false, false, false, false, false, false, false, false, false, false, false] rfl rfl (by kernel_rfl) (fun _ _ _ h => h) (Or.inl ⟨by rfl, ?_⟩) ?_ ?_
        rotate_left
        · intro w'
          go_simp
          with_reducible rfl
        rotate_left
        · simp only [Act.put, List.setIfInBounds_toArray, List.set_cons_zero, List.set_cons_succ, i64_w, i32_w]
          rfl
        refine pure_ (i := 2) (N := some 24) (v := ?_) (a' := ?_) #[true, true, true, false, false, false, false, false, false, false, false, false, false, false, false, false] rfl rfl (by kernel_rfl) (fun _ _ _ h => h) (Or.inl ⟨by rfl, ?_⟩) ?_ ?_
        rotate_left
        · intro w'
          go_simp
          with_reducible rfl
        rotate_left
        · simp only [Act.put, List.setIfInBounds_toArray, List.set_cons_zero, List.set_cons_succ, i64_w, i32_w]
          rfl
        refine pure_ (i := 3) (N := some 25) (v := ?_) (a' := ?_) #[true, true, true, true, false, false, false, false, false, false, false, false, false, false, false, false] rfl rfl (by kernel_rfl) (fun _ _ _ h => h) (Or.inl ⟨by rfl, ?_⟩) ?_ ?_
        rotate_left
        · intro w'
          go_simp
          with_reducible rfl
        rotate_left
        · simp only [Act.put, List.setIfInBounds_toArray, List.set_cons_zero, List.set_cons_succ, i64_w, i32_w]
          rfl
        refine pure_ (i := 5) (N := some 27) (v := ?_) (a' := ?_) #[true, true, true, true, false, true, false, false, false, false, false, false, false, false, false, false] rfl rfl (by kernel_rfl) (fun _ _ _ h => h) (Or.inl ⟨by rfl, ?_⟩) ?_ ?_
        rotate_left
        · intro w'
          go_simp
          with_reducible rfl
        rotate_left
        · simp only [Act.put, List.setIfInBounds_toArray, List.set_cons_zero, List.set_cons_succ, i64_w, i32_w]
          rfl
        refine pure_ (i := 7) (N := some 29) (v := ?_) (a' := ?_) #[true, true, true, true, false, true, false, true, false, false, false, false, false, false, false, false] rfl rfl (by kernel_rfl) (fun _ _ _ h => h) (Or.inl ⟨by rfl, ?_⟩) ?_ ?_
        rotate_left
        · intro w'
          go_simp
          with_reducible rfl
        rotate_left
        · simp only [Act.put, List.setIfInBounds_toArray, List.set_cons_zero, List.set_cons_succ, i64_w, i32_w]
          rfl
        refine take_ (i := 4) (N := some 26) (v := ?_) (a' := ?_) #[true, true, true, true, true, true, false, true, false, false, false, false, false, false, false, false] rfl rfl (by kernel_rfl) (fun _ _ _ h => h) (Or.inl ⟨by rfl, ?_⟩) hHeld ?_ ?_
        rotate_left
        · rintro w' ⟨s0, s1, s2⟩
          go_simp
          with_reducible rfl
        rotate_left
        · simp only [Act.put, List.setIfInBounds_toArray, List.set_cons_zero, List.set_cons_succ, i64_w, i32_w]
          rfl
        refine take_ (i := 6) (N := some 28) (v := ?_) (a' := ?_) #[true, true, true, true, true, true, true, true, false, false, false, false, false, false, false, false] rfl rfl (by kernel_rfl) (fun _ _ _ h => h) (Or.inl ⟨by rfl, ?_⟩) hHeld ?_ ?_
        rotate_left
        · rintro w' ⟨s0, s1, s2⟩
          go_simp
          with_reducible rfl
        rotate_left
        · simp only [Act.put, List.setIfInBounds_toArray, List.set_cons_zero, List.set_cons_succ, i64_w, i32_w]
          rfl
        refine take_ (i := 8) (N := some 30) (v := ?_) (a' := ?_) #[true, true, true, true, true, true, true, true, true, false, false, false, false, false, false, false] rfl rfl (by kernel_rfl) (fun _ _ _ h => h) (Or.inl ⟨by rfl, ?_⟩) hHeld ?_ ?_
        rotate_left
        · rintro w' ⟨s0, s1, s2⟩
          go_simp
          with_reducible rfl
        rotate_left
        · simp only [Act.put, List.setIfInBounds_toArray, List.set_cons_zero, List.set_cons_succ, i64_w, i32_w]
          rfl
        refine pure_ (i := 9) (N := some 31) (v := ?_) (a' := ?_) #[true, true, true, true, true, true, true, true, true, true, false, false, false, false, false, false] rfl rfl (by kernel_rfl) (fun _ _ _ h => h) (Or.inl ⟨by rfl, ?_⟩) ?_ ?_
        rotate_left
        · intro w'
          go_simp
          with_reducible rfl
        rotate_left
        · simp only [Act.put, List.setIfInBounds_toArray, List.set_cons_zero, List.set_cons_succ, i64_w, i32_w]
          rfl
        refine one_ (i := 10) (N := some 32) #[true, true, true, true, true, true, true, true, true, true, true, false, false, false, false, false] rfl rfl (by kernel_rfl) (by decide) (fun K hK => ?_)
        refine value_ (w1 := ?_) (v := ?_) (by rfl) rfl ?_ ?_
        rotate_left 2
        · go_simp
          constructor
          · rfl
          · rfl
        have BX6 := Aside0.mk (blk_alloc BX2.out (.cells #[.string x.f0, .string x.f1] 63 (0, 0)))
        have BF6 := Aside0.mk (blk_alloc BF2.out (.cells #[.string x.f0, .string x.f1] 63 (0, 0)))
        refine hK.out _ _ ⟨(blk_cell BX6.out 1).trans rfl, (blk_cell BF6.out 0).trans rfl, (blk_cell BF6.out 1).trans rfl⟩ (fun hHeld => ?_)
        clear hK K
        refine norm_ (a' := ?_) ?_ ?_
        rotate_left
        · show Act.put _ (some 32) _ = _
          simp only [Act.put, List.setIfInBounds_toArray, List.set_cons_zero, List.set_cons_succ, i64_w, i32_w]
          rfl
        refine one_ (i := 11) (N := some 33) #[true, true, true, true, true, true, true, true, true, true, true, true, false, false, false, false] rfl rfl (by kernel_rfl) (by decide) (fun K hK => ?_)
        refine value_ (w1 := ?_) (v := ?_) (by rfl) rfl ?_ ?_
        rotate_left 2
        · go_simp
          constructor
          · rfl
          · rfl
        have HM6 := Aside0.mk (cs_M (x := x) W2.drew w.heap.size HB2.out.size)
        refine hK.out _ _ ⟨(blk_cell (blk_alloc BX6.out _) 1).trans rfl, (blk_cell (blk_alloc BF6.out _) 0).trans rfl, (blk_cell (blk_alloc BF6.out _) 1).trans rfl⟩ (fun hHeld => ?_)
        clear hK K
        refine norm_ (a' := ?_) ?_ ?_
        rotate_left
        · show Act.put _ (some 33) _ = _
          simp only [Act.put, List.setIfInBounds_toArray, List.set_cons_zero, List.set_cons_succ, i64_w, i32_w]
          rfl
        refine last_ (i := 12) (N := some 34) #[true, true, true, true, true, true, true, true, true, true, true, true, true, false, false, false] rfl rfl (by kernel_rfl) (by decide) (fun K hK => ?_)
        refine append_E kCS (w0 := w) (W := W2.drew.alloc (.cells #[.string x.f0, .string x.f1] 63 (0, 0))) w.heap.size rfl (.tmp 26) (.tmp 33) 57 60 (.pointer none) 8 rfl Tryd.underlying57 infoCS rfl (by decide) (by omega) (.slice Av ys.length cv) ys x [.pointer (some ⟨W2.drew.heap.size, 0, none⟩)] (fun _ => True) (fun k => W2.drew.heap.size ≤ k) rfl (HHH.out W2.drew) HM6.out (fun k hk => ⟨trivial, Kd.fresh' (Kd.R_lt HO2.out) k hk⟩) (fun _ _ => trivial) (Kd.R_alloc HO2.out _) (below_alloc HB2.out _) (below_size (below_alloc HB2.out _)) (cs_room HYl.out) ?_
        intro v7 w7 ho hb hg hat
        rw [← HTu.out] at ho
        obtain ⟨A7, c7, e7⟩ := Kd.R_slice ho
        subst e7
        have HO7 := Aside0.mk ho
        have HB7 := Aside0.mk hb
        have BX7 := Aside0.mk (blk_grown BX6.out hg (Kd.R_ne (Kd.R_alloc HO2.out (.cells #[.string x.f0, .string x.f1] 63 (0, 0))) BX6.out (by decide)))
        clear ho hb hg hat
        have m1 : w7.cell? ⟨gr, 1, none⟩ = some (.slice Av ys.length cv) := (blk_cell BX7.out 1).trans rfl
        have mf := blk_frozen BX7.out 1
        refine hK.out _ _ ?_
        clear hK K
        refine norm_ (a' := ?_) ?_ ?_
        rotate_left
        · show Act.put _ (some 34) _ = _
          simp only [Act.put, List.setIfInBounds_toArray, List.set_cons_zero, List.set_cons_succ, i64_w, i32_w]
          rfl
        refine pure_ (i := 13) (N := some 35) (v := ?_) (a' := ?_) #[true, true, true, true, true, true, true, true, true, true, true, true, true, true, false, false] rfl rfl (by kernel_rfl) (fun _ _ _ h => h) (Or.inl ⟨by rfl, ?_⟩) ?_ ?_
        rotate_left
        · intro w'
          go_simp
          with_reducible rfl
        rotate_left
        · simp only [Act.put, List.setIfInBounds_toArray, List.set_cons_zero, List.set_cons_succ, i64_w, i32_w]
          rfl
        refine pure_ (i := 14) (N := some 36) (v := ?_) (a' := ?_) #[true, true, true, true, true, true, true, true, true, true, true, true, true, true, true, false] rfl rfl (by kernel_rfl) (fun _ _ _ h => h) (Or.inl ⟨by rfl, ?_⟩) ?_ ?_
        rotate_left
        · intro w'
          go_simp
          with_reducible rfl
        rotate_left
        · simp only [Act.put, List.setIfInBounds_toArray, List.set_cons_zero, List.set_cons_succ, i64_w, i32_w]
          rfl
        refine last_ (i := 15) (N := none) #[true, true, true, true, true, true, true, true, true, true, true, true, true, true, true, true] rfl rfl (by kernel_rfl) (by decide) (fun K hK => ?_)
        refine skip_ (w1 := ?_) (by rfl) rfl ?_ ?_
        rotate_left
        · go_simp
          rfl
        refine hK.out _ _ ?_
        clear hK K
        refine done_ (by kernel_rfl) ?_
        go_wp2
        go_roundg k1
        case measure => have := HK.out; omega
        case rel => exact ⟨j + 1, .slice A7 zs.length c7, by go_num, HI.out, ⟨by have := HK.out; omega⟩, ⟨blk_put (cs := rsCells u (.slice Av ys.length cv)) BX7.out 1 _ rfl⟩, ⟨by rw [HZ.out]; exact Kd.R_set HO7.out BX7.out (fun q hq => (tys hq).2.2.1) 1 _⟩, ⟨below_set HB7.out GR.out⟩⟩
      · have c5b0 : decide ((j : Int) < (l.length : Int)) = false := decide_eq_false (by omega)
        have c5b1 : decide (j < l.length) = false := decide_eq_false hlt
        have HTk := Aside0.mk (show l.take j = l from List.take_of_length_le (by omega))
        rw [HTk.out] at HO
        go_wp2_with (first | ((with_reducible refine gate_dst (N := 9) rfl ?_); refine box_event ?hg (N := 9) ?hd (cs := #[.slice none 0 0, .int .i64 0, .int .i8 0]) (t := 45) ?hr ?_; (case hd => rfl); (case hg => rfl); (case hr => first | (go_simp; done) | (go_simp; rfl)); intro gb hgb wb hbox hb; have HBb := Aside0.mk (below_step HB.out (show Below wo.heap.size wo wb from hb)); have BXb := Aside0.mk (show wb.heap[gr]? = some (.cells #[.string u, v] 59 (0, 0)) from blk_below BX.out hb); have HOb := Aside0.mk (Kd.R_below HO.out hb); have HIB := Aside0.mk (show IsB w.heap.size gb (bv []) wb from ⟨by rw [hgb]; exact HB.out.size, .slice none 0 0, 0, hbox, World.ownsRow_nil _ _ _ _, by simp [Value.ownBlock]⟩); clear hbox hb hgb) | fail)
        refine (rsEncode_any wb w.heap.size gb gr u v l HOK.out HIB.out HBb.out.size BXb.out HOb.out).mono ?_
        rintro e w6 ⟨rfl, hq⟩
        rw [HPL.out] at hq
        have HI6 := Aside0.mk hq.isB
        have HB6 := Aside0.mk (HBb.out.trans hq.below)
        clear hq
        go_wp2_with fail
        go_region_with (go_at_call 18; refine (Tryd.Buffer_Bytes w.heap.size gb (bv ([] ++ PL)) _ (by exact HI6.out)).mono ?_; rintro e w7 ⟨v, rfl, hown, ⟨n7, rfl⟩⟩; rw [List.nil_append, bv_length] at hown; obtain ⟨A7, c7, e7, hc7, hC7⟩ := Kd.R_reads (Kd.R_of_own (enc := Value.int .u8) (h1 := fun _ => rfl) (xs := PL) (ok := fun _ => True) hown (fun _ _ => trivial)); subst e7; have Q7 := Aside0.mk (And.intro hc7 hC7); clear hown hc7 hC7)
        all_goals go_wp2_with fail
        all_goals go_ret2
        all_goals exact ⟨A7, c7, rfl, Q7.out.1, Q7.out.2, by first | exact pw_below_drewN HB6.out _ | exact pw_below_drewN (below_drew HB6.out) _ | exact below_drew (pw_below_drewN HB6.out _) | exact ⟨HB6.out.os, HB6.out.tape, HB6.out.output, HB6.out.size, HB6.out.block⟩⟩
end Go.Proofs.YtfjhgmnmadobjaaDoor.rep
