/- config: the sections of a configuration, told again. -/
import Derived.Test.YtoofbppfbbhliaaDoorPutI
namespace Go.Proofs.YtoofbppfbbhliaaDoor.confP
open Go.RowKit Go.Proofs.YtoofbppfbbhliaaDoorW.PrintWords Go.Proofs.YtoofbppfbbhliaaDoorW.PrintLast Go.Proofs.YtoofbppfbbhliaaDoorW.PrintMore Go.Proofs.YtoofbppfbbhliaaDoor.PFnConfAdd Go.Proofs.YtoofbppfbbhliaaDoor.ptr
set_option linter.unusedVariables false
set_option linter.unusedSimpArgs false
set_option maxHeartbeats 2000000
set_option maxRecDepth 100000
theorem infoOpt : (Tryd.prog.info? 112).map (fun i => (i.zero, i.size, i.bytes)) = some (some (.agg #[.string ⟨#[]⟩, .string ⟨#[]⟩]), 2, 32) := by kernel_rfl
theorem infoSub : (Tryd.prog.info? 115).map (fun i => (i.zero, i.size, i.bytes)) = some (some (.agg #[.string ⟨#[]⟩, .slice none 0 0]), 2, 40) := by kernel_rfl
theorem infoSec : (Tryd.prog.info? 71).map (fun i => (i.zero, i.size, i.bytes)) = some (some (.agg #[.string ⟨#[]⟩, .slice none 0 0, .slice none 0 0]), 3, 64) := by kernel_rfl
theorem opt_room {n : Nat} (h : n ≤ 4294967295) : (n + 1) * 32 ≤ 140737488355328 := by omega
theorem usub_room {n : Nat} (h : n ≤ 4294967295) : (n + 1) * 40 ≤ 140737488355328 := by omega
theorem usec_room {n : Nat} (h : n ≤ 4294967295) : (n + 1) * 64 ≤ 140737488355328 := by omega
theorem plainOptions_any (A0 : Option Addr) (c0 : Nat) (l : List S112) (w : World) (hr0 : Kd.C kO w A0 l.length l) (hc0 : l.length ≤ c0) (hll : l.length ≤ 4294967295) :
    Calls Tryd.prog 97 #[.slice A0 l.length c0] w fun e w' => ∃ v, e = .returned v ∧ Kd.R k112 112 w' w.heap.size (fun _ => True) v l ∧ Below w.heap.size w w' := by
  have HR0 := Aside0.mk hr0
  have HB0 := Aside0.mk (Below.refl w.heap.size w)
  clear hr0
  go_enter Tryd.func97, Tryd.ntmps97
  go_wp2
  go_loopg [3, 8] (l.length + 1) (fun kq v3 v8 w' => ∃ (j : Nat), v8 = .int .i64 (j : Int) ∧ j ≤ l.length ∧ Aside0 (kq + j = l.length + 1) ∧ Aside0 (Kd.R k112 112 w' w.heap.size (fun _ => True) v3 (l.take j)) ∧ Aside0 (Below w.heap.size w w'))
  case atStart => exact ⟨0, rfl, Nat.zero_le _, ⟨by omega⟩, ⟨Kd.R_nil _ _ _ _ _⟩, HB0⟩
  case round =>
    clear HB0
    obtain ⟨j, rfl, hj, HK, HO, HB⟩ := hrel
    cases gk with
    | zero => exact absurd HK.out (by omega)
    | succ k1 =>
      by_cases hlt : j < l.length
      · have p150 : 0 ≤ (j : Int) := by omega
        have q150 : (j : Int) < (l.length : Int) := by omega
        have c5b0 : decide ((j : Int) < (l.length : Int)) = true := decide_eq_true q150
        obtain ⟨ad, g, arr, e0, hc, hg, hK⟩ := at_ptr HR0.out j hlt
        subst e0
        have hgo := opt_cells hK hg
        replace hc := (HB.out.cell (World.block_lt_of_cell? w _ hc)).trans hc
        replace hgo := (HB.out.block g (blk_lt hgo)).trans hgo
        obtain ⟨x, hx⟩ : ∃ x, l[j] = x := ⟨_, rfl⟩
        have HT := Aside0.mk (take_snoc hlt)
        have HTl := Aside0.mk (show (l.take j).length ≤ 4294967295 by rw [List.length_take]; omega)
        rw [hx] at hgo HT
        obtain ⟨zs, hzs⟩ : ∃ zs, l.take (j + 1) = zs := ⟨_, rfl⟩
        rw [hzs] at HT
        have HZ := Aside0.mk hzs
        have h0 : wr.cell? ⟨g, 0, none⟩ = some (.string x.f0) := (blk_cell hgo 0).trans rfl
        have h1 : wr.cell? ⟨g, 1, none⟩ = some (.string x.f1) := (blk_cell hgo 1).trans rfl
        have HI := Aside0.mk hlt
        clear hg hK hx hzs
        obtain ⟨ys, hys⟩ : ∃ ys, l.take j = ys := ⟨_, rfl⟩
        rw [hys] at HO HT HTl
        obtain ⟨A3, c3, e3⟩ := Kd.R_slice HO.out
        subst e3
        clear hys
        go_wp2_with fail
        refine start_ (n := 13) (S := fun w' => w'.cell? ⟨g, 0, none⟩ = some (.string x.f0) ∧ w'.cell? ⟨g, 1, none⟩ = some (.string x.f1)) (ds := []) #[false, false, false, false, false, false, false, false, false, false, false, false, false] (by kernel_rfl) rfl rfl ⟨h0, h1⟩ (fun hHeld => ?_)
        refine pure_ (i := 0) (N := some 12) (v := ?_) (a' := ?_) #[true, false, false, false, false, false, false, false, false, false, false, false, false] rfl rfl (by kernel_rfl) (fun _ _ _ h => h) (Or.inl ⟨by rfl, ?_⟩) ?_ ?_
        rotate_left
        · intro w'
          go_simp
          with_reducible rfl
        rotate_left
        · simp only [Act.put, List.setIfInBounds_toArray, List.set_cons_zero, List.set_cons_succ, i64_w, i32_w]
          rfl
        refine pure_ (i := 1) (N := some 13) (v := ?_) (a' := ?_) #[true, true, false, false, false, false, false, false, false, false, false, false, false] rfl rfl (by kernel_rfl) (fun _ _ _ h => h) (Or.inl ⟨by rfl, ?_⟩) ?_ ?_
        rotate_left
        · intro w'
          go_simp
          with_reducible rfl
        rotate_left
        · simp only [Act.put, List.setIfInBounds_toArray, List.set_cons_zero, List.set_cons_succ, i64_w, i32_w]
          rfl
        refine pure_ (i := 2) (N := some 14) (v := ?_) (a' := ?_) #[true, true, true, false, false, false, false, false, false, false, false, false, false] rfl rfl (by kernel_rfl) (fun _ _ _ h => h) (Or.inl ⟨by rfl, ?_⟩) ?_ ?_
        rotate_left
        · intro w'
          go_simp
          with_reducible rfl
        rotate_left
        · simp only [Act.put, List.setIfInBounds_toArray, List.set_cons_zero, List.set_cons_succ, i64_w, i32_w]
          rfl
        refine pure_ (i := 3) (N := some 15) (v := ?_) (a' := ?_) #[true, true, true, true, false, false, false, false, false, false, false, false, false] rfl rfl (by kernel_rfl) (fun _ _ _ h => h) (Or.inl ⟨by rfl, ?_⟩) ?_ ?_
        rotate_left
        · intro w'
          go_simp
          with_reducible rfl
        rotate_left
        · simp only [Act.put, List.setIfInBounds_toArray, List.set_cons_zero, List.set_cons_succ, i64_w, i32_w]
          rfl
        refine pure_ (i := 5) (N := some 17) (v := ?_) (a' := ?_) #[true, true, true, true, false, true, false, false, false, false, false, false, false] rfl rfl (by kernel_rfl) (fun _ _ _ h => h) (Or.inl ⟨by rfl, ?_⟩) ?_ ?_
        rotate_left
        · intro w'
          go_simp
          with_reducible rfl
        rotate_left
        · simp only [Act.put, List.setIfInBounds_toArray, List.set_cons_zero, List.set_cons_succ, i64_w, i32_w]
          rfl
        refine pure_ (i := 6) (N := some 18) (v := ?_) (a' := ?_) #[true, true, true, true, false, true, true, false, false, false, false, false, false] rfl rfl (by kernel_rfl) (fun _ _ _ h => h) (Or.inl ⟨by rfl, ?_⟩) ?_ ?_
        rotate_left
        · intro w'
          go_simp
          with_reducible rfl
        rotate_left
        · simp only [Act.put, List.setIfInBounds_toArray, List.set_cons_zero, List.set_cons_succ, i64_w, i32_w]
          rfl
        refine pure_ (i := 7) (N := some 19) (v := ?_) (a' := ?_) #[true, true, true, true, false, true, true, true, false, false, false, false, false] rfl rfl (by kernel_rfl) (fun _ _ _ h => h) (Or.inl ⟨by rfl, ?_⟩) ?_ ?_
        rotate_left
        · intro w'
          go_simp
          with_reducible rfl
        rotate_left
        · simp only [Act.put, List.setIfInBounds_toArray, List.set_cons_zero, List.set_cons_succ, i64_w, i32_w]
          rfl
        refine take_ (i := 4) (N := some 16) (v := ?_) (a' := ?_) #[true, true, true, true, true, true, true, true, false, false, false, false, false] rfl rfl (by kernel_rfl) (fun _ _ _ h => h) (Or.inl ⟨by rfl, ?_⟩) hHeld ?_ ?_
        rotate_left
        · rintro w' ⟨s0, s1⟩
          go_simp
          with_reducible rfl
        rotate_left
        · simp only [Act.put, List.setIfInBounds_toArray, List.set_cons_zero, List.set_cons_succ, i64_w, i32_w]
          rfl
        refine take_ (i := 8) (N := some 20) (v := ?_) (a' := ?_) #[true, true, true, true, true, true, true, true, true, false, false, false, false] rfl rfl (by kernel_rfl) (fun _ _ _ h => h) (Or.inl ⟨by rfl, ?_⟩) hHeld ?_ ?_
        rotate_left
        · rintro w' ⟨s0, s1⟩
          go_simp
          with_reducible rfl
        rotate_left
        · simp only [Act.put, List.setIfInBounds_toArray, List.set_cons_zero, List.set_cons_succ, i64_w, i32_w]
          rfl
        refine pure_ (i := 9) (N := some 21) (v := ?_) (a' := ?_) #[true, true, true, true, true, true, true, true, true, true, false, false, false] rfl rfl (by kernel_rfl) (fun _ _ _ h => h) (Or.inl ⟨by rfl, ?_⟩) ?_ ?_
        rotate_left
        · intro w'
          go_simp
          with_reducible rfl
        rotate_left
        · simp only [Act.put, List.setIfInBounds_toArray, List.set_cons_zero, List.set_cons_succ, i64_w, i32_w]
          rfl
        refine one_ (i := 10) (N := some 22) #[true, true, true, true, true, true, true, true, true, true, true, false, false] rfl rfl (by kernel_rfl) (by decide) (fun K hK => ?_)
        refine value_ (w1 := ?_) (v := ?_) (by rfl) rfl ?_ ?_
        rotate_left 2
        · go_simp
          constructor
          · rfl
          · rfl
        refine hK.out _ _ ⟨(blk_cell (blk_alloc (show wr.drew.heap[g]? = _ from hgo) _) 0).trans rfl, (blk_cell (blk_alloc (show wr.drew.heap[g]? = _ from hgo) _) 1).trans rfl⟩ (fun hHeld => ?_)
        clear hK K
        refine norm_ (a' := ?_) ?_ ?_
        rotate_left
        · show Act.put _ (some 22) _ = _
          simp only [Act.put, List.setIfInBounds_toArray, List.set_cons_zero, List.set_cons_succ, i64_w, i32_w]
          rfl
        refine one_ (i := 11) (N := some 23) #[true, true, true, true, true, true, true, true, true, true, true, true, false] rfl rfl (by kernel_rfl) (by decide) (fun K hK => ?_)
        refine append_E k112 (w0 := w) (W := wr.drew) w.heap.size rfl (.tmp 12) (.tmp 22) 66 112 (.agg #[.string ⟨#[]⟩, .string ⟨#[]⟩]) 32 rfl Tryd.underlying66 infoOpt rfl (by decide) (by omega) (.slice A3 ys.length c3) ys x [.string x.f0, .string x.f1] (fun _ => True) (fun _ => False) rfl rfl (k112_mkM _ _ _ x) (fun _ h => h.elim) (fun _ _ => trivial) (Kd.R_drew HO.out) (below_drew HB.out) (below_size (below_drew HB.out)) (opt_room HTl.out) ?_
        intro v6 w6 ho hb hg hat
        rw [← HT.out] at ho
        obtain ⟨A6, c6, e6⟩ := Kd.R_slice ho
        subst e6
        have HO6 := Aside0.mk ho
        have HB6 := Aside0.mk hb
        have hg6 : w6.heap[g]? = some (.cells #[.string x.f0, .string x.f1] 195 (0, 0)) := blk_grown (w := wr.drew) hgo hg (Kd.R_ne (Kd.R_drew HO.out) (show wr.drew.heap[g]? = _ from hgo) (by decide))
        clear ho hb hg hat
        refine hK.out _ _ ⟨(blk_cell hg6 0).trans rfl, (blk_cell hg6 1).trans rfl⟩ (fun hHeld => ?_)
        clear hK K
        refine norm_ (a' := ?_) ?_ ?_
        rotate_left
        · show Act.put _ (some 23) _ = _
          simp only [Act.put, List.setIfInBounds_toArray, List.set_cons_zero, List.set_cons_succ, i64_w, i32_w]
          rfl
        refine pure_ (i := 12) (N := some 3) (v := ?_) (a' := ?_) #[true, true, true, true, true, true, true, true, true, true, true, true, true] rfl rfl (by kernel_rfl) (fun _ _ _ h => h) (Or.inl ⟨by rfl, ?_⟩) ?_ ?_
        rotate_left
        · intro w'
          go_simp
          with_reducible rfl
        rotate_left
        · simp only [Act.put, List.setIfInBounds_toArray, List.set_cons_zero, List.set_cons_succ, i64_w, i32_w]
          rfl
        refine done_ (by kernel_rfl) ?_
        go_wp2
        go_roundg k1
        case measure => have := HK.out; omega
        case rel => exact ⟨j + 1, by go_num, HI.out, ⟨by have := HK.out; omega⟩, ⟨by rw [HZ.out]; exact HO6.out⟩, HB6⟩
      · have c5b0 : decide ((j : Int) < (l.length : Int)) = false := decide_eq_false (by omega)
        have HT := Aside0.mk (show l.take j = l from List.take_of_length_le (by omega))
        go_wp2
        go_ret
        exact ⟨_, rfl, by rw [← HT.out]; exact HO.out, HB.out⟩
end Go.Proofs.YtoofbppfbbhliaaDoor.confP
