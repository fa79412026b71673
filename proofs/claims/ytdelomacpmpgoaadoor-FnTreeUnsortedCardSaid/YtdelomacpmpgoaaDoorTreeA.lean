/- Trees: impl.entriesOf. -/
import Derived.Test.YtdelomacpmpgoaaDoorTreeP
import Derived.Test.YtdelomacpmpgoaaDoorPtr
import Derived.Deep.DeepMust
namespace Go.Proofs.YtdelomacpmpgoaaDoor.tree
open Go.RowKit Go.Proofs.YtdelomacpmpgoaaDoorW.PrintWords Go.Proofs.YtdelomacpmpgoaaDoorW.PrintLast Go.Proofs.YtdelomacpmpgoaaDoorW.PrintMore Go.Proofs.YtdelomacpmpgoaaDoor.PFnTreeUnsorted Go.Proofs.YtdelomacpmpgoaaDoor.ord Go.Proofs.YtdelomacpmpgoaaDoor.ptr
set_option linter.unusedVariables false
set_option linter.unusedSimpArgs false
set_option maxHeartbeats 2000000
set_option maxRecDepth 100000
/-- An entry of the package: its name, its mode, twenty bytes. -/
def tc (x : S30) (D : List UInt8) : List Value := [.string x.f0, .int .u32 x.f1] ++ hash.cells D
theorem tc_len (x : S30) {D : List UInt8} (h : D.length = 20) : (tc x D).length = 22 := by unfold tc hash.cells; rw [List.length_append, List.length_map, h]; rfl
theorem tc_one (x : S30) (D : List UInt8) : ∀ v ∈ tc x D, v.oneCell' = true := by
  intro v hv
  unfold tc at hv
  rcases List.mem_append.1 hv with h | h
  · simp only [List.mem_cons, List.not_mem_nil, or_false] at h
    rcases h with rfl | rfl <;> rfl
  · exact hash.cells_one D v h
def kT : Kd S30 where
  sz := 22
  E := []
  K := fun _ x cs => ∃ D : List UInt8, D.length = 20 ∧ cs = tc x D
  M := fun _ _ _ x cs => ∃ D : List UInt8, D.length = 20 ∧ cs = tc x D
  K_len := by rintro w x cs ⟨D, h, rfl⟩; exact tc_len x h
  K_one := by rintro w x cs ⟨D, h, rfl⟩; exact tc_one x D
  K_below := fun _ h => h
  K_of_M := fun h => h
  M_mono := fun _ h => h
  M_bound := fun h => h
  M_move := fun _ h => h
  M_lower := fun _ h => h
theorem len20 (D : List UInt8) (h : D.length = 20) : ∃ x0 x1 x2 x3 x4 x5 x6 x7 x8 x9 x10 x11 x12 x13 x14 x15 x16 x17 x18 x19 : UInt8, D = [x0, x1, x2, x3, x4, x5, x6, x7, x8, x9, x10, x11, x12, x13, x14, x15, x16, x17, x18, x19] := by
  match D, h with
  | [x0, x1, x2, x3, x4, x5, x6, x7, x8, x9, x10, x11, x12, x13, x14, x15, x16, x17, x18, x19], _ => exact ⟨x0, x1, x2, x3, x4, x5, x6, x7, x8, x9, x10, x11, x12, x13, x14, x15, x16, x17, x18, x19, rfl⟩
def tParts (x : S30) (D : List UInt8) : Array (Nat × Value) := #[(0, .string x.f0), (1, .int .u32 x.f1), (2, .agg (hash.cells D).toArray)]
theorem built_T (x : S30) (D : List UInt8) (hl : D.length = 20) : Tryd.prog.built 58 (tParts x D).toList = some (tc x D).toArray := by
  obtain ⟨x0, x1, x2, x3, x4, x5, x6, x7, x8, x9, x10, x11, x12, x13, x14, x15, x16, x17, x18, x19, rfl⟩ := len20 D hl
  kernel_rfl
theorem run_buildT (W : World) (x : S30) (D : List UInt8) (hl : D.length = 20) :
    (Instr.buildSlice 34 1 #[(0, .agg (tc x D).toArray)]).run Tryd.prog W = .ok (.slice (some ⟨W.heap.size, 0, none⟩) 1 1) (W.alloc (.cells (tc x D).toArray 58 (0, 0))) := by
  obtain ⟨x0, x1, x2, x3, x4, x5, x6, x7, x8, x9, x10, x11, x12, x13, x14, x15, x16, x17, x18, x19, rfl⟩ := len20 D hl
  kernel_rfl
def zT : Value := .agg #[.string (⟨#[]⟩ : ByteArray), .int .u32 0, .int .u8 0, .int .u8 0, .int .u8 0, .int .u8 0, .int .u8 0, .int .u8 0, .int .u8 0, .int .u8 0, .int .u8 0, .int .u8 0, .int .u8 0, .int .u8 0, .int .u8 0, .int .u8 0, .int .u8 0, .int .u8 0, .int .u8 0, .int .u8 0, .int .u8 0, .int .u8 0]
theorem infoT : (Tryd.prog.info? 58).map (fun i => (i.zero, i.size, i.bytes)) = some (some zT, 22, 40) := by kernel_rfl
theorem t_room {n : Nat} (h : n ≤ 1000) : (n + 1) * 40 ≤ 140737488355328 := by omega
theorem step_buildT {ops : Array Oper} {o : Oper} {a : Act} {w : World} {K : Act → World → Prop} {Q : Exit → Act → World → Prop} {E : Prop} (hgd : o.guard = none) (x : Operand)
    (ho : o.op = .buildSlice 34 1 #[(0, x)]) (cs : List Value) (hx : a.eval x = .agg cs.toArray) (hr : (Instr.buildSlice 34 1 #[(0, .agg cs.toArray)]).run Tryd.prog w = .ok (.slice (some ⟨w.heap.size, 0, none⟩) 1 1) (w.alloc (.cells cs.toArray 58 (0, 0))))
    (h : K (a.put o.dst (.slice (some ⟨w.heap.size, 0, none⟩) 1 1)) (w.alloc (.cells cs.toArray 58 (0, 0)))) : if Region.wanted o (yielded ops a.tmps) = true then Oper.wp Tryd.prog o a w K Q else E := by
  have hw : Region.wanted o (yielded ops a.tmps) = true := by simp [Region.wanted, hgd]
  rw [if_pos hw]
  unfold Oper.wp execOp
  simp only [ho, List.map_toArray, List.map_cons, List.map_nil, hx, Sem.run_bind, Sem.run_pure, hr, Result.andThen_ok]
  exact h
theorem yields_build {P : Program} {ops : Array Oper} {o : Oper} {a : Act} (hw : Region.wanted o (yielded ops a.tmps) = true) (t : TypeId) (parts : Array (Nat × Operand)) (ho : o.op = .build t parts) (L : Array (Nat × Value)) (hL : (parts.map fun (i, x) => (i, a.eval x)) = L) (cs : Array Value)
    (hf : P.built t L.toList = some cs) : Yields P ops o (.agg cs) a :=
  .inl ⟨hw, fun w => by
    subst hL
    unfold execOp
    simp only [ho, Sem.run_bind, run_build w t _ cs hf, Result.andThen_ok]
    rfl⟩
theorem take_snoc {α : Type} {l : List α} {j : Nat} (h : j < l.length) : l.take (j + 1) = l.take j ++ [l[j]] := by rw [List.take_succ_eq_append_getElem h]
theorem entriesOf_any (w : World) (A : Option Addr) (cc : Nat) (l : List S30) (hC : Kd.C k30 w A l.length l) (hn : l.length ≤ 1000) (hg : ∀ x ∈ l, hash.name40 x.f2 = true) (ev : Value) (hE : w.cell? ⟨2, 0, none⟩ = some ev) :
    Calls Tryd.prog 11 #[.slice A l.length cc] w fun e w' => ∃ v, e = .returned v ∧ Kd.R kT 58 w' w.heap.size (fun _ => True) v l ∧ Below w.heap.size w w' := by
  have HC := Aside0.mk hC
  have HGD := Aside0.mk hg
  have HEV := Aside0.mk hE
  have HB0 := Aside0.mk (Below.refl w.heap.size w)
  have hu30 := Tryd.underlying30
  clear hC hg hE
  go_enter Tryd.func11, Tryd.ntmps11
  go_wp2_with fail
  go_loopg [3, 8] (l.length + 1) (fun kq v3 v8 w' => ∃ (j : Nat) (ov : Value), ov = v3 ∧ v8 = .int .i64 (j : Int) ∧ j ≤ l.length ∧ Aside0 (kq + j = l.length + 1) ∧ Aside0 (Kd.R kT 58 w' w.heap.size (fun _ => True) ov (l.take j)) ∧ Aside0 (Below w.heap.size w w'))
  case atStart => exact ⟨0, _, rfl, rfl, Nat.zero_le _, ⟨by omega⟩, ⟨Kd.R_nil _ _ _ _ _⟩, HB0⟩
  case round =>
    clear HB0
    obtain ⟨j, ov, hov, rfl, hj, HK, HO, HB⟩ := hrel
    subst hov
    cases gk with
    | zero => exact absurd HK.out (by omega)
    | succ k1 =>
      obtain ⟨wo, hwo⟩ : ∃ wo : World, wo = wr := ⟨_, rfl⟩
      subst hwo
      by_cases hlt : j < l.length
      · have p150 : 0 ≤ (j : Int) := by omega
        have q150 : (j : Int) < (l.length : Int) := by omega
        have c5b0 : decide ((j : Int) < (l.length : Int)) = true := decide_eq_true q150
        have c5b1 : decide (j < l.length) = true := decide_eq_true hlt
        have w1 : wrap64 ((j : Int) + 1) = (j : Int) + 1 := by unfold wrap64; omega
        obtain ⟨ad, e0, y0, y1, y2⟩ := at_T30 HC.out j p150 q150
        subst e0
        rw [rd_list l j hlt, Int.toNat_natCast] at y0 y1 y2
        replace y0 := (HB.out.cell (World.block_lt_of_cell? w _ y0)).trans y0
        replace y1 := (HB.out.cell (World.block_lt_of_cell? w _ y1)).trans y1
        replace y2 := (HB.out.cell (World.block_lt_of_cell? w _ y2)).trans y2
        have HNX := Aside0.mk (HGD.out _ (List.getElem_mem hlt))
        have HTu := Aside0.mk (take_snoc hlt)
        obtain ⟨x, hx⟩ : ∃ x, l[j] = x := ⟨_, rfl⟩
        rw [hx] at y0 y1 y2 HTu HNX
        obtain ⟨ys, hys⟩ : ∃ ys, l.take j = ys := ⟨_, rfl⟩
        have HYl := Aside0.mk (show ys.length ≤ 1000 by rw [← hys, List.length_take]; omega)
        rw [hys] at HO HTu
        have HI := Aside0.mk hlt
        clear hx hys
        obtain ⟨D, hdec, hD, henc⟩ := hash.name40_decode HNX.out
        have HNH := Aside0.mk (show ∀ W, Below w.heap.size w W → Calls Tryd.prog 17 #[.string x.f2] W fun e w' => e = .returned (.agg (hash.cells D).toArray) ∧ Below W.heap.size W w' from fun W hW => hash.newHash x.f2 D .ok W ev ((hW.cell (World.block_lt_of_cell? w _ HEV.out)).trans HEV.out) (by have := (hash.name40_bytes HNX.out).1; omega) hdec hD)
        have HLN := Aside0.mk (fun W => run_buildT W x D hD)
        have HBLT := Aside0.mk (built_T x D hD)
        have HKT := Aside0.mk (show kT.M (World.alloc default (.cells #[] 0 (0, 0))) 0 (fun _ => False) x (tc x D) from ⟨D, hD, rfl⟩)
        have HHH := Aside0.mk (show ∀ W : World, Value.slice (some ⟨W.heap.size, 0, none⟩) 1 1 = Value.slice (some ⟨W.heap.size, 0, none⟩) 1 1 from fun W => rfl)
        clear hdec hD henc
        go_wp2_with (first | ((with_reducible refine gate_dst (N := 5) rfl ?_); refine box_event ?hg (N := 5) ?hd (cs := #[.string (⟨#[]⟩ : ByteArray), .int .u32 0, .string (⟨#[]⟩ : ByteArray)]) (t := 30) ?hr ?_; (case hd => rfl); (case hg => rfl); (case hr => first | (go_simp; done) | (go_simp; rfl)); intro gf hgf wa hbox hb; have BFa := Aside0.mk hbox; have HBa := Aside0.mk (show Below wo.heap.size wo wa from hb); have GF := Aside0.mk (show wo.heap.size ≤ gf by rw [hgf]; exact Nat.le_refl _); have z0 := (blk_cell hbox 0).trans (show _ = some (Value.string ⟨#[]⟩) from rfl); have z1 := (blk_cell hbox 1).trans (show _ = some (Value.int .u32 0) from rfl); have z2 := (blk_cell hbox 2).trans (show _ = some (Value.string ⟨#[]⟩) from rfl); have f0 := blk_frozen hbox 0; have f1 := blk_frozen hbox 1; have f2 := blk_frozen hbox 2; replace y0 := (hb.cell (World.block_lt_of_cell? wo _ y0)).trans y0; replace y1 := (hb.cell (World.block_lt_of_cell? wo _ y1)).trans y1; replace y2 := (hb.cell (World.block_lt_of_cell? wo _ y2)).trans y2; clear hbox hb hgf) | fail)
        have BF1 := Aside0.mk (blk_put (cs := #[.string x.f0, .int .u32 x.f1, .string (⟨#[]⟩ : ByteArray)]) (blk_put (cs := #[.string x.f0, .int .u32 0, .string (⟨#[]⟩ : ByteArray)]) (blk_put (cs := #[.string (⟨#[]⟩ : ByteArray), .int .u32 0, .string (⟨#[]⟩ : ByteArray)]) BFa.out 0 (.string x.f0) rfl) 1 (.int .u32 x.f1) rfl) 2 (.string x.f2) rfl)
        have HBe := Aside0.mk (below_set (j := 2) (v := .string x.f2) (below_set (j := 1) (v := .int .u32 x.f1) (below_set (j := 0) (v := .string x.f0) HBa.out GF.out) GF.out) GF.out)
        generalize hW : World.setCell (World.setCell (World.setCell _ _ _) _ _) _ _ = W2
        have HBd := Aside0.mk (show Below wo.heap.size wo W2.drew by rw [← hW]; exact below_drew HBe.out)
        have BF2 := Aside0.mk (show W2.drew.heap[gf]? = some (.cells #[.string x.f0, .int .u32 x.f1, .string x.f2] 30 (0, 0)) by rw [← hW]; exact BF1.out)
        have HO2 := Aside0.mk (Kd.R_below HO.out HBd.out)
        have HB2 := Aside0.mk (below_step HB.out HBd.out)
        clear hW y0 y1 y2 BF1 HBe BFa HBa z0 z1 z2 f0 f1 f2
        refine start_ (n := 12) (S := fun w' => w'.cell? ⟨gf, 0, none⟩ = some (.string x.f0) ∧ w'.cell? ⟨gf, 1, none⟩ = some (.int .u32 x.f1) ∧ w'.cell? ⟨gf, 2, none⟩ = some (.string x.f2)) (ds := [10]) #[false, false, false, false, false, false, false, false, false, false, false, false] (by kernel_rfl) rfl rfl ⟨(blk_cell BF2.out 0).trans rfl, (blk_cell BF2.out 1).trans rfl, (blk_cell BF2.out 2).trans rfl⟩ (fun hHeld => ?_)
        refine pure_ (i := 0) (N := some 12) (v := ?_) (a' := ?_) #[true, false, false, false, false, false, false, false, false, false, false, false] rfl rfl (by kernel_rfl) (fun _ _ _ h => h) (Or.inl ⟨by rfl, ?_⟩) ?_ ?_
        rotate_left
        · intro w'
          go_simp
          with_reducible rfl
        rotate_left
        · simp only [Act.put, List.setIfInBounds_toArray, List.set_cons_zero, List.set_cons_succ, i64_w, i32_w]
          rfl
        refine pure_ (i := 1) (N := some 13) (v := ?_) (a' := ?_) #[true, true, false, false, false, false, false, false, false, false, false, false] rfl rfl (by kernel_rfl) (fun _ _ _ h => h) (Or.inl ⟨by rfl, ?_⟩) ?_ ?_
        rotate_left
        · intro w'
          go_simp
          with_reducible rfl
        rotate_left
        · simp only [Act.put, List.setIfInBounds_toArray, List.set_cons_zero, List.set_cons_succ, i64_w, i32_w]
          rfl
        refine pure_ (i := 3) (N := some 15) (v := ?_) (a' := ?_) #[true, true, false, true, false, false, false, false, false, false, false, false] rfl rfl (by kernel_rfl) (fun _ _ _ h => h) (Or.inl ⟨by rfl, ?_⟩) ?_ ?_
        rotate_left
        · intro w'
          go_simp
          with_reducible rfl
        rotate_left
        · simp only [Act.put, List.setIfInBounds_toArray, List.set_cons_zero, List.set_cons_succ, i64_w, i32_w]
          rfl
        refine pure_ (i := 5) (N := some 17) (v := ?_) (a' := ?_) #[true, true, false, true, false, true, false, false, false, false, false, false] rfl rfl (by kernel_rfl) (fun _ _ _ h => h) (Or.inl ⟨by rfl, ?_⟩) ?_ ?_
        rotate_left
        · intro w'
          go_simp
          with_reducible rfl
        rotate_left
        · simp only [Act.put, List.setIfInBounds_toArray, List.set_cons_zero, List.set_cons_succ, i64_w, i32_w]
          rfl
        refine take_ (i := 2) (N := some 14) (v := ?_) (a' := ?_) #[true, true, true, true, false, true, false, false, false, false, false, false] rfl rfl (by kernel_rfl) (fun _ _ _ h => h) (Or.inl ⟨by rfl, ?_⟩) hHeld ?_ ?_
        rotate_left
        · rintro w' ⟨s0, s1, s2⟩
          go_simp
          with_reducible rfl
        rotate_left
        · simp only [Act.put, List.setIfInBounds_toArray, List.set_cons_zero, List.set_cons_succ, i64_w, i32_w]
          rfl
        refine take_ (i := 4) (N := some 16) (v := ?_) (a' := ?_) #[true, true, true, true, true, true, false, false, false, false, false, false] rfl rfl (by kernel_rfl) (fun _ _ _ h => h) (Or.inl ⟨by rfl, ?_⟩) hHeld ?_ ?_
        rotate_left
        · rintro w' ⟨s0, s1, s2⟩
          go_simp
          with_reducible rfl
        rotate_left
        · simp only [Act.put, List.setIfInBounds_toArray, List.set_cons_zero, List.set_cons_succ, i64_w, i32_w]
          rfl
        refine take_ (i := 6) (N := some 18) (v := ?_) (a' := ?_) #[true, true, true, true, true, true, true, false, false, false, false, false] rfl rfl (by kernel_rfl) (fun _ _ _ h => h) (Or.inl ⟨by rfl, ?_⟩) hHeld ?_ ?_
        rotate_left
        · rintro w' ⟨s0, s1, s2⟩
          go_simp
          with_reducible rfl
        rotate_left
        · simp only [Act.put, List.setIfInBounds_toArray, List.set_cons_zero, List.set_cons_succ, i64_w, i32_w]
          rfl
        refine one_ (i := 7) (N := some 19) #[true, true, true, true, true, true, true, true, false, false, false, false] rfl rfl (by kernel_rfl) (by decide) (fun K hK => ?_)
        refine goes_ Tryd.func17 (by kernel_rfl) rfl #[.string x.f2] (by rfl) rfl rfl (by simp only [List.map_toArray, List.map_cons, List.map_nil]; rfl) ?_
        with_reducible refine (HNH.out _ HB2.out).mono ?_
        rintro e w5 ⟨rfl, hb5⟩
        refine ⟨_, rfl, ?_⟩
        have BF5 := Aside0.mk ((hb5.block gf (blk_lt BF2.out)).trans BF2.out)
        have HO5 := Aside0.mk (Kd.R_below HO2.out hb5)
        have HB5 := Aside0.mk (below_step HB2.out hb5)
        clear hb5
        refine hK.out _ _ ⟨(blk_cell BF5.out 0).trans rfl, (blk_cell BF5.out 1).trans rfl, (blk_cell BF5.out 2).trans rfl⟩ (fun hHeld => ?_)
        clear hK K
        refine norm_ (a' := ?_) ?_ ?_
        rotate_left
        · show Act.put _ (some 19) _ = _
          simp only [Act.put, List.setIfInBounds_toArray, List.set_cons_zero, List.set_cons_succ, i64_w, i32_w]
          rfl
        refine pure_ (i := 8) (N := some 20) (v := .agg (tc x D).toArray) (a' := ?_) #[true, true, true, true, true, true, true, true, true, false, false, false] rfl rfl (by kernel_rfl) (fun _ _ _ h => h) ?hy8 ?_ ?_
        case hy8 => exact yields_build (by rfl) 58 _ rfl (tParts x D) (by simp only [List.map_toArray, List.map_cons, List.map_nil]; rfl) (tc x D).toArray HBLT.out
        rotate_left
        · simp only [Act.put, List.setIfInBounds_toArray, List.set_cons_zero, List.set_cons_succ, i64_w, i32_w]
          rfl
        refine one_ (i := 9) (N := some 21) #[true, true, true, true, true, true, true, true, true, true, false, false] rfl rfl (by kernel_rfl) (by decide) (fun K hK => ?_)
        refine step_buildT rfl (.tmp 20) rfl (tc x D) rfl (HLN.out _) ?_
        refine hK.out _ _ ⟨(blk_cell (blk_alloc BF5.out _) 0).trans rfl, (blk_cell (blk_alloc BF5.out _) 1).trans rfl, (blk_cell (blk_alloc BF5.out _) 2).trans rfl⟩ (fun hHeld => ?_)
        clear hK K
        refine norm_ (a' := ?_) ?_ ?_
        rotate_left
        · show Act.put _ (some 21) _ = _
          simp only [Act.put, List.setIfInBounds_toArray, List.set_cons_zero, List.set_cons_succ, i64_w, i32_w]
          rfl
        refine last_ (i := 10) (N := some 22) #[true, true, true, true, true, true, true, true, true, true, true, false] rfl rfl (by kernel_rfl) (by decide) (fun K hK => ?_)
        refine append_E kT (w0 := w) (W := w5) w.heap.size rfl (.tmp 12) (.tmp 21) 34 58 zT 40 rfl Tryd.underlying34 infoT rfl (by decide) (by decide) ov ys x (tc x D) (fun _ => True) (fun _ => False) rfl rfl HKT.out (fun _ h => h.elim) (fun _ _ => trivial) HO5.out HB5.out HB5.out.size (t_room HYl.out) ?_
        intro v7 w7 ho hb hg hat
        rw [← HTu.out] at ho
        have HO7 := Aside0.mk ho
        have HB7 := Aside0.mk hb
        clear ho hb hg hat
        refine hK.out _ _ ?_
        clear hK K
        refine norm_ (a' := ?_) ?_ ?_
        rotate_left
        · show Act.put _ (some 22) _ = _
          simp only [Act.put, List.setIfInBounds_toArray, List.set_cons_zero, List.set_cons_succ, i64_w, i32_w]
          rfl
        refine pure_ (i := 11) (N := some 3) (v := ?_) (a' := ?_) #[true, true, true, true, true, true, true, true, true, true, true, true] rfl rfl (by kernel_rfl) (fun _ _ _ h => h) (Or.inl ⟨by rfl, ?_⟩) ?_ ?_
        rotate_left
        · intro w'
          go_simp
          with_reducible rfl
        rotate_left
        · simp only [Act.put, List.setIfInBounds_toArray, List.set_cons_zero, List.set_cons_succ, i64_w, i32_w]
          rfl
        refine done_ (by kernel_rfl) ?_
        go_wp2
        go_roundg k1
        case measure => have := HK.out; omega
        case rel => exact ⟨j + 1, _, rfl, by go_num, HI.out, ⟨by have := HK.out; omega⟩, HO7, HB7⟩
      · have c5b0 : decide ((j : Int) < (l.length : Int)) = false := decide_eq_false (by omega)
        have c5b1 : decide (j < l.length) = false := decide_eq_false hlt
        have HTk := Aside0.mk (show l.take j = l from List.take_of_length_le (by omega))
        rw [HTk.out] at HO
        go_wp2
        go_ret
        exact ⟨ov, rfl, HO.out, HB.out⟩
end Go.Proofs.YtdelomacpmpgoaaDoor.tree
