/- index: impl.indexOf. -/
import Derived.Test.YtoofbppfbbhliaaDoorIdxB
namespace Go.Proofs.YtoofbppfbbhliaaDoor.idx
open Go.RowKit Go.Proofs.YtoofbppfbbhliaaDoorW.PrintWords Go.Proofs.YtoofbppfbbhliaaDoorW.PrintLast Go.Proofs.YtoofbppfbbhliaaDoorW.PrintMore Go.Proofs.YtoofbppfbbhliaaDoor.PFnIdxDrop Go.Proofs.YtoofbppfbbhliaaDoor.ptr
set_option linter.unusedVariables false
set_option linter.unusedSimpArgs false
set_option maxHeartbeats 2000000
set_option maxRecDepth 100000
theorem infoE : (Tryd.prog.info? 91).map (fun i => (i.zero, i.size, i.bytes)) = some (some (.pointer none), 1, 8) := by kernel_rfl
theorem ent_room {n : Nat} (h : n ≤ 1000) : (n + 1) * 8 ≤ 140737488355328 := by omega
/-- The cells of the index with these entries. -/
def idxCells (v : Value) : Array Value := #[.int .u32 2, v, .pointer none, .pointer none, .pointer none, .int .i64 0, .int .i64 0, .int .i64 0]
/-- An index with entries made of these files. -/
def Indexed (w : World) (l : List S35) (e : Ending) (w' : World) : Prop := ∃ g v, e = .returned (.pointer (some ⟨g, 0, none⟩)) ∧ w.heap.size ≤ g ∧ w'.heap[g]? = some (.cells (idxCells v) 134 (0, 0)) ∧ Kd.R kPE 91 w' w.heap.size (fun _ => True) v l ∧ Below w.heap.size w w'
theorem yields_build {P : Program} {ops : Array Oper} {o : Oper} {a : Act} (hw : Region.wanted o (yielded ops a.tmps) = true) (t : TypeId) (parts : Array (Nat × Operand)) (ho : o.op = .build t parts) (L : Array (Nat × Value)) (hL : (parts.map fun (i, x) => (i, a.eval x)) = L) (cs : Array Value)
    (hf : P.built t L.toList = some cs) : Yields P ops o (.agg cs) a :=
  .inl ⟨hw, fun w => by
    subst hL
    unfold execOp
    simp only [ho, Sem.run_bind, run_build w t _ cs hf, Result.andThen_ok]
    rfl⟩
theorem len20 (D : List UInt8) (h : D.length = 20) : ∃ x0 x1 x2 x3 x4 x5 x6 x7 x8 x9 x10 x11 x12 x13 x14 x15 x16 x17 x18 x19 : UInt8, D = [x0, x1, x2, x3, x4, x5, x6, x7, x8, x9, x10, x11, x12, x13, x14, x15, x16, x17, x18, x19] := by
  match D, h with
  | [x0, x1, x2, x3, x4, x5, x6, x7, x8, x9, x10, x11, x12, x13, x14, x15, x16, x17, x18, x19], _ => exact ⟨x0, x1, x2, x3, x4, x5, x6, x7, x8, x9, x10, x11, x12, x13, x14, x15, x16, x17, x18, x19, rfl⟩
/-- The parts of which an entry is built. -/
def entParts (x : S35) (D : List UInt8) : Array (Nat × Value) := #[(2, .agg #[.int .i64 (x.f0.f0 + 62135596800), .int .i64 x.f0.f1, .int .i64 0]), (3, .agg #[.int .i64 (x.f1.f0 + 62135596800), .int .i64 x.f1.f1, .int .i64 0]), (4, .int .u32 x.f2), (5, .int .u32 x.f3), (6, .int .u32 x.f4), (7, .int .u32 x.f5), (8, .int .u32 x.f6), (9, .int .u32 x.f7), (0, .agg (hash.cells D).toArray), (1, .string x.f9), (10, .int .i64 x.f10), (11, .bool x.f11), (12, .bool x.f12)]
theorem built_ent (x : S35) (D : List UInt8) (hl : D.length = 20) : Tryd.prog.built 139 (entParts x D).toList = some (hash.cells D ++ entRest x).toArray := by
  obtain ⟨x0, x1, x2, x3, x4, x5, x6, x7, x8, x9, x10, x11, x12, x13, x14, x15, x16, x17, x18, x19, rfl⟩ := len20 D hl
  kernel_rfl
theorem ent_M {x : S35} {arr : Array Value} (w5 : World) (base : Nat) (hb : base ≤ w5.heap.size) (h : IsEnt x arr.toList) :
    kPE.M (w5.alloc (.cells arr 139 (0, 0))) base (fun k => w5.heap.size ≤ k) x [.pointer (some ⟨w5.heap.size, 0, none⟩)] :=
  ⟨w5.heap.size, _, rfl, Nat.le_refl _, hb, blk_new w5 _, h⟩
theorem indexOf_any (A0 : Option Addr) (c0 : Nat) (l : List S35) (w : World) (hr0 : Kd.C k35 w A0 l.length l) (hc0 : l.length ≤ c0) (hl : l.length ≤ 1000) (hg : ∀ x ∈ l, Good x) (ev : Value) (hE : w.cell? ⟨4, 0, none⟩ = some ev) :
    Calls Tryd.prog 51 #[.int .u32 2, .slice A0 l.length c0] w (Indexed w l) := by
  have hu35 := Tryd.underlying35
  have HR0 := Aside0.mk hr0
  have HGD := Aside0.mk hg
  have HEV := Aside0.mk hE
  clear hr0 hg hE
  go_enter Tryd.func51, Tryd.ntmps51
  go_wp2_with (first | ((with_reducible refine gate_dst (N := 10) rfl ?_); refine box_event ?hg (N := 10) ?hd (cs := #[.int .u32 2, .slice none 0 0, .pointer none, .pointer none, .pointer none, .int .i64 0, .int .i64 0, .int .i64 0]) (t := 134) ?hr ?_; (case hd => rfl); (case hg => rfl); (case hr => first | (go_simp; done) | (go_simp; rfl)); intro gx hg1 w1 hbox hb; have BX0 := Aside0.mk (show w1.heap[gx]? = some (.cells (idxCells (.slice none 0 0)) 134 (0, 0)) from hbox); have HB0 := Aside0.mk (below_step (Below.refl w.heap.size w) hb); have GX := Aside0.mk (show w.heap.size ≤ gx by rw [hg1]; exact Nat.le_refl _); clear hbox hb hg1) | fail)
  go_loopg [13] (l.length + 1) (fun kq v13 w' => ∃ (j : Nat) (v : Value), v13 = .int .i64 (j : Int) ∧ j ≤ l.length ∧ Aside0 (kq + j = l.length + 1) ∧ Aside0 (w'.heap[gx]? = some (.cells (idxCells v) 134 (0, 0))) ∧ Aside0 (Kd.R kPE 91 w' w.heap.size (fun _ => True) v (l.take j)) ∧ Aside0 (Below w.heap.size w w'))
  case atStart => exact ⟨0, .slice none 0 0, rfl, Nat.zero_le _, ⟨by omega⟩, BX0, ⟨Kd.R_nil _ _ _ _ _⟩, HB0⟩
  case round =>
    clear BX0 HB0
    obtain ⟨j, v, rfl, hj, HK, BX, HO, HB⟩ := hrel
    cases gk with
    | zero => exact absurd HK.out (by omega)
    | succ k1 =>
      obtain ⟨wo, hwo⟩ : ∃ wo : World, wo = wr := ⟨_, rfl⟩
      subst hwo
      by_cases hlt : j < l.length
      · have p150 : 0 ≤ (j : Int) := by omega
        have q150 : (j : Int) < (l.length : Int) := by omega
        have c5b0 : decide ((j : Int) < (l.length : Int)) = true := decide_eq_true q150
        obtain ⟨ad, e0, y0, y1, y2, y3, y4, y5, y6, y7, y8, y9, y10, y11, y12, y13, y14⟩ := at_T35 HR0.out j p150 q150
        subst e0
        rw [rdF hlt] at y0 y1 y2 y3 y4 y5 y6 y7 y8 y9 y10 y11 y12 y13 y14
        rw [Int.toNat_natCast] at y0 y1 y2 y3 y4 y5 y6 y7 y8 y9 y10 y11 y12 y13 y14
        replace y0 := (HB.out.cell (World.block_lt_of_cell? w _ y0)).trans y0
        replace y1 := (HB.out.cell (World.block_lt_of_cell? w _ y1)).trans y1
        replace y2 := (HB.out.cell (World.block_lt_of_cell? w _ y2)).trans y2
        replace y3 := (HB.out.cell (World.block_lt_of_cell? w _ y3)).trans y3
        replace y4 := (HB.out.cell (World.block_lt_of_cell? w _ y4)).trans y4
        replace y5 := (HB.out.cell (World.block_lt_of_cell? w _ y5)).trans y5
        replace y6 := (HB.out.cell (World.block_lt_of_cell? w _ y6)).trans y6
        replace y7 := (HB.out.cell (World.block_lt_of_cell? w _ y7)).trans y7
        replace y8 := (HB.out.cell (World.block_lt_of_cell? w _ y8)).trans y8
        replace y9 := (HB.out.cell (World.block_lt_of_cell? w _ y9)).trans y9
        replace y10 := (HB.out.cell (World.block_lt_of_cell? w _ y10)).trans y10
        replace y11 := (HB.out.cell (World.block_lt_of_cell? w _ y11)).trans y11
        replace y12 := (HB.out.cell (World.block_lt_of_cell? w _ y12)).trans y12
        replace y13 := (HB.out.cell (World.block_lt_of_cell? w _ y13)).trans y13
        replace y14 := (HB.out.cell (World.block_lt_of_cell? w _ y14)).trans y14
        have HGX := Aside0.mk (HGD.out _ (List.getElem_mem hlt))
        have HTu := Aside0.mk (take_snoc hlt)
        obtain ⟨x, hx⟩ : ∃ x, l[j] = x := ⟨_, rfl⟩
        rw [hx] at y0 y1 y2 y3 y4 y5 y6 y7 y8 y9 y10 y11 y12 y13 y14 HGX HTu
        obtain ⟨ys, hys⟩ : ∃ ys, l.take j = ys := ⟨_, rfl⟩
        have HYl := Aside0.mk (show ys.length ≤ 1000 by rw [← hys, List.length_take]; omega)
        rw [hys] at HO HTu
        obtain ⟨zs, hzs⟩ : ∃ zs, l.take (j + 1) = zs := ⟨_, rfl⟩
        rw [hzs] at HTu
        have HZ := Aside0.mk hzs
        clear hzs
        obtain ⟨Av, cv, ev'⟩ := Kd.R_slice HO.out
        subst ev'
        have HI := Aside0.mk hlt
        clear hx hys
        go_wp2_with (first | ((with_reducible refine gate_dst (N := 7) rfl ?_); refine box_event ?hg (N := 7) ?hd (cs := #[.int .i64 0, .int .i64 0, .int .i64 0, .int .i64 0, .int .u32 0, .int .u32 0, .int .u32 0, .int .u32 0, .int .u32 0, .int .u32 0, .string (⟨#[]⟩ : ByteArray), .string (⟨#[]⟩ : ByteArray), .int .i64 0, .bool false, .bool false]) (t := 35) ?hr ?_; (case hd => rfl); (case hg => rfl); (case hr => first | (go_simp; done) | (go_simp; rfl)); intro gf hg1 wa hbox hb; have BFa := Aside0.mk hbox; have HBa := Aside0.mk (show Below wo.heap.size wo wa from hb); have GF := Aside0.mk (show wo.heap.size ≤ gf by rw [hg1]; exact Nat.le_refl _); clear hbox hb hg1) | (refine wpList_store_row rfl 35 _ _ rfl gf #[.int .i64 x.f0.f0, .int .i64 x.f0.f1, .int .i64 x.f1.f0, .int .i64 x.f1.f1, .int .u32 x.f2, .int .u32 x.f3, .int .u32 x.f4, .int .u32 x.f5, .int .u32 x.f6, .int .u32 x.f7, .string x.f8, .string x.f9, .int .i64 x.f10, .bool x.f11, .bool x.f12] ?hx ?hy 35 _ BFa.out (by kernel_rfl) rfl (file_one x) ?_; (case hx => rfl); (case hy => rfl)) | fail)
        generalize hW : World.setRow _ _ _ = W2
        have HBd := Aside0.mk (show Below wo.heap.size wo W2.drew by rw [← hW]; exact below_drew1 (below_setRow HBa.out GF.out _))
        have BF2 := Aside0.mk (show W2.drew.heap[gf]? = some (.cells #[.int .i64 x.f0.f0, .int .i64 x.f0.f1, .int .i64 x.f1.f0, .int .i64 x.f1.f1, .int .u32 x.f2, .int .u32 x.f3, .int .u32 x.f4, .int .u32 x.f5, .int .u32 x.f6, .int .u32 x.f7, .string x.f8, .string x.f9, .int .i64 x.f10, .bool x.f11, .bool x.f12] 35 (0, 0)) by rw [← hW]; exact blk_drew (setRow_heap _ _ _ _ _ _ BFa.out))
        have BX2 := Aside0.mk ((HBd.out.block gx (blk_lt BX.out)).trans BX.out)
        have HO2 := Aside0.mk (Kd.R_below HO.out HBd.out)
        have HB2 := Aside0.mk (below_step HB.out HBd.out)
        have HT0 := Aside0.mk (time_f HGX.out.made)
        have HT1 := Aside0.mk (time_f HGX.out.changed)
        obtain ⟨D, hdec, hD, henc⟩ := hash.name40_decode HGX.out.name
        have HNH := Aside0.mk (show ∀ W, Below w.heap.size w W → Calls Tryd.prog 47 #[.string x.f8] W fun e w' => e = .returned (.agg (hash.cells D).toArray) ∧ Below W.heap.size W w' from fun W hW => hash.newHash x.f8 D .ok W ev ((hW.cell (World.block_lt_of_cell? w _ HEV.out)).trans HEV.out) (by have := (hash.name40_bytes HGX.out.name).1; omega) hdec hD)
        obtain ⟨entA, hA⟩ : ∃ entA, (hash.cells D ++ entRest x).toArray = entA := ⟨_, rfl⟩
        have HENT := Aside0.mk (show IsEnt x entA.toList from ⟨D, hD, henc, HGX.out.made, HGX.out.changed, by rw [← hA]⟩)
        have HBLT := Aside0.mk (built_ent x D hD)
        rw [hA] at HBLT
        have HHH := Aside0.mk (show ∀ W : World, Value.slice (some ⟨W.heap.size + 1, 0, none⟩) 1 1 = Value.slice (some ⟨(W.alloc (.cells entA 139 (0, 0))).heap.size, 0, none⟩) 1 1 from fun W => by simp)
        clear hW BFa HBa hA hdec hD henc y0 y1 y2 y3 y4 y5 y6 y7 y8 y9 y10 y11 y12 y13 y14
        refine start_ (n := 41) (S := fun w' => w'.cell? ⟨gx, 1, none⟩ = some (.slice Av ys.length cv) ∧ w'.cell? ⟨gf, 0, none⟩ = some (.int .i64 x.f0.f0) ∧ w'.cell? ⟨gf, 1, none⟩ = some (.int .i64 x.f0.f1) ∧ w'.cell? ⟨gf, 2, none⟩ = some (.int .i64 x.f1.f0) ∧ w'.cell? ⟨gf, 3, none⟩ = some (.int .i64 x.f1.f1) ∧ w'.cell? ⟨gf, 4, none⟩ = some (.int .u32 x.f2) ∧ w'.cell? ⟨gf, 5, none⟩ = some (.int .u32 x.f3) ∧ w'.cell? ⟨gf, 6, none⟩ = some (.int .u32 x.f4) ∧ w'.cell? ⟨gf, 7, none⟩ = some (.int .u32 x.f5) ∧ w'.cell? ⟨gf, 8, none⟩ = some (.int .u32 x.f6) ∧ w'.cell? ⟨gf, 9, none⟩ = some (.int .u32 x.f7) ∧ w'.cell? ⟨gf, 10, none⟩ = some (.string x.f8) ∧ w'.cell? ⟨gf, 11, none⟩ = some (.string x.f9) ∧ w'.cell? ⟨gf, 12, none⟩ = some (.int .i64 x.f10) ∧ w'.cell? ⟨gf, 13, none⟩ = some (.bool x.f11) ∧ w'.cell? ⟨gf, 14, none⟩ = some (.bool x.f12)) (ds := [37, 40]) #[false, false, false, false, false, false, false, false, false, false, false, false, false, false, false, false, false, false, false, false, false, false, false, false, false, false, false, false, false, false, false, false, false, false, false, false, false, false, false, false, false] (by kernel_rfl) rfl rfl ⟨(blk_cell BX2.out 1).trans rfl, (blk_cell BF2.out 0).trans rfl, (blk_cell BF2.out 1).trans rfl, (blk_cell BF2.out 2).trans rfl, (blk_cell BF2.out 3).trans rfl, (blk_cell BF2.out 4).trans rfl, (blk_cell BF2.out 5).trans rfl, (blk_cell BF2.out 6).trans rfl, (blk_cell BF2.out 7).trans rfl, (blk_cell BF2.out 8).trans rfl, (blk_cell BF2.out 9).trans rfl, (blk_cell BF2.out 10).trans rfl, (blk_cell BF2.out 11).trans rfl, (blk_cell BF2.out 12).trans rfl, (blk_cell BF2.out 13).trans rfl, (blk_cell BF2.out 14).trans rfl⟩ (fun hHeld => ?_)
        refine pure_ (i := 0) (N := some 17) (v := ?_) (a' := ?_) #[true, false, false, false, false, false, false, false, false, false, false, false, false, false, false, false, false, false, false, false, false, false, false, false, false, false, false, false, false, false, false, false, false, false, false, false, false, false, false, false, false] rfl rfl (by kernel_rfl) (fun _ _ _ h => h) (Or.inl ⟨by rfl, ?_⟩) ?_ ?_
        rotate_left
        · intro w'
          go_simp
          with_reducible rfl
        rotate_left
        · simp only [Act.put, List.setIfInBounds_toArray, List.set_cons_zero, List.set_cons_succ, i64_w, i32_w]
          rfl
        refine pure_ (i := 1) (N := some 18) (v := ?_) (a' := ?_) #[true, true, false, false, false, false, false, false, false, false, false, false, false, false, false, false, false, false, false, false, false, false, false, false, false, false, false, false, false, false, false, false, false, false, false, false, false, false, false, false, false] rfl rfl (by kernel_rfl) (fun _ _ _ h => h) (Or.inl ⟨by rfl, ?_⟩) ?_ ?_
        rotate_left
        · intro w'
          go_simp
          with_reducible rfl
        rotate_left
        · simp only [Act.put, List.setIfInBounds_toArray, List.set_cons_zero, List.set_cons_succ, i64_w, i32_w]
          rfl
        refine pure_ (i := 2) (N := some 19) (v := ?_) (a' := ?_) #[true, true, true, false, false, false, false, false, false, false, false, false, false, false, false, false, false, false, false, false, false, false, false, false, false, false, false, false, false, false, false, false, false, false, false, false, false, false, false, false, false] rfl rfl (by kernel_rfl) (fun _ _ _ h => h) (Or.inl ⟨by rfl, ?_⟩) ?_ ?_
        rotate_left
        · intro w'
          go_simp
          with_reducible rfl
        rotate_left
        · simp only [Act.put, List.setIfInBounds_toArray, List.set_cons_zero, List.set_cons_succ, i64_w, i32_w]
          rfl
        refine pure_ (i := 3) (N := some 20) (v := ?_) (a' := ?_) #[true, true, true, true, false, false, false, false, false, false, false, false, false, false, false, false, false, false, false, false, false, false, false, false, false, false, false, false, false, false, false, false, false, false, false, false, false, false, false, false, false] rfl rfl (by kernel_rfl) (fun _ _ _ h => h) (Or.inl ⟨by rfl, ?_⟩) ?_ ?_
        rotate_left
        · intro w'
          go_simp
          with_reducible rfl
        rotate_left
        · simp only [Act.put, List.setIfInBounds_toArray, List.set_cons_zero, List.set_cons_succ, i64_w, i32_w]
          rfl
        refine pure_ (i := 5) (N := some 22) (v := ?_) (a' := ?_) #[true, true, true, true, false, true, false, false, false, false, false, false, false, false, false, false, false, false, false, false, false, false, false, false, false, false, false, false, false, false, false, false, false, false, false, false, false, false, false, false, false] rfl rfl (by kernel_rfl) (fun _ _ _ h => h) (Or.inl ⟨by rfl, ?_⟩) ?_ ?_
        rotate_left
        · intro w'
          go_simp
          with_reducible rfl
        rotate_left
        · simp only [Act.put, List.setIfInBounds_toArray, List.set_cons_zero, List.set_cons_succ, i64_w, i32_w]
          rfl
        refine pure_ (i := 8) (N := some 25) (v := ?_) (a' := ?_) #[true, true, true, true, false, true, false, false, true, false, false, false, false, false, false, false, false, false, false, false, false, false, false, false, false, false, false, false, false, false, false, false, false, false, false, false, false, false, false, false, false] rfl rfl (by kernel_rfl) (fun _ _ _ h => h) (Or.inl ⟨by rfl, ?_⟩) ?_ ?_
        rotate_left
        · intro w'
          go_simp
          with_reducible rfl
        rotate_left
        · simp only [Act.put, List.setIfInBounds_toArray, List.set_cons_zero, List.set_cons_succ, i64_w, i32_w]
          rfl
        refine pure_ (i := 11) (N := some 28) (v := ?_) (a' := ?_) #[true, true, true, true, false, true, false, false, true, false, false, true, false, false, false, false, false, false, false, false, false, false, false, false, false, false, false, false, false, false, false, false, false, false, false, false, false, false, false, false, false] rfl rfl (by kernel_rfl) (fun _ _ _ h => h) (Or.inl ⟨by rfl, ?_⟩) ?_ ?_
        rotate_left
        · intro w'
          go_simp
          with_reducible rfl
        rotate_left
        · simp only [Act.put, List.setIfInBounds_toArray, List.set_cons_zero, List.set_cons_succ, i64_w, i32_w]
          rfl
        refine pure_ (i := 13) (N := some 30) (v := ?_) (a' := ?_) #[true, true, true, true, false, true, false, false, true, false, false, true, false, true, false, false, false, false, false, false, false, false, false, false, false, false, false, false, false, false, false, false, false, false, false, false, false, false, false, false, false] rfl rfl (by kernel_rfl) (fun _ _ _ h => h) (Or.inl ⟨by rfl, ?_⟩) ?_ ?_
        rotate_left
        · intro w'
          go_simp
          with_reducible rfl
        rotate_left
        · simp only [Act.put, List.setIfInBounds_toArray, List.set_cons_zero, List.set_cons_succ, i64_w, i32_w]
          rfl
        refine pure_ (i := 15) (N := some 32) (v := ?_) (a' := ?_) #[true, true, true, true, false, true, false, false, true, false, false, true, false, true, false, true, false, false, false, false, false, false, false, false, false, false, false, false, false, false, false, false, false, false, false, false, false, false, false, false, false] rfl rfl (by kernel_rfl) (fun _ _ _ h => h) (Or.inl ⟨by rfl, ?_⟩) ?_ ?_
        rotate_left
        · intro w'
          go_simp
          with_reducible rfl
        rotate_left
        · simp only [Act.put, List.setIfInBounds_toArray, List.set_cons_zero, List.set_cons_succ, i64_w, i32_w]
          rfl
        refine pure_ (i := 17) (N := some 34) (v := ?_) (a' := ?_) #[true, true, true, true, false, true, false, false, true, false, false, true, false, true, false, true, false, true, false, false, false, false, false, false, false, false, false, false, false, false, false, false, false, false, false, false, false, false, false, false, false] rfl rfl (by kernel_rfl) (fun _ _ _ h => h) (Or.inl ⟨by rfl, ?_⟩) ?_ ?_
        rotate_left
        · intro w'
          go_simp
          with_reducible rfl
        rotate_left
        · simp only [Act.put, List.setIfInBounds_toArray, List.set_cons_zero, List.set_cons_succ, i64_w, i32_w]
          rfl
        refine pure_ (i := 19) (N := some 36) (v := ?_) (a' := ?_) #[true, true, true, true, false, true, false, false, true, false, false, true, false, true, false, true, false, true, false, true, false, false, false, false, false, false, false, false, false, false, false, false, false, false, false, false, false, false, false, false, false] rfl rfl (by kernel_rfl) (fun _ _ _ h => h) (Or.inl ⟨by rfl, ?_⟩) ?_ ?_
        rotate_left
        · intro w'
          go_simp
          with_reducible rfl
        rotate_left
        · simp only [Act.put, List.setIfInBounds_toArray, List.set_cons_zero, List.set_cons_succ, i64_w, i32_w]
          rfl
        refine pure_ (i := 21) (N := some 38) (v := ?_) (a' := ?_) #[true, true, true, true, false, true, false, false, true, false, false, true, false, true, false, true, false, true, false, true, false, true, false, false, false, false, false, false, false, false, false, false, false, false, false, false, false, false, false, false, false] rfl rfl (by kernel_rfl) (fun _ _ _ h => h) (Or.inl ⟨by rfl, ?_⟩) ?_ ?_
        rotate_left
        · intro w'
          go_simp
          with_reducible rfl
        rotate_left
        · simp only [Act.put, List.setIfInBounds_toArray, List.set_cons_zero, List.set_cons_succ, i64_w, i32_w]
          rfl
        refine pure_ (i := 23) (N := some 40) (v := ?_) (a' := ?_) #[true, true, true, true, false, true, false, false, true, false, false, true, false, true, false, true, false, true, false, true, false, true, false, true, false, false, false, false, false, false, false, false, false, false, false, false, false, false, false, false, false] rfl rfl (by kernel_rfl) (fun _ _ _ h => h) (Or.inl ⟨by rfl, ?_⟩) ?_ ?_
        rotate_left
        · intro w'
          go_simp
          with_reducible rfl
        rotate_left
        · simp only [Act.put, List.setIfInBounds_toArray, List.set_cons_zero, List.set_cons_succ, i64_w, i32_w]
          rfl
        refine pure_ (i := 26) (N := some 43) (v := ?_) (a' := ?_) #[true, true, true, true, false, true, false, false, true, false, false, true, false, true, false, true, false, true, false, true, false, true, false, true, false, false, true, false, false, false, false, false, false, false, false, false, false, false, false, false, false] rfl rfl (by kernel_rfl) (fun _ _ _ h => h) (Or.inl ⟨by rfl, ?_⟩) ?_ ?_
        rotate_left
        · intro w'
          go_simp
          with_reducible rfl
        rotate_left
        · simp only [Act.put, List.setIfInBounds_toArray, List.set_cons_zero, List.set_cons_succ, i64_w, i32_w]
          rfl
        refine pure_ (i := 28) (N := some 45) (v := ?_) (a' := ?_) #[true, true, true, true, false, true, false, false, true, false, false, true, false, true, false, true, false, true, false, true, false, true, false, true, false, false, true, false, true, false, false, false, false, false, false, false, false, false, false, false, false] rfl rfl (by kernel_rfl) (fun _ _ _ h => h) (Or.inl ⟨by rfl, ?_⟩) ?_ ?_
        rotate_left
        · intro w'
          go_simp
          with_reducible rfl
        rotate_left
        · simp only [Act.put, List.setIfInBounds_toArray, List.set_cons_zero, List.set_cons_succ, i64_w, i32_w]
          rfl
        refine pure_ (i := 30) (N := some 47) (v := ?_) (a' := ?_) #[true, true, true, true, false, true, false, false, true, false, false, true, false, true, false, true, false, true, false, true, false, true, false, true, false, false, true, false, true, false, true, false, false, false, false, false, false, false, false, false, false] rfl rfl (by kernel_rfl) (fun _ _ _ h => h) (Or.inl ⟨by rfl, ?_⟩) ?_ ?_
        rotate_left
        · intro w'
          go_simp
          with_reducible rfl
        rotate_left
        · simp only [Act.put, List.setIfInBounds_toArray, List.set_cons_zero, List.set_cons_succ, i64_w, i32_w]
          rfl
        refine pure_ (i := 32) (N := some 49) (v := ?_) (a' := ?_) #[true, true, true, true, false, true, false, false, true, false, false, true, false, true, false, true, false, true, false, true, false, true, false, true, false, false, true, false, true, false, true, false, true, false, false, false, false, false, false, false, false] rfl rfl (by kernel_rfl) (fun _ _ _ h => h) (Or.inl ⟨by rfl, ?_⟩) ?_ ?_
        rotate_left
        · intro w'
          go_simp
          with_reducible rfl
        rotate_left
        · simp only [Act.put, List.setIfInBounds_toArray, List.set_cons_zero, List.set_cons_succ, i64_w, i32_w]
          rfl
        refine take_ (i := 4) (N := some 21) (v := ?_) (a' := ?_) #[true, true, true, true, true, true, false, false, true, false, false, true, false, true, false, true, false, true, false, true, false, true, false, true, false, false, true, false, true, false, true, false, true, false, false, false, false, false, false, false, false] rfl rfl (by kernel_rfl) (fun _ _ _ h => h) (Or.inl ⟨by rfl, ?_⟩) hHeld ?_ ?_
        rotate_left
        · rintro w' ⟨s0, s1, s2, s3, s4, s5, s6, s7, s8, s9, s10, s11, s12, s13, s14, s15⟩
          go_simp
          with_reducible rfl
        rotate_left
        · simp only [Act.put, List.setIfInBounds_toArray, List.set_cons_zero, List.set_cons_succ, i64_w, i32_w]
          rfl
        refine take_ (i := 6) (N := some 23) (v := ?_) (a' := ?_) #[true, true, true, true, true, true, true, false, true, false, false, true, false, true, false, true, false, true, false, true, false, true, false, true, false, false, true, false, true, false, true, false, true, false, false, false, false, false, false, false, false] rfl rfl (by kernel_rfl) (fun _ _ _ h => h) (Or.inl ⟨by rfl, ?_⟩) hHeld ?_ ?_
        rotate_left
        · rintro w' ⟨s0, s1, s2, s3, s4, s5, s6, s7, s8, s9, s10, s11, s12, s13, s14, s15⟩
          go_simp
          with_reducible rfl
        rotate_left
        · simp only [Act.put, List.setIfInBounds_toArray, List.set_cons_zero, List.set_cons_succ, i64_w, i32_w]
          rfl
        refine take_ (i := 9) (N := some 26) (v := ?_) (a' := ?_) #[true, true, true, true, true, true, true, false, true, true, false, true, false, true, false, true, false, true, false, true, false, true, false, true, false, false, true, false, true, false, true, false, true, false, false, false, false, false, false, false, false] rfl rfl (by kernel_rfl) (fun _ _ _ h => h) (Or.inl ⟨by rfl, ?_⟩) hHeld ?_ ?_
        rotate_left
        · rintro w' ⟨s0, s1, s2, s3, s4, s5, s6, s7, s8, s9, s10, s11, s12, s13, s14, s15⟩
          go_simp
          with_reducible rfl
        rotate_left
        · simp only [Act.put, List.setIfInBounds_toArray, List.set_cons_zero, List.set_cons_succ, i64_w, i32_w]
          rfl
        refine take_ (i := 12) (N := some 29) (v := ?_) (a' := ?_) #[true, true, true, true, true, true, true, false, true, true, false, true, true, true, false, true, false, true, false, true, false, true, false, true, false, false, true, false, true, false, true, false, true, false, false, false, false, false, false, false, false] rfl rfl (by kernel_rfl) (fun _ _ _ h => h) (Or.inl ⟨by rfl, ?_⟩) hHeld ?_ ?_
        rotate_left
        · rintro w' ⟨s0, s1, s2, s3, s4, s5, s6, s7, s8, s9, s10, s11, s12, s13, s14, s15⟩
          go_simp
          with_reducible rfl
        rotate_left
        · simp only [Act.put, List.setIfInBounds_toArray, List.set_cons_zero, List.set_cons_succ, i64_w, i32_w]
          rfl
        refine take_ (i := 14) (N := some 31) (v := ?_) (a' := ?_) #[true, true, true, true, true, true, true, false, true, true, false, true, true, true, true, true, false, true, false, true, false, true, false, true, false, false, true, false, true, false, true, false, true, false, false, false, false, false, false, false, false] rfl rfl (by kernel_rfl) (fun _ _ _ h => h) (Or.inl ⟨by rfl, ?_⟩) hHeld ?_ ?_
        rotate_left
        · rintro w' ⟨s0, s1, s2, s3, s4, s5, s6, s7, s8, s9, s10, s11, s12, s13, s14, s15⟩
          go_simp
          with_reducible rfl
        rotate_left
        · simp only [Act.put, List.setIfInBounds_toArray, List.set_cons_zero, List.set_cons_succ, i64_w, i32_w]
          rfl
        refine take_ (i := 16) (N := some 33) (v := ?_) (a' := ?_) #[true, true, true, true, true, true, true, false, true, true, false, true, true, true, true, true, true, true, false, true, false, true, false, true, false, false, true, false, true, false, true, false, true, false, false, false, false, false, false, false, false] rfl rfl (by kernel_rfl) (fun _ _ _ h => h) (Or.inl ⟨by rfl, ?_⟩) hHeld ?_ ?_
        rotate_left
        · rintro w' ⟨s0, s1, s2, s3, s4, s5, s6, s7, s8, s9, s10, s11, s12, s13, s14, s15⟩
          go_simp
          with_reducible rfl
        rotate_left
        · simp only [Act.put, List.setIfInBounds_toArray, List.set_cons_zero, List.set_cons_succ, i64_w, i32_w]
          rfl
        refine take_ (i := 18) (N := some 35) (v := ?_) (a' := ?_) #[true, true, true, true, true, true, true, false, true, true, false, true, true, true, true, true, true, true, true, true, false, true, false, true, false, false, true, false, true, false, true, false, true, false, false, false, false, false, false, false, false] rfl rfl (by kernel_rfl) (fun _ _ _ h => h) (Or.inl ⟨by rfl, ?_⟩) hHeld ?_ ?_
        rotate_left
        · rintro w' ⟨s0, s1, s2, s3, s4, s5, s6, s7, s8, s9, s10, s11, s12, s13, s14, s15⟩
          go_simp
          with_reducible rfl
        rotate_left
        · simp only [Act.put, List.setIfInBounds_toArray, List.set_cons_zero, List.set_cons_succ, i64_w, i32_w]
          rfl
        refine take_ (i := 20) (N := some 37) (v := ?_) (a' := ?_) #[true, true, true, true, true, true, true, false, true, true, false, true, true, true, true, true, true, true, true, true, true, true, false, true, false, false, true, false, true, false, true, false, true, false, false, false, false, false, false, false, false] rfl rfl (by kernel_rfl) (fun _ _ _ h => h) (Or.inl ⟨by rfl, ?_⟩) hHeld ?_ ?_
        rotate_left
        · rintro w' ⟨s0, s1, s2, s3, s4, s5, s6, s7, s8, s9, s10, s11, s12, s13, s14, s15⟩
          go_simp
          with_reducible rfl
        rotate_left
        · simp only [Act.put, List.setIfInBounds_toArray, List.set_cons_zero, List.set_cons_succ, i64_w, i32_w]
          rfl
        refine take_ (i := 22) (N := some 39) (v := ?_) (a' := ?_) #[true, true, true, true, true, true, true, false, true, true, false, true, true, true, true, true, true, true, true, true, true, true, true, true, false, false, true, false, true, false, true, false, true, false, false, false, false, false, false, false, false] rfl rfl (by kernel_rfl) (fun _ _ _ h => h) (Or.inl ⟨by rfl, ?_⟩) hHeld ?_ ?_
        rotate_left
        · rintro w' ⟨s0, s1, s2, s3, s4, s5, s6, s7, s8, s9, s10, s11, s12, s13, s14, s15⟩
          go_simp
          with_reducible rfl
        rotate_left
        · simp only [Act.put, List.setIfInBounds_toArray, List.set_cons_zero, List.set_cons_succ, i64_w, i32_w]
          rfl
        refine take_ (i := 24) (N := some 41) (v := ?_) (a' := ?_) #[true, true, true, true, true, true, true, false, true, true, false, true, true, true, true, true, true, true, true, true, true, true, true, true, true, false, true, false, true, false, true, false, true, false, false, false, false, false, false, false, false] rfl rfl (by kernel_rfl) (fun _ _ _ h => h) (Or.inl ⟨by rfl, ?_⟩) hHeld ?_ ?_
        rotate_left
        · rintro w' ⟨s0, s1, s2, s3, s4, s5, s6, s7, s8, s9, s10, s11, s12, s13, s14, s15⟩
          go_simp
          with_reducible rfl
        rotate_left
        · simp only [Act.put, List.setIfInBounds_toArray, List.set_cons_zero, List.set_cons_succ, i64_w, i32_w]
          rfl
        refine take_ (i := 27) (N := some 44) (v := ?_) (a' := ?_) #[true, true, true, true, true, true, true, false, true, true, false, true, true, true, true, true, true, true, true, true, true, true, true, true, true, false, true, true, true, false, true, false, true, false, false, false, false, false, false, false, false] rfl rfl (by kernel_rfl) (fun _ _ _ h => h) (Or.inl ⟨by rfl, ?_⟩) hHeld ?_ ?_
        rotate_left
        · rintro w' ⟨s0, s1, s2, s3, s4, s5, s6, s7, s8, s9, s10, s11, s12, s13, s14, s15⟩
          go_simp
          with_reducible rfl
        rotate_left
        · simp only [Act.put, List.setIfInBounds_toArray, List.set_cons_zero, List.set_cons_succ, i64_w, i32_w]
          rfl
        refine take_ (i := 29) (N := some 46) (v := ?_) (a' := ?_) #[true, true, true, true, true, true, true, false, true, true, false, true, true, true, true, true, true, true, true, true, true, true, true, true, true, false, true, true, true, true, true, false, true, false, false, false, false, false, false, false, false] rfl rfl (by kernel_rfl) (fun _ _ _ h => h) (Or.inl ⟨by rfl, ?_⟩) hHeld ?_ ?_
        rotate_left
        · rintro w' ⟨s0, s1, s2, s3, s4, s5, s6, s7, s8, s9, s10, s11, s12, s13, s14, s15⟩
          go_simp
          with_reducible rfl
        rotate_left
        · simp only [Act.put, List.setIfInBounds_toArray, List.set_cons_zero, List.set_cons_succ, i64_w, i32_w]
          rfl
        refine take_ (i := 31) (N := some 48) (v := ?_) (a' := ?_) #[true, true, true, true, true, true, true, false, true, true, false, true, true, true, true, true, true, true, true, true, true, true, true, true, true, false, true, true, true, true, true, true, true, false, false, false, false, false, false, false, false] rfl rfl (by kernel_rfl) (fun _ _ _ h => h) (Or.inl ⟨by rfl, ?_⟩) hHeld ?_ ?_
        rotate_left
        · rintro w' ⟨s0, s1, s2, s3, s4, s5, s6, s7, s8, s9, s10, s11, s12, s13, s14, s15⟩
          go_simp
          with_reducible rfl
        rotate_left
        · simp only [Act.put, List.setIfInBounds_toArray, List.set_cons_zero, List.set_cons_succ, i64_w, i32_w]
          rfl
        refine take_ (i := 33) (N := some 50) (v := ?_) (a' := ?_) #[true, true, true, true, true, true, true, false, true, true, false, true, true, true, true, true, true, true, true, true, true, true, true, true, true, false, true, true, true, true, true, true, true, true, false, false, false, false, false, false, false] rfl rfl (by kernel_rfl) (fun _ _ _ h => h) (Or.inl ⟨by rfl, ?_⟩) hHeld ?_ ?_
        rotate_left
        · rintro w' ⟨s0, s1, s2, s3, s4, s5, s6, s7, s8, s9, s10, s11, s12, s13, s14, s15⟩
          go_simp
          with_reducible rfl
        rotate_left
        · simp only [Act.put, List.setIfInBounds_toArray, List.set_cons_zero, List.set_cons_succ, i64_w, i32_w]
          rfl
        refine one_ (i := 7) (N := some 24) #[true, true, true, true, true, true, true, true, true, true, false, true, true, true, true, true, true, true, true, true, true, true, true, true, true, false, true, true, true, true, true, true, true, true, false, false, false, false, false, false, false] rfl rfl (by kernel_rfl) (by decide) (fun K hK => ?_)
        refine goes_ Tryd.func80 (by kernel_rfl) rfl #[.agg #[.int .i64 x.f0.f0, .int .i64 x.f0.f1]] (by rfl) rfl rfl (by simp only [List.map_toArray, List.map_cons, List.map_nil]; rfl) ?_
        with_reducible refine (impl_timeOf.calls _ _ _ _ _ _ HT0.out).mono ?_
        rintro e w3 ⟨rfl, hb3⟩
        refine ⟨_, rfl, ?_⟩
        have BX3 := Aside0.mk ((hb3.block gx (blk_lt BX2.out)).trans BX2.out)
        have BF3 := Aside0.mk ((hb3.block gf (blk_lt BF2.out)).trans BF2.out)
        have HO3 := Aside0.mk (Kd.R_below HO2.out hb3)
        have HB3 := Aside0.mk (below_step HB2.out hb3)
        clear hb3
        refine hK.out _ _ ⟨(blk_cell BX3.out 1).trans rfl, (blk_cell BF3.out 0).trans rfl, (blk_cell BF3.out 1).trans rfl, (blk_cell BF3.out 2).trans rfl, (blk_cell BF3.out 3).trans rfl, (blk_cell BF3.out 4).trans rfl, (blk_cell BF3.out 5).trans rfl, (blk_cell BF3.out 6).trans rfl, (blk_cell BF3.out 7).trans rfl, (blk_cell BF3.out 8).trans rfl, (blk_cell BF3.out 9).trans rfl, (blk_cell BF3.out 10).trans rfl, (blk_cell BF3.out 11).trans rfl, (blk_cell BF3.out 12).trans rfl, (blk_cell BF3.out 13).trans rfl, (blk_cell BF3.out 14).trans rfl⟩ (fun hHeld => ?_)
        clear hK K
        refine norm_ (a' := ?_) ?_ ?_
        rotate_left
        · show Act.put _ (some 24) _ = _
          simp only [Act.put, List.setIfInBounds_toArray, List.set_cons_zero, List.set_cons_succ, i64_w, i32_w]
          rfl
        refine one_ (i := 10) (N := some 27) #[true, true, true, true, true, true, true, true, true, true, true, true, true, true, true, true, true, true, true, true, true, true, true, true, true, false, true, true, true, true, true, true, true, true, false, false, false, false, false, false, false] rfl rfl (by kernel_rfl) (by decide) (fun K hK => ?_)
        refine goes_ Tryd.func80 (by kernel_rfl) rfl #[.agg #[.int .i64 x.f1.f0, .int .i64 x.f1.f1]] (by rfl) rfl rfl (by simp only [List.map_toArray, List.map_cons, List.map_nil]; rfl) ?_
        with_reducible refine (impl_timeOf.calls _ _ _ _ _ _ HT1.out).mono ?_
        rintro e w4 ⟨rfl, hb4⟩
        refine ⟨_, rfl, ?_⟩
        have BX4 := Aside0.mk ((hb4.block gx (blk_lt BX3.out)).trans BX3.out)
        have BF4 := Aside0.mk ((hb4.block gf (blk_lt BF3.out)).trans BF3.out)
        have HO4 := Aside0.mk (Kd.R_below HO3.out hb4)
        have HB4 := Aside0.mk (below_step HB3.out hb4)
        clear hb4
        refine hK.out _ _ ⟨(blk_cell BX4.out 1).trans rfl, (blk_cell BF4.out 0).trans rfl, (blk_cell BF4.out 1).trans rfl, (blk_cell BF4.out 2).trans rfl, (blk_cell BF4.out 3).trans rfl, (blk_cell BF4.out 4).trans rfl, (blk_cell BF4.out 5).trans rfl, (blk_cell BF4.out 6).trans rfl, (blk_cell BF4.out 7).trans rfl, (blk_cell BF4.out 8).trans rfl, (blk_cell BF4.out 9).trans rfl, (blk_cell BF4.out 10).trans rfl, (blk_cell BF4.out 11).trans rfl, (blk_cell BF4.out 12).trans rfl, (blk_cell BF4.out 13).trans rfl, (blk_cell BF4.out 14).trans rfl⟩ (fun hHeld => ?_)
        clear hK K
        refine norm_ (a' := ?_) ?_ ?_
        rotate_left
        · show Act.put _ (some 27) _ = _
          simp only [Act.put, List.setIfInBounds_toArray, List.set_cons_zero, List.set_cons_succ, i64_w, i32_w]
          rfl
        refine one_ (i := 25) (N := some 42) #[true, true, true, true, true, true, true, true, true, true, true, true, true, true, true, true, true, true, true, true, true, true, true, true, true, true, true, true, true, true, true, true, true, true, false, false, false, false, false, false, false] rfl rfl (by kernel_rfl) (by decide) (fun K hK => ?_)
        refine goes_ Tryd.func47 (by kernel_rfl) rfl #[.string x.f8] (by rfl) rfl rfl (by simp only [List.map_toArray, List.map_cons, List.map_nil]; rfl) ?_
        with_reducible refine (HNH.out _ HB4.out).mono ?_
        rintro e w5 ⟨rfl, hb5⟩
        refine ⟨_, rfl, ?_⟩
        have BX5 := Aside0.mk ((hb5.block gx (blk_lt BX4.out)).trans BX4.out)
        have BF5 := Aside0.mk ((hb5.block gf (blk_lt BF4.out)).trans BF4.out)
        have HO5 := Aside0.mk (Kd.R_below HO4.out hb5)
        have HB5 := Aside0.mk (below_step HB4.out hb5)
        clear hb5
        refine hK.out _ _ ⟨(blk_cell BX5.out 1).trans rfl, (blk_cell BF5.out 0).trans rfl, (blk_cell BF5.out 1).trans rfl, (blk_cell BF5.out 2).trans rfl, (blk_cell BF5.out 3).trans rfl, (blk_cell BF5.out 4).trans rfl, (blk_cell BF5.out 5).trans rfl, (blk_cell BF5.out 6).trans rfl, (blk_cell BF5.out 7).trans rfl, (blk_cell BF5.out 8).trans rfl, (blk_cell BF5.out 9).trans rfl, (blk_cell BF5.out 10).trans rfl, (blk_cell BF5.out 11).trans rfl, (blk_cell BF5.out 12).trans rfl, (blk_cell BF5.out 13).trans rfl, (blk_cell BF5.out 14).trans rfl⟩ (fun hHeld => ?_)
        clear hK K
        refine norm_ (a' := ?_) ?_ ?_
        rotate_left
        · show Act.put _ (some 42) _ = _
          simp only [Act.put, List.setIfInBounds_toArray, List.set_cons_zero, List.set_cons_succ, i64_w, i32_w]
          rfl
        refine pure_ (i := 34) (N := some 51) (v := .agg entA) (a' := ?_) #[true, true, true, true, true, true, true, true, true, true, true, true, true, true, true, true, true, true, true, true, true, true, true, true, true, true, true, true, true, true, true, true, true, true, true, false, false, false, false, false, false] rfl rfl (by kernel_rfl) (fun _ _ _ h => h) ?hy34 ?_ ?_
        case hy34 => exact yields_build (by rfl) 139 _ rfl (entParts x D) (by simp only [List.map_toArray, List.map_cons, List.map_nil]; rfl) entA HBLT.out
        rotate_left
        · simp only [Act.put, List.setIfInBounds_toArray, List.set_cons_zero, List.set_cons_succ, i64_w, i32_w]
          rfl
        refine one_ (i := 35) (N := some 52) #[true, true, true, true, true, true, true, true, true, true, true, true, true, true, true, true, true, true, true, true, true, true, true, true, true, true, true, true, true, true, true, true, true, true, true, true, false, false, false, false, false] rfl rfl (by kernel_rfl) (by decide) (fun K hK => ?_)
        refine value_ (w1 := ?_) (v := ?_) (by rfl) rfl ?_ ?_
        rotate_left 2
        · go_simp
          constructor
          · rfl
          · rfl
        have BX6 := Aside0.mk (blk_alloc BX5.out (.cells entA 139 (0, 0)))
        have BF6 := Aside0.mk (blk_alloc BF5.out (.cells entA 139 (0, 0)))
        refine hK.out _ _ ⟨(blk_cell BX6.out 1).trans rfl, (blk_cell BF6.out 0).trans rfl, (blk_cell BF6.out 1).trans rfl, (blk_cell BF6.out 2).trans rfl, (blk_cell BF6.out 3).trans rfl, (blk_cell BF6.out 4).trans rfl, (blk_cell BF6.out 5).trans rfl, (blk_cell BF6.out 6).trans rfl, (blk_cell BF6.out 7).trans rfl, (blk_cell BF6.out 8).trans rfl, (blk_cell BF6.out 9).trans rfl, (blk_cell BF6.out 10).trans rfl, (blk_cell BF6.out 11).trans rfl, (blk_cell BF6.out 12).trans rfl, (blk_cell BF6.out 13).trans rfl, (blk_cell BF6.out 14).trans rfl⟩ (fun hHeld => ?_)
        clear hK K
        refine norm_ (a' := ?_) ?_ ?_
        rotate_left
        · show Act.put _ (some 52) _ = _
          simp only [Act.put, List.setIfInBounds_toArray, List.set_cons_zero, List.set_cons_succ, i64_w, i32_w]
          rfl
        refine one_ (i := 36) (N := some 53) #[true, true, true, true, true, true, true, true, true, true, true, true, true, true, true, true, true, true, true, true, true, true, true, true, true, true, true, true, true, true, true, true, true, true, true, true, true, false, false, false, false] rfl rfl (by kernel_rfl) (by decide) (fun K hK => ?_)
        refine value_ (w1 := ?_) (v := ?_) (by rfl) rfl ?_ ?_
        rotate_left 2
        · go_simp
          constructor
          · rfl
          · rfl
        have HM6 := Aside0.mk (ent_M w5 w.heap.size HB5.out.size HENT.out)
        refine hK.out _ _ ⟨(blk_cell (blk_alloc BX6.out _) 1).trans rfl, (blk_cell (blk_alloc BF6.out _) 0).trans rfl, (blk_cell (blk_alloc BF6.out _) 1).trans rfl, (blk_cell (blk_alloc BF6.out _) 2).trans rfl, (blk_cell (blk_alloc BF6.out _) 3).trans rfl, (blk_cell (blk_alloc BF6.out _) 4).trans rfl, (blk_cell (blk_alloc BF6.out _) 5).trans rfl, (blk_cell (blk_alloc BF6.out _) 6).trans rfl, (blk_cell (blk_alloc BF6.out _) 7).trans rfl, (blk_cell (blk_alloc BF6.out _) 8).trans rfl, (blk_cell (blk_alloc BF6.out _) 9).trans rfl, (blk_cell (blk_alloc BF6.out _) 10).trans rfl, (blk_cell (blk_alloc BF6.out _) 11).trans rfl, (blk_cell (blk_alloc BF6.out _) 12).trans rfl, (blk_cell (blk_alloc BF6.out _) 13).trans rfl, (blk_cell (blk_alloc BF6.out _) 14).trans rfl⟩ (fun hHeld => ?_)
        clear hK K
        refine norm_ (a' := ?_) ?_ ?_
        rotate_left
        · show Act.put _ (some 53) _ = _
          simp only [Act.put, List.setIfInBounds_toArray, List.set_cons_zero, List.set_cons_succ, i64_w, i32_w]
          rfl
        refine last_ (i := 37) (N := some 54) #[true, true, true, true, true, true, true, true, true, true, true, true, true, true, true, true, true, true, true, true, true, true, true, true, true, true, true, true, true, true, true, true, true, true, true, true, true, true, false, false, false] rfl rfl (by kernel_rfl) (by decide) (fun K hK => ?_)
        refine append_E kPE (w0 := w) (W := w5.alloc (.cells entA 139 (0, 0))) w.heap.size rfl (.tmp 21) (.tmp 53) 127 91 (.pointer none) 8 rfl Tryd.underlying127 infoE rfl (by decide) (by omega) (.slice Av ys.length cv) ys x [.pointer (some ⟨w5.heap.size, 0, none⟩)] (fun _ => True) (fun k => w5.heap.size ≤ k) rfl (HHH.out w5) HM6.out (fun k hk => ⟨trivial, Kd.fresh' (Kd.R_lt HO5.out) k hk⟩) (fun _ _ => trivial) (Kd.R_alloc HO5.out _) (below_alloc HB5.out _) (below_size (below_alloc HB5.out _)) (ent_room HYl.out) ?_
        intro v7 w7 ho hb hg hat
        rw [← HTu.out] at ho
        obtain ⟨A7, c7, e7⟩ := Kd.R_slice ho
        subst e7
        have HO7 := Aside0.mk ho
        have HB7 := Aside0.mk hb
        have BX7 := Aside0.mk (blk_grown BX6.out hg (Kd.R_ne (Kd.R_alloc HO5.out (.cells entA 139 (0, 0))) BX6.out (by decide)))
        clear ho hb hg hat
        have m1 : w7.cell? ⟨gx, 1, none⟩ = some (.slice Av ys.length cv) := (blk_cell BX7.out 1).trans rfl
        have mf := blk_frozen BX7.out 1
        refine hK.out _ _ ?_
        clear hK K
        refine norm_ (a' := ?_) ?_ ?_
        rotate_left
        · show Act.put _ (some 54) _ = _
          simp only [Act.put, List.setIfInBounds_toArray, List.set_cons_zero, List.set_cons_succ, i64_w, i32_w]
          rfl
        refine pure_ (i := 38) (N := some 55) (v := ?_) (a' := ?_) #[true, true, true, true, true, true, true, true, true, true, true, true, true, true, true, true, true, true, true, true, true, true, true, true, true, true, true, true, true, true, true, true, true, true, true, true, true, true, true, false, false] rfl rfl (by kernel_rfl) (fun _ _ _ h => h) (Or.inl ⟨by rfl, ?_⟩) ?_ ?_
        rotate_left
        · intro w'
          go_simp
          with_reducible rfl
        rotate_left
        · simp only [Act.put, List.setIfInBounds_toArray, List.set_cons_zero, List.set_cons_succ, i64_w, i32_w]
          rfl
        refine pure_ (i := 39) (N := some 56) (v := ?_) (a' := ?_) #[true, true, true, true, true, true, true, true, true, true, true, true, true, true, true, true, true, true, true, true, true, true, true, true, true, true, true, true, true, true, true, true, true, true, true, true, true, true, true, true, false] rfl rfl (by kernel_rfl) (fun _ _ _ h => h) (Or.inl ⟨by rfl, ?_⟩) ?_ ?_
        rotate_left
        · intro w'
          go_simp
          with_reducible rfl
        rotate_left
        · simp only [Act.put, List.setIfInBounds_toArray, List.set_cons_zero, List.set_cons_succ, i64_w, i32_w]
          rfl
        refine last_ (i := 40) (N := none) #[true, true, true, true, true, true, true, true, true, true, true, true, true, true, true, true, true, true, true, true, true, true, true, true, true, true, true, true, true, true, true, true, true, true, true, true, true, true, true, true, true] rfl rfl (by kernel_rfl) (by decide) (fun K hK => ?_)
        refine skip_ (w1 := ?_) (by rfl) rfl ?_ ?_
        rotate_left
        · go_simp
          rfl
        refine hK.out _ _ ?_
        clear hK K
        refine done_ (by kernel_rfl) ?_
        go_wp2
        go_roundg k1
        case measure => have := HK.out; omega
        case rel => exact ⟨j + 1, .slice A7 zs.length c7, by go_num, HI.out, ⟨by have := HK.out; omega⟩, ⟨blk_put (cs := idxCells (.slice Av ys.length cv)) BX7.out 1 _ rfl⟩, ⟨by rw [HZ.out]; exact Kd.R_set HO7.out BX7.out (by decide) 1 _⟩, ⟨below_set HB7.out GX.out⟩⟩
      · have c5b0 : decide ((j : Int) < (l.length : Int)) = false := decide_eq_false (by omega)
        have HT := Aside0.mk (show l.take j = l from List.take_of_length_le (by omega))
        rw [HT.out] at HO
        go_wp2
        go_ret
        exact ⟨gx, v, rfl, GX.out, BX.out, HO.out, HB.out⟩
end Go.Proofs.YtoofbppfbbhliaaDoor.idx
