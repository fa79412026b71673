/- Shallow lines: rows of names; a line's name is appended. -/
import Derived.Test.YthjeihbnlfnkcaaDoorShA
import Derived.Deep.DeepMust
namespace Go.Proofs.YthjeihbnlfnkcaaDoor.shal
open Go.RowKit Go.Lib Go.Proofs.YthjeihbnlfnkcaaDoorW.PrintWords Go.Proofs.YthjeihbnlfnkcaaDoorW.PrintLast Go.Proofs.YthjeihbnlfnkcaaDoorW.PrintMore Go.Proofs.YthjeihbnlfnkcaaDoor.PFnProtoShallowRead Go.Proofs.YthjeihbnlfnkcaaDoor.pkt Go.Proofs.YthjeihbnlfnkcaaDoor.hash
set_option linter.unusedVariables false
set_option linter.unusedSimpArgs false
set_option maxHeartbeats 2000000
set_option maxRecDepth 100000
/-- A name of an object, as the 20 bytes that it stands for. -/
def kH : Kd ByteArray where
  sz := 20
  E := []
  K := fun _ s cs => name40 s = true ∧ cs = cells (raw s)
  M := fun _ _ _ s cs => name40 s = true ∧ cs = cells (raw s)
  K_len := fun h => by rw [h.2, cells, List.length_map, (raw_says h.1).2.1]
  K_one := fun h => by rw [h.2]; exact cells_one _
  K_below := fun _ h => h
  K_of_M := fun h => h
  M_mono := fun _ h => h
  M_bound := fun h => h
  M_move := fun _ h => h
  M_lower := fun _ h => h
theorem len20 {α : Type} {l : List α} (h : l.length = 20) : ∃ c0 c1 c2 c3 c4 c5 c6 c7 c8 c9 c10 c11 c12 c13 c14 c15 c16 c17 c18 c19, l = [c0, c1, c2, c3, c4, c5, c6, c7, c8, c9, c10, c11, c12, c13, c14, c15, c16, c17, c18, c19] := by
  match l, h with
  | [c0, c1, c2, c3, c4, c5, c6, c7, c8, c9, c10, c11, c12, c13, c14, c15, c16, c17, c18, c19], _ => exact ⟨c0, c1, c2, c3, c4, c5, c6, c7, c8, c9, c10, c11, c12, c13, c14, c15, c16, c17, c18, c19, rfl⟩
theorem run_buildH (W : World) (cs : List Value) (hl : cs.length = 20) :
    (Instr.buildSlice 51 1 #[(0, .agg cs.toArray)]).run Tryd.prog W = .ok (.slice (some ⟨W.heap.size, 0, none⟩) 1 1) (W.alloc (.cells cs.toArray 85 (0, 0))) := by
  obtain ⟨c0, c1, c2, c3, c4, c5, c6, c7, c8, c9, c10, c11, c12, c13, c14, c15, c16, c17, c18, c19, rfl⟩ := len20 hl
  kernel_rfl
theorem infoH : (Tryd.prog.info? 85).map (fun i => (i.zero, i.size, i.bytes)) = some (some (.agg #[.int .u8 0, .int .u8 0, .int .u8 0, .int .u8 0, .int .u8 0, .int .u8 0, .int .u8 0, .int .u8 0, .int .u8 0, .int .u8 0, .int .u8 0, .int .u8 0, .int .u8 0, .int .u8 0, .int .u8 0, .int .u8 0, .int .u8 0, .int .u8 0, .int .u8 0, .int .u8 0]), 20, 20) := by kernel_rfl
theorem step_buildH {ops : Array Oper} {o : Oper} {a : Act} {w : World} {K : Act → World → Prop} {Q : Exit → Act → World → Prop} {E : Prop} (hgd : o.guard = none) (x : Operand)
    (ho : o.op = .buildSlice 51 1 #[(0, x)]) (cs : List Value) (hx : a.eval x = .agg cs.toArray) (hl : cs.length = 20)
    (h : K (a.put o.dst (.slice (some ⟨w.heap.size, 0, none⟩) 1 1)) (w.alloc (.cells cs.toArray 85 (0, 0)))) : if Region.wanted o (yielded ops a.tmps) = true then Oper.wp Tryd.prog o a w K Q else E := by
  have hw : Region.wanted o (yielded ops a.tmps) = true := by simp [Region.wanted, hgd]
  rw [if_pos hw]
  have hr := run_buildH w cs hl
  unfold Oper.wp execOp
  simp only [ho, List.map_toArray, List.map_cons, List.map_nil, hx, Sem.run_bind, Sem.run_pure, hr, Result.andThen_ok]
  exact h
theorem step_loadH {ops : Array Oper} {o : Oper} {a : Act} {w : World} {K : Act → World → Prop} {Q : Exit → Act → World → Prop} {E : Prop} (hgd : o.guard = none) (x : Operand) (ho : o.op = .load 85 x)
    (g : Nat) (cs : List Value) (hx : a.eval x = .pointer (some ⟨g, 0, none⟩)) (hg : w.heap[g]? = some (.cells cs.toArray 85 (0, 0))) (hl : cs.length = 20)
    (h : K (a.put o.dst (.agg cs.toArray)) w) : if Region.wanted o (yielded ops a.tmps) = true then Oper.wp Tryd.prog o a w K Q else E := by
  have hw : Region.wanted o (yielded ops a.tmps) = true := by simp [Region.wanted, hgd]
  rw [if_pos hw]
  refine wp_load_row 85 x ho g hx 85 cs.toArray (0, 0) _ hg Tryd.underlying85 rfl ?_ h
  have hi : (Tryd.prog.info? 85).map (·.size) = some 20 := by kernel_rfl
  rw [hi]
  simp [hl]
theorem append_E {P : Program} {ops : Array Oper} {o : Oper} {a : Act} {Q : Exit → Act → World → Prop} {Kc : Act → World → Prop} {E : Prop} {α : Type} (d : Kd α) {w0 W : World} (base : Nat) (hgd : o.guard = none) (s x : Operand) (t e : TypeId) (z : Value) (bytes : Nat)
    (ho : o.op = .call { callee := .builtin .append, args := #[s, x], argTypes := #[t, t] })
    (ht : P.underlying t = some (.slice e)) (hinfo : (P.info? e).map (fun i => (i.zero, i.size, i.bytes)) = some (some z, d.sz, bytes)) (hz : z.cells.size = d.sz) (hs0 : 0 < d.sz) (hb0 : 0 < bytes)
    (v : Value) (xs : List α) (p : α) (cs : List Value) (ok okp : Nat → Prop) (hs : a.eval s = v) (hx : a.eval x = .slice (some ⟨W.heap.size, 0, none⟩) 1 1) (hp : d.M W base okp p cs) (hokp : ∀ k, okp k → ok k ∧ some k ≠ v.ownBlock) (hfresh : ∀ k, W.heap.size ≤ k → ok k)
    (HO : d.R e W base ok v xs) (HB : Below base w0 W) (hbase : base ≤ W.heap.size) (hl : (xs.length + 1) * bytes ≤ 140737488355328)
    (h : ∀ v1 w1, d.R e w1 base ok v1 (xs ++ [p]) → Below base w0 w1 → W.grownBy w1 v.ownBlock → (v1.ownBlock = v.ownBlock ∨ ∃ b, v1.ownBlock = some b ∧ W.heap.size ≤ b) → Kc (a.put o.dst v1) w1) :
    if Region.wanted o (yielded ops a.tmps) = true then Oper.wp P o a (W.alloc (.cells cs.toArray e)) Kc Q else E := by
  have hw : Region.wanted o (yielded ops a.tmps) = true := by simp [Region.wanted, hgd]
  have := Kd.R_append_step d (Q := Q) base hw s x t e z bytes ho ht hinfo hz hs0 hb0 v xs p cs ok okp hs hx hp hokp hfresh HO HB hbase hl h
  rw [if_pos hw] at this
  rw [if_pos hw]
  exact this
theorem decodeShallowLine_any (w0 w : World) (ub : Nat) (A1 A : Option Addr) (c1 c : Nat) (v2 : Value) (l : List ByteArray) (s : ByteArray) (ev : Value) (hE : w.cell? ⟨14, 0, none⟩ = some ev) (hn : name40 s = true)
    (hC : (Kd.int .u8).C w A (bare (true, s)).length (bare (true, s))) (hc : 48 ≤ c) (hU : w.heap[ub]? = some (.cells #[.slice A1 l.length c1, v2] 53 (0, 0))) (hR : kH.R 85 w w0.heap.size (fun _ => True) (.slice A1 l.length c1) l) (hB0 : Below w0.heap.size w0 w) (hub : w0.heap.size ≤ ub) (hl : l.length ≤ 1000) :
    Calls Tryd.prog 46 #[.pointer (some ⟨ub, 0, none⟩), .slice A 48 c] w fun e w' => ∃ A1' c1', e = .returned .nilIface ∧ w'.heap[ub]? = some (.cells #[.slice A1' (l.length + 1) c1', v2] 53 (0, 0)) ∧ kH.R 85 w' w0.heap.size (fun _ => True) (.slice A1' (l.length + 1) c1') (l ++ [s]) ∧
      Near3 w w' ub ub (Value.ownBlock (.slice A1 l.length c1)) ∧ (Value.ownBlock (.slice A1' (l.length + 1) c1') = Value.ownBlock (.slice A1 l.length c1) ∨ ∃ b, Value.ownBlock (.slice A1' (l.length + 1) c1') = some b ∧ w.heap.size ≤ b) ∧ Below w0.heap.size w0 w' := by
  have HE := Aside0.mk hE
  have HN := Aside0.mk hn
  have HC := Aside0.mk hC
  have HU := Aside0.mk hU
  have HR := Aside0.mk hR
  have HB0 := Aside0.mk hB0
  have HUB := Aside0.mk hub
  have HL := Aside0.mk hl
  have hS := Aside0.mk (shallow_any w)
  have hall : (cells (raw s)).toArray.all (·.oneCell') = true := by
    rw [Array.all_eq_true']
    intro v hv
    exact cells_one _ v (by simpa using hv)
  have HALL := Aside0.mk hall
  have HR2 := Aside0.mk (raw_says hn).2.1
  have HC20 := Aside0.mk (show (cells (raw s)).length = 20 from by rw [cells, List.length_map, (raw_says hn).2.1])
  clear hE hC hU hR hB0 hub hl hall hn
  go_enter Tryd.func46, Tryd.ntmps46
  go_wp2_with fail
  refine hS.out.mono ?_
  rintro e w1 ⟨Ap, cp, rfl, hcp, _, hb1⟩
  have HDL := Aside0.mk (decodeLine_true w1 ⟨ub, 0, none⟩ A Ap c (word true).length cp s ev ((hb1.cell (World.block_lt_of_cell? _ _ HE.out)).trans HE.out) HN.out (Kd.C_below HC.out hb1) hc)
  have HB1 := Aside0.mk hb1
  clear hb1 hS hcp
  go_wp2_with fail
  refine HDL.out.mono ?_
  rintro e w2 ⟨rfl, hb2⟩
  have HB2 := Aside0.mk (below_step HB1.out hb2)
  clear hb2 HDL
  go_wp2_with (first | ((with_reducible show wpList _ _ _ (⟨none, .store _ _ _, _, _, _, _⟩ :: _) _ _); refine wpList_store_row rfl 85 (.tmp 5) (.tmp 12) rfl w2.heap.size (cells (raw s)).toArray rfl rfl 85 _ (heap_alloc_new w2 _) (info20 HR2.out) (by simp [cells, HR2.out]) HALL.out ?_) | fail)
  generalize hW4 : World.setRow _ _ _ = w4
  have HB4 := Aside0.mk (show Below w.heap.size w w4 by rw [← hW4]; exact below_setRow (HB2.out.alloc HB2.out.size _) HB2.out.size _)
  have HT5 := Aside0.mk (show w4.drew.heap[w2.heap.size]? = some (.cells (cells (raw s)).toArray 85 (0, 0)) by rw [← hW4]; exact setRow_heap _ w2.heap.size _ _ _ _ (heap_alloc_new w2 _))
  have HU4 := Aside0.mk (show w4.drew.heap[ub]? = some (.cells #[.slice A1 l.length c1, v2] 53 (0, 0)) from blk_drew (blk_below HU.out HB4.out))
  have HR4 := Aside0.mk (show kH.R 85 w4.drew w0.heap.size (fun _ => True) (.slice A1 l.length c1) l from Kd.R_drew (Kd.R_below HR.out HB4.out))
  have HB5 := Aside0.mk (show Below w0.heap.size w0 w4.drew from below_drew1 (HB0.out.trans (HB4.out.mono HB0.out.size)))
  have HNE := Aside0.mk (Kd.R_ne HR4.out HU4.out (by decide))
  have HC0 := Aside0.mk (show w4.drew.cell? ⟨ub, 0, none⟩ = some (.slice A1 l.length c1) from (blk_cell HU4.out 0).trans rfl)
  have HN5 := Aside0.mk (show some w2.heap.size ≠ Value.ownBlock (.slice A1 l.length c1) from fun he => by have := Kd.R_lt HR.out _ he.symm; have := HB2.out.size; omega)
  clear hW4
  refine start_ (n := 11) (S := fun w' => w'.cell? ⟨ub, 0, none⟩ = some (.slice A1 l.length c1) ∧ w'.heap[w2.heap.size]? = some (.cells (cells (raw s)).toArray 85 (0, 0))) (ds := [10]) #[false, false, false, false, false, false, false, false, false, false, false] (by kernel_rfl) rfl rfl ⟨HC0.out, HT5.out⟩ (fun hHeld => ?_)
  refine pure_ (i := 0) (N := some 17) (v := ?_) (a' := ?_) #[true, false, false, false, false, false, false, false, false, false, false] rfl rfl (by kernel_rfl) (fun _ _ _ h => h) (Or.inl ⟨by rfl, ?_⟩) ?_ ?_
  rotate_left
  · intro w'
    go_simp
    with_reducible rfl
  rotate_left
  · simp only [Act.put, List.setIfInBounds_toArray, List.set_cons_zero, List.set_cons_succ, i64_w, i32_w]
    rfl
  refine pure_ (i := 1) (N := some 18) (v := ?_) (a' := ?_) #[true, true, false, false, false, false, false, false, false, false, false] rfl rfl (by kernel_rfl) (fun _ _ _ h => h) (Or.inl ⟨by rfl, ?_⟩) ?_ ?_
  rotate_left
  · intro w'
    go_simp
    with_reducible rfl
  rotate_left
  · simp only [Act.put, List.setIfInBounds_toArray, List.set_cons_zero, List.set_cons_succ, i64_w, i32_w]
    rfl
  refine pure_ (i := 2) (N := some 19) (v := ?_) (a' := ?_) #[true, true, true, false, false, false, false, false, false, false, false] rfl rfl (by kernel_rfl) (fun _ _ _ h => h) (Or.inl ⟨by rfl, ?_⟩) ?_ ?_
  rotate_left
  · intro w'
    go_simp
    with_reducible rfl
  rotate_left
  · simp only [Act.put, List.setIfInBounds_toArray, List.set_cons_zero, List.set_cons_succ, i64_w, i32_w]
    rfl
  refine pure_ (i := 3) (N := some 20) (v := ?_) (a' := ?_) #[true, true, true, true, false, false, false, false, false, false, false] rfl rfl (by kernel_rfl) (fun _ _ _ h => h) (Or.inl ⟨by rfl, ?_⟩) ?_ ?_
  rotate_left
  · intro w'
    go_simp
    with_reducible rfl
  rotate_left
  · simp only [Act.put, List.setIfInBounds_toArray, List.set_cons_zero, List.set_cons_succ, i64_w, i32_w]
    rfl
  refine take_ (i := 4) (N := some 21) (v := ?_) (a' := ?_) #[true, true, true, true, true, false, false, false, false, false, false] rfl rfl (by kernel_rfl) (fun _ _ _ h => h) (Or.inl ⟨by rfl, ?_⟩) hHeld ?_ ?_
  rotate_left
  · rintro w' ⟨s0, s1⟩
    go_simp
    with_reducible rfl
  rotate_left
  · simp only [Act.put, List.setIfInBounds_toArray, List.set_cons_zero, List.set_cons_succ, i64_w, i32_w]
    rfl
  refine one_ (i := 5) (N := some 22) #[true, true, true, true, true, true, false, false, false, false, false] rfl rfl (by kernel_rfl) (by decide) (fun K hK => ?_)
  refine step_loadH rfl (.tmp 5) rfl w2.heap.size (cells (raw s)) rfl HT5.out HC20.out ?_
  refine hK.out _ _ ⟨HC0.out, HT5.out⟩ (fun hHeld => ?_)
  clear hK K
  refine norm_ (a' := ?_) ?_ ?_
  rotate_left
  · show Act.put _ (some 22) _ = _
    simp only [Act.put, List.setIfInBounds_toArray, List.set_cons_zero, List.set_cons_succ, i64_w, i32_w]
    rfl
  refine one_ (i := 6) (N := some 23) #[true, true, true, true, true, true, true, false, false, false, false] rfl rfl (by kernel_rfl) (by decide) (fun K hK => ?_)
  refine step_buildH rfl (.tmp 22) rfl (cells (raw s)) rfl HC20.out ?_
  refine hK.out _ _ ⟨(blk_cell (blk_alloc HU4.out _) 0).trans rfl, blk_alloc HT5.out _⟩ (fun hHeld => ?_)
  clear hK K
  refine norm_ (a' := ?_) ?_ ?_
  rotate_left
  · show Act.put _ (some 23) _ = _
    simp only [Act.put, List.setIfInBounds_toArray, List.set_cons_zero, List.set_cons_succ, i64_w, i32_w]
    rfl
  refine one_ (i := 7) (N := some 24) #[true, true, true, true, true, true, true, true, false, false, false] rfl rfl (by kernel_rfl) (by decide) (fun K hK => ?_)
  refine append_E kH (w0 := w0) (W := w4.drew) w0.heap.size rfl (.tmp 21) (.tmp 23) 51 85 (.agg #[.int .u8 0, .int .u8 0, .int .u8 0, .int .u8 0, .int .u8 0, .int .u8 0, .int .u8 0, .int .u8 0, .int .u8 0, .int .u8 0, .int .u8 0, .int .u8 0, .int .u8 0, .int .u8 0, .int .u8 0, .int .u8 0, .int .u8 0, .int .u8 0, .int .u8 0, .int .u8 0]) 20 rfl Tryd.underlying51 infoH rfl (by decide) (by decide) (.slice A1 l.length c1) l s (cells (raw s)) (fun _ => True) (fun _ => False) rfl rfl ⟨HN.out, rfl⟩ (fun _ h => h.elim) (fun _ _ => trivial) HR4.out HB5.out HB5.out.size (by have := HL.out; omega) ?_
  intro v5 w5 h1 h2 h3 h4
  obtain ⟨A1', c1', hv5⟩ := Kd.R_slice h1
  rw [List.length_append, List.length_singleton] at hv5
  subst hv5
  have HR5 := Aside0.mk h1
  have HB6 := Aside0.mk h2
  have HG5 := Aside0.mk h3
  have HO5 := Aside0.mk h4
  have HU5 := Aside0.mk (blk_grown HU4.out h3 HNE.out)
  have HT5b := Aside0.mk (blk_grown HT5.out h3 HN5.out)
  clear h1 h2 h3 h4
  have hc5 : w5.cell? ⟨ub, 0, none⟩ = some (.slice A1 l.length c1) := (blk_cell HU5.out 0).trans rfl
  have hf5 := blk_frozen HU5.out 0
  refine hK.out _ _ ⟨hc5, HT5b.out⟩ (fun hHeld => ?_)
  clear hK K
  refine norm_ (a' := ?_) ?_ ?_
  rotate_left
  · show Act.put _ (some 24) _ = _
    simp only [Act.put, List.setIfInBounds_toArray, List.set_cons_zero, List.set_cons_succ, i64_w, i32_w]
    rfl
  refine pure_ (i := 8) (N := some 25) (v := ?_) (a' := ?_) #[true, true, true, true, true, true, true, true, true, false, false] rfl rfl (by kernel_rfl) (fun _ _ _ h => h) (Or.inl ⟨by rfl, ?_⟩) ?_ ?_
  rotate_left
  · intro w'
    go_simp
    with_reducible rfl
  rotate_left
  · simp only [Act.put, List.setIfInBounds_toArray, List.set_cons_zero, List.set_cons_succ, i64_w, i32_w]
    rfl
  refine pure_ (i := 9) (N := some 26) (v := ?_) (a' := ?_) #[true, true, true, true, true, true, true, true, true, true, false] rfl rfl (by kernel_rfl) (fun _ _ _ h => h) (Or.inl ⟨by rfl, ?_⟩) ?_ ?_
  rotate_left
  · intro w'
    go_simp
    with_reducible rfl
  rotate_left
  · simp only [Act.put, List.setIfInBounds_toArray, List.set_cons_zero, List.set_cons_succ, i64_w, i32_w]
    rfl
  refine last_ (i := 10) (N := none) #[true, true, true, true, true, true, true, true, true, true, true] rfl rfl (by kernel_rfl) (by decide) (fun K hK => ?_)
  refine skip_ (w1 := ?_) (by rfl) rfl ?_ ?_
  rotate_left
  · go_simp
    rfl
  refine hK.out _ _ ?_
  clear hK K
  refine done_ (by kernel_rfl) ?_
  go_wp2_with fail
  go_ret
  refine ⟨A1', c1', rfl, blk_put HU5.out 0 _ rfl, Kd.R_set HR5.out HU5.out (fun q hq => by simp [kH] at hq; subst hq; decide) 0 _, Near3.put ⟨HG5.out.os.trans HB4.out.os, HG5.out.tape.trans HB4.out.tape, HG5.out.output.trans HB4.out.output, Nat.le_trans HB4.out.size HG5.out.size, fun k hk h1 h2 h3 => (HG5.out.block k (Nat.lt_of_lt_of_le hk HB4.out.size) h3).trans (HB4.out.block k hk)⟩ 0 _, ?_, HB6.out.setCell HUB.out _⟩
  rcases HO5.out with h | ⟨b, h, hle⟩
  · exact .inl h
  · exact .inr ⟨b, h, Nat.le_trans HB4.out.size hle⟩
theorem decodeUnshallowLine_any (w0 w : World) (ub : Nat) (A1 A : Option Addr) (c1 c : Nat) (v2 : Value) (l : List ByteArray) (s : ByteArray) (ev : Value) (hE : w.cell? ⟨14, 0, none⟩ = some ev) (hn : name40 s = true)
    (hC : (Kd.int .u8).C w A (bare (false, s)).length (bare (false, s))) (hc : 50 ≤ c) (hU : w.heap[ub]? = some (.cells #[v2, .slice A1 l.length c1] 53 (0, 0))) (hR : kH.R 85 w w0.heap.size (fun _ => True) (.slice A1 l.length c1) l) (hB0 : Below w0.heap.size w0 w) (hub : w0.heap.size ≤ ub) (hl : l.length ≤ 1000) :
    Calls Tryd.prog 48 #[.pointer (some ⟨ub, 0, none⟩), .slice A 50 c] w fun e w' => ∃ A1' c1', e = .returned .nilIface ∧ w'.heap[ub]? = some (.cells #[v2, .slice A1' (l.length + 1) c1'] 53 (0, 0)) ∧ kH.R 85 w' w0.heap.size (fun _ => True) (.slice A1' (l.length + 1) c1') (l ++ [s]) ∧
      Near3 w w' ub ub (Value.ownBlock (.slice A1 l.length c1)) ∧ (Value.ownBlock (.slice A1' (l.length + 1) c1') = Value.ownBlock (.slice A1 l.length c1) ∨ ∃ b, Value.ownBlock (.slice A1' (l.length + 1) c1') = some b ∧ w.heap.size ≤ b) ∧ Below w0.heap.size w0 w' := by
  have HE := Aside0.mk hE
  have HN := Aside0.mk hn
  have HC := Aside0.mk hC
  have HU := Aside0.mk hU
  have HR := Aside0.mk hR
  have HB0 := Aside0.mk hB0
  have HUB := Aside0.mk hub
  have HL := Aside0.mk hl
  have hS := Aside0.mk (unshallow_any w)
  have hall : (cells (raw s)).toArray.all (·.oneCell') = true := by
    rw [Array.all_eq_true']
    intro v hv
    exact cells_one _ v (by simpa using hv)
  have HALL := Aside0.mk hall
  have HR2 := Aside0.mk (raw_says hn).2.1
  have HC20 := Aside0.mk (show (cells (raw s)).length = 20 from by rw [cells, List.length_map, (raw_says hn).2.1])
  clear hE hC hU hR hB0 hub hl hall hn
  go_enter Tryd.func48, Tryd.ntmps48
  go_wp2_with fail
  refine hS.out.mono ?_
  rintro e w1 ⟨Ap, cp, rfl, hcp, _, hb1⟩
  have HDL := Aside0.mk (decodeLine_false w1 ⟨ub, 0, none⟩ A Ap c (word false).length cp s ev ((hb1.cell (World.block_lt_of_cell? _ _ HE.out)).trans HE.out) HN.out (Kd.C_below HC.out hb1) hc)
  have HB1 := Aside0.mk hb1
  clear hb1 hS hcp
  go_wp2_with fail
  refine HDL.out.mono ?_
  rintro e w2 ⟨rfl, hb2⟩
  have HB2 := Aside0.mk (below_step HB1.out hb2)
  clear hb2 HDL
  go_wp2_with (first | ((with_reducible show wpList _ _ _ (⟨none, .store _ _ _, _, _, _, _⟩ :: _) _ _); refine wpList_store_row rfl 85 (.tmp 5) (.tmp 12) rfl w2.heap.size (cells (raw s)).toArray rfl rfl 85 _ (heap_alloc_new w2 _) (info20 HR2.out) (by simp [cells, HR2.out]) HALL.out ?_) | fail)
  generalize hW4 : World.setRow _ _ _ = w4
  have HB4 := Aside0.mk (show Below w.heap.size w w4 by rw [← hW4]; exact below_setRow (HB2.out.alloc HB2.out.size _) HB2.out.size _)
  have HT5 := Aside0.mk (show w4.drew.heap[w2.heap.size]? = some (.cells (cells (raw s)).toArray 85 (0, 0)) by rw [← hW4]; exact setRow_heap _ w2.heap.size _ _ _ _ (heap_alloc_new w2 _))
  have HU4 := Aside0.mk (show w4.drew.heap[ub]? = some (.cells #[v2, .slice A1 l.length c1] 53 (0, 0)) from blk_drew (blk_below HU.out HB4.out))
  have HR4 := Aside0.mk (show kH.R 85 w4.drew w0.heap.size (fun _ => True) (.slice A1 l.length c1) l from Kd.R_drew (Kd.R_below HR.out HB4.out))
  have HB5 := Aside0.mk (show Below w0.heap.size w0 w4.drew from below_drew1 (HB0.out.trans (HB4.out.mono HB0.out.size)))
  have HNE := Aside0.mk (Kd.R_ne HR4.out HU4.out (by decide))
  have HC0 := Aside0.mk (show w4.drew.cell? ⟨ub, 1, none⟩ = some (.slice A1 l.length c1) from (blk_cell HU4.out 1).trans rfl)
  have HN5 := Aside0.mk (show some w2.heap.size ≠ Value.ownBlock (.slice A1 l.length c1) from fun he => by have := Kd.R_lt HR.out _ he.symm; have := HB2.out.size; omega)
  clear hW4
  refine start_ (n := 11) (S := fun w' => w'.cell? ⟨ub, 1, none⟩ = some (.slice A1 l.length c1) ∧ w'.heap[w2.heap.size]? = some (.cells (cells (raw s)).toArray 85 (0, 0))) (ds := [10]) #[false, false, false, false, false, false, false, false, false, false, false] (by kernel_rfl) rfl rfl ⟨HC0.out, HT5.out⟩ (fun hHeld => ?_)
  refine pure_ (i := 0) (N := some 17) (v := ?_) (a' := ?_) #[true, false, false, false, false, false, false, false, false, false, false] rfl rfl (by kernel_rfl) (fun _ _ _ h => h) (Or.inl ⟨by rfl, ?_⟩) ?_ ?_
  rotate_left
  · intro w'
    go_simp
    with_reducible rfl
  rotate_left
  · simp only [Act.put, List.setIfInBounds_toArray, List.set_cons_zero, List.set_cons_succ, i64_w, i32_w]
    rfl
  refine pure_ (i := 1) (N := some 18) (v := ?_) (a' := ?_) #[true, true, false, false, false, false, false, false, false, false, false] rfl rfl (by kernel_rfl) (fun _ _ _ h => h) (Or.inl ⟨by rfl, ?_⟩) ?_ ?_
  rotate_left
  · intro w'
    go_simp
    with_reducible rfl
  rotate_left
  · simp only [Act.put, List.setIfInBounds_toArray, List.set_cons_zero, List.set_cons_succ, i64_w, i32_w]
    rfl
  refine pure_ (i := 2) (N := some 19) (v := ?_) (a' := ?_) #[true, true, true, false, false, false, false, false, false, false, false] rfl rfl (by kernel_rfl) (fun _ _ _ h => h) (Or.inl ⟨by rfl, ?_⟩) ?_ ?_
  rotate_left
  · intro w'
    go_simp
    with_reducible rfl
  rotate_left
  · simp only [Act.put, List.setIfInBounds_toArray, List.set_cons_zero, List.set_cons_succ, i64_w, i32_w]
    rfl
  refine pure_ (i := 3) (N := some 20) (v := ?_) (a' := ?_) #[true, true, true, true, false, false, false, false, false, false, false] rfl rfl (by kernel_rfl) (fun _ _ _ h => h) (Or.inl ⟨by rfl, ?_⟩) ?_ ?_
  rotate_left
  · intro w'
    go_simp
    with_reducible rfl
  rotate_left
  · simp only [Act.put, List.setIfInBounds_toArray, List.set_cons_zero, List.set_cons_succ, i64_w, i32_w]
    rfl
  refine take_ (i := 4) (N := some 21) (v := ?_) (a' := ?_) #[true, true, true, true, true, false, false, false, false, false, false] rfl rfl (by kernel_rfl) (fun _ _ _ h => h) (Or.inl ⟨by rfl, ?_⟩) hHeld ?_ ?_
  rotate_left
  · rintro w' ⟨s0, s1⟩
    go_simp
    with_reducible rfl
  rotate_left
  · simp only [Act.put, List.setIfInBounds_toArray, List.set_cons_zero, List.set_cons_succ, i64_w, i32_w]
    rfl
  refine one_ (i := 5) (N := some 22) #[true, true, true, true, true, true, false, false, false, false, false] rfl rfl (by kernel_rfl) (by decide) (fun K hK => ?_)
  refine step_loadH rfl (.tmp 5) rfl w2.heap.size (cells (raw s)) rfl HT5.out HC20.out ?_
  refine hK.out _ _ ⟨HC0.out, HT5.out⟩ (fun hHeld => ?_)
  clear hK K
  refine norm_ (a' := ?_) ?_ ?_
  rotate_left
  · show Act.put _ (some 22) _ = _
    simp only [Act.put, List.setIfInBounds_toArray, List.set_cons_zero, List.set_cons_succ, i64_w, i32_w]
    rfl
  refine one_ (i := 6) (N := some 23) #[true, true, true, true, true, true, true, false, false, false, false] rfl rfl (by kernel_rfl) (by decide) (fun K hK => ?_)
  refine step_buildH rfl (.tmp 22) rfl (cells (raw s)) rfl HC20.out ?_
  refine hK.out _ _ ⟨(blk_cell (blk_alloc HU4.out _) 1).trans rfl, blk_alloc HT5.out _⟩ (fun hHeld => ?_)
  clear hK K
  refine norm_ (a' := ?_) ?_ ?_
  rotate_left
  · show Act.put _ (some 23) _ = _
    simp only [Act.put, List.setIfInBounds_toArray, List.set_cons_zero, List.set_cons_succ, i64_w, i32_w]
    rfl
  refine one_ (i := 7) (N := some 24) #[true, true, true, true, true, true, true, true, false, false, false] rfl rfl (by kernel_rfl) (by decide) (fun K hK => ?_)
  refine append_E kH (w0 := w0) (W := w4.drew) w0.heap.size rfl (.tmp 21) (.tmp 23) 51 85 (.agg #[.int .u8 0, .int .u8 0, .int .u8 0, .int .u8 0, .int .u8 0, .int .u8 0, .int .u8 0, .int .u8 0, .int .u8 0, .int .u8 0, .int .u8 0, .int .u8 0, .int .u8 0, .int .u8 0, .int .u8 0, .int .u8 0, .int .u8 0, .int .u8 0, .int .u8 0, .int .u8 0]) 20 rfl Tryd.underlying51 infoH rfl (by decide) (by decide) (.slice A1 l.length c1) l s (cells (raw s)) (fun _ => True) (fun _ => False) rfl rfl ⟨HN.out, rfl⟩ (fun _ h => h.elim) (fun _ _ => trivial) HR4.out HB5.out HB5.out.size (by have := HL.out; omega) ?_
  intro v5 w5 h1 h2 h3 h4
  obtain ⟨A1', c1', hv5⟩ := Kd.R_slice h1
  rw [List.length_append, List.length_singleton] at hv5
  subst hv5
  have HR5 := Aside0.mk h1
  have HB6 := Aside0.mk h2
  have HG5 := Aside0.mk h3
  have HO5 := Aside0.mk h4
  have HU5 := Aside0.mk (blk_grown HU4.out h3 HNE.out)
  have HT5b := Aside0.mk (blk_grown HT5.out h3 HN5.out)
  clear h1 h2 h3 h4
  have hc5 : w5.cell? ⟨ub, 1, none⟩ = some (.slice A1 l.length c1) := (blk_cell HU5.out 1).trans rfl
  have hf5 := blk_frozen HU5.out 1
  refine hK.out _ _ ⟨hc5, HT5b.out⟩ (fun hHeld => ?_)
  clear hK K
  refine norm_ (a' := ?_) ?_ ?_
  rotate_left
  · show Act.put _ (some 24) _ = _
    simp only [Act.put, List.setIfInBounds_toArray, List.set_cons_zero, List.set_cons_succ, i64_w, i32_w]
    rfl
  refine pure_ (i := 8) (N := some 25) (v := ?_) (a' := ?_) #[true, true, true, true, true, true, true, true, true, false, false] rfl rfl (by kernel_rfl) (fun _ _ _ h => h) (Or.inl ⟨by rfl, ?_⟩) ?_ ?_
  rotate_left
  · intro w'
    go_simp
    with_reducible rfl
  rotate_left
  · simp only [Act.put, List.setIfInBounds_toArray, List.set_cons_zero, List.set_cons_succ, i64_w, i32_w]
    rfl
  refine pure_ (i := 9) (N := some 26) (v := ?_) (a' := ?_) #[true, true, true, true, true, true, true, true, true, true, false] rfl rfl (by kernel_rfl) (fun _ _ _ h => h) (Or.inl ⟨by rfl, ?_⟩) ?_ ?_
  rotate_left
  · intro w'
    go_simp
    with_reducible rfl
  rotate_left
  · simp only [Act.put, List.setIfInBounds_toArray, List.set_cons_zero, List.set_cons_succ, i64_w, i32_w]
    rfl
  refine last_ (i := 10) (N := none) #[true, true, true, true, true, true, true, true, true, true, true] rfl rfl (by kernel_rfl) (by decide) (fun K hK => ?_)
  refine skip_ (w1 := ?_) (by rfl) rfl ?_ ?_
  rotate_left
  · go_simp
    rfl
  refine hK.out _ _ ?_
  clear hK K
  refine done_ (by kernel_rfl) ?_
  go_wp2_with fail
  go_ret
  refine ⟨A1', c1', rfl, blk_put HU5.out 1 _ rfl, Kd.R_set HR5.out HU5.out (fun q hq => by simp [kH] at hq; subst hq; decide) 1 _, Near3.put ⟨HG5.out.os.trans HB4.out.os, HG5.out.tape.trans HB4.out.tape, HG5.out.output.trans HB4.out.output, Nat.le_trans HB4.out.size HG5.out.size, fun k hk h1 h2 h3 => (HG5.out.block k (Nat.lt_of_lt_of_le hk HB4.out.size) h3).trans (HB4.out.block k hk)⟩ 1 _, ?_, HB6.out.setCell HUB.out _⟩
  rcases HO5.out with h | ⟨b, h, hle⟩
  · exact .inl h
  · exact .inr ⟨b, h, Nat.le_trans HB4.out.size hle⟩
end Go.Proofs.YthjeihbnlfnkcaaDoor.shal
