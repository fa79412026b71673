/- Capabilities: Add of one that is new. -/
import Derived.Test.YtdobblddnfalcaaDoorCapC
namespace Go.Proofs.YtdobblddnfalcaaDoor.cap
open Go.RowKit Go.Proofs.YtdobblddnfalcaaDoorW.PrintWords Go.Proofs.YtdobblddnfalcaaDoorW.PrintLast Go.Proofs.YtdobblddnfalcaaDoorW.PrintMore Go.Proofs.YtdobblddnfalcaaDoor.off Go.Proofs.YtdobblddnfalcaaDoor.mapq Go.Proofs.YtdobblddnfalcaaDoor.PFnCapsWritten
set_option linter.unusedVariables false
set_option linter.unusedSimpArgs false
set_option maxHeartbeats 2000000
set_option maxRecDepth 100000
theorem step_append_run {P : Program} {ops : Array Oper} {o : Oper} {a : Act} {w : World} {K : Act → World → Prop} {Q : Exit → Act → World → Prop} {E : Prop} (hw : Region.wanted o (yielded ops a.tmps) = true) (s x : Operand) (t : TypeId)
    (ho : o.op = .call { callee := .builtin .append, args := #[s, x], argTypes := #[t, t] }) (v u : Value) (hs : a.eval s = v) (hx : a.eval x = u) {v' : Value} {w' : World}
    (hrun : (Builtin.append_ #[t, t] o.type #[v, u]).run P w = .ok v' w') (h : K (a.put o.dst v') w') : if Region.wanted o (yielded ops a.tmps) = true then Oper.wp P o a w K Q else E := by
  rw [if_pos hw]
  unfold Oper.wp
  simp [execOp, ho, resolve, invoke, builtin, hs, hx, hrun, Result.andThen]
  exact h
/-- A list of one's own. -/
structure CapL (base : Nat) (w : World) (gl gm : Nat) (sv : Value) (rows : List Row) : Prop where
  s : CapS w gl gm sv (rows.map (·.name)) rows
  ge : ∀ k ∈ bl gl gm sv rows, base ≤ k
theorem CapL.below {base : Nat} {w w' : World} {gl gm : Nat} {sv : Value} {rows : List Row} (h : CapL base w gl gm sv rows) (hb : Below w.heap.size w w') : CapL base w' gl gm sv rows := ⟨h.s.below hb, h.ge⟩
theorem off_below {base : Nat} {S : Nat → Prop} {w w' : World} (h : Off S w w') (hs : base ≤ w.heap.size) (hS : ∀ k, S k → base ≤ k) : Below base w w' := h.below hs hS
theorem cstr_any (w : World) (s : ByteArray) : Calls Tryd.prog 44 #[.string s] w fun e w' => e = .returned (.string s) ∧ w = w' := by
  go_enter Tryd.func44, Tryd.ntmps44
  go_wp2_with fail
  go_ret
  exact ⟨rfl, rfl⟩
theorem gate_mapU {P : Program} {ops : Array Oper} {Q : Exit → Act → World → Prop} {o : Oper} {rest : List Oper} {a : Act} {w : World} {t : TypeId} {m x v : Operand} (h : o.op = Op.mapUpdate t m x v) (k : wpList P ops Q (o :: rest) a w) : wpList P ops Q (o :: rest) a w := k
theorem add_new (base : Nat) (w : World) (gl gm : Nat) (sv : Value) (rows : List Row) (h : CapL base w gl gm sv rows) (hbw : base ≤ w.heap.size) (name : ByteArray) (A : Option Addr) (c : Nat) (vs : List ByteArray) (ok : ArgsOk name vs) (hsrc : Src w A vs.length (strs vs)) (hA : ∀ ad, A = some ad → ad.block ∉ bl gl gm sv rows)
    (hf : find rows name = none) (hn : rows.length ≤ 1000) :
    Calls Tryd.prog 31 #[.pointer (some ⟨gl, 0, none⟩), .string name, .slice A vs.length c] w fun e w' => e = .returned .nilIface ∧ ∃ sv' ge v', CapL base w' gl gm sv' (rows ++ [⟨name, ge, v', vs⟩]) ∧ Below base w w' := by
  have hsz : name.size ≤ maxLen := Nat.le_trans ok.size (by decide)
  have HV := Aside0.mk (validate_any w (.pointer (some ⟨gl, 0, none⟩)) name A c vs ok hsrc)
  have HSUP := Aside0.mk (fun W (hb : Below w.heap.size w W) => supports_any W gl gm sv _ rows (h.s.below hb) name hsz false (by rw [hf]; rfl))
  have HNEW := Aside0.mk (fun W (hb : Below w.heap.size w W) => capS_new (h.s.below hb) name hsz hf (by omega))
  have HGE := Aside0.mk h.ge
  have HS0 := Aside0.mk h.s
  have HSRC := Aside0.mk hsrc
  have HA := Aside0.mk hA
  have HBW := Aside0.mk hbw
  have HF := Aside0.mk hf
  have HN := Aside0.mk hn
  have HOK := Aside0.mk ok
  clear h hsrc hA hbw hf hn ok
  go_enter Tryd.func31, Tryd.ntmps31
  go_wp2_with fail
  refine HV.out.mono ?_
  rintro e w1 ⟨rfl, hb⟩
  have HB1 := Aside0.mk hb
  clear hb HV
  go_wp2_with fail
  refine (HSUP.out _ HB1.out).mono ?_
  rintro e w2 ⟨rfl, hb⟩
  have HB2 := Aside0.mk (below_step HB1.out hb)
  clear hb HSUP HB1
  obtain ⟨w3, hr3, h3, ho3⟩ := HNEW.out w2 HB2.out
  have HR3 := Aside0.mk hr3
  have H3 := Aside0.mk h3
  have HO3 := Aside0.mk ho3
  have HS2 := Aside0.mk (HS0.out.below HB2.out)
  have q0 := (blk_cell HS2.out.list 0).trans (show _ = some (Value.map (some gm)) from rfl)
  have zz := zeroStrs w2
  clear hr3 h3 ho3 HNEW
  go_wp2_with (first | ((with_reducible refine gate_mapU rfl ?_); go_must (refine wpList_mapUpdate_run rfl _ _ _ _ rfl _ _ _ rfl rfl rfl HR3.out ?_)) | fail)
  have HB3 := Aside0.mk (show Below base w w3 from (HB2.out.mono HBW.out).trans (HO3.out.below (base := base) (by have := HB2.out.size; have := HBW.out; omega) (fun k hk => by simp [In] at hk; rw [hk]; exact HGE.out gm (List.mem_cons_of_mem _ List.mem_cons_self))))
  have HGE3 := Aside0.mk (show ∀ k ∈ bl gl gm sv (rows ++ [⟨name, w2.heap.size, .slice none 0 0, []⟩]), k ∈ bl gl gm sv rows ∨ w.heap.size ≤ k from fun k hk => by
    unfold bl at hk ⊢
    rw [List.flatMap_append] at hk
    simp only [List.mem_cons, List.mem_append] at hk ⊢
    rcases hk with h | h | h | h | h
    · exact .inl (.inl h)
    · exact .inl (.inr (.inl h))
    · exact .inl (.inr (.inr (.inl h)))
    · exact .inl (.inr (.inr (.inr h)))
    · simp [blks, own, Value.ownBlock] at h
      exact .inr (by rw [h]; exact HB2.out.size))
  clear HR3 HS2 zz q0 HS0
  obtain ⟨v6, w6, hr6, ⟨A6, c6, hv6⟩, hc6, hf6, h6, ho6, hg6⟩ := capS_name (w := w3.drew) (H3.out.keep (Nat.le_refl _) (fun _ _ => rfl)) name (by rw [List.length_map]; exact Nat.le_trans HN.out (by decide))
  rw [List.length_map] at hv6
  subst hv6
  have HR6 := Aside0.mk hr6
  have H6 := Aside0.mk h6
  have HO6 := Aside0.mk ho6
  have HG6 := Aside0.mk hg6
  have p1 := (blk_cell H3.out.list 1).trans (show _ = some sv from rfl)
  clear hr6 h6 ho6 hg6
  refine start_ (n := 12) (S := fun w' => w'.cell? ⟨gl, 1, none⟩ = some sv) (ds := [8, 11]) #[false, false, false, false, false, false, false, false, false, false, false, false] (by kernel_rfl) rfl rfl (p1) (fun hHeld => ?_)
  refine pure_ (i := 0) (N := some 27) (v := ?_) (a' := ?_) #[true, false, false, false, false, false, false, false, false, false, false, false] rfl rfl (by kernel_rfl) (fun _ _ _ h => h) (Or.inl ⟨by rfl, ?_⟩) ?_ ?_
  rotate_left
  · intro w'
    go_simp
    with_reducible rfl
  rotate_left
  · simp only [Act.put, List.setIfInBounds_toArray, List.set_cons_zero, List.set_cons_succ, i64_w, i32_w]
    rfl
  refine pure_ (i := 1) (N := some 28) (v := ?_) (a' := ?_) #[true, true, false, false, false, false, false, false, false, false, false, false] rfl rfl (by kernel_rfl) (fun _ _ _ h => h) (Or.inl ⟨by rfl, ?_⟩) ?_ ?_
  rotate_left
  · intro w'
    go_simp
    with_reducible rfl
  rotate_left
  · simp only [Act.put, List.setIfInBounds_toArray, List.set_cons_zero, List.set_cons_succ, i64_w, i32_w]
    rfl
  refine pure_ (i := 2) (N := some 29) (v := ?_) (a' := ?_) #[true, true, true, false, false, false, false, false, false, false, false, false] rfl rfl (by kernel_rfl) (fun _ _ _ h => h) (Or.inl ⟨by rfl, ?_⟩) ?_ ?_
  rotate_left
  · intro w'
    go_simp
    with_reducible rfl
  rotate_left
  · simp only [Act.put, List.setIfInBounds_toArray, List.set_cons_zero, List.set_cons_succ, i64_w, i32_w]
    rfl
  refine pure_ (i := 3) (N := some 30) (v := ?_) (a' := ?_) #[true, true, true, true, false, false, false, false, false, false, false, false] rfl rfl (by kernel_rfl) (fun _ _ _ h => h) (Or.inl ⟨by rfl, ?_⟩) ?_ ?_
  rotate_left
  · intro w'
    go_simp
    with_reducible rfl
  rotate_left
  · simp only [Act.put, List.setIfInBounds_toArray, List.set_cons_zero, List.set_cons_succ, i64_w, i32_w]
    rfl
  refine pure_ (i := 5) (N := some 32) (v := ?_) (a' := ?_) #[true, true, true, true, false, true, false, false, false, false, false, false] rfl rfl (by kernel_rfl) (fun _ _ _ h => h) (Or.inl ⟨by rfl, ?_⟩) ?_ ?_
  rotate_left
  · intro w'
    go_simp
    with_reducible rfl
  rotate_left
  · simp only [Act.put, List.setIfInBounds_toArray, List.set_cons_zero, List.set_cons_succ, i64_w, i32_w]
    rfl
  refine take_ (i := 4) (N := some 31) (v := ?_) (a' := ?_) #[true, true, true, true, true, true, false, false, false, false, false, false] rfl rfl (by kernel_rfl) (fun _ _ _ h => h) (Or.inl ⟨by rfl, ?_⟩) hHeld ?_ ?_
  rotate_left
  · intro w' s0
    go_simp
    with_reducible rfl
  rotate_left
  · simp only [Act.put, List.setIfInBounds_toArray, List.set_cons_zero, List.set_cons_succ, i64_w, i32_w]
    rfl
  refine one_ (i := 6) (N := some 33) #[true, true, true, true, true, true, true, false, false, false, false, false] rfl rfl (by kernel_rfl) (by decide) (fun K hK => ?_)
  refine goes_ Tryd.func44 (by kernel_rfl) rfl #[.string name] (by rfl) rfl rfl (by simp only [List.map_toArray, List.map_cons, List.map_nil]; rfl) ?_
  with_reducible refine (cstr_any _ name).mono ?_
  rintro e wq ⟨rfl, rfl⟩
  refine ⟨_, rfl, ?_⟩
  refine hK.out _ _ (p1) (fun hHeld => ?_)
  clear hK K
  refine norm_ (a' := ?_) ?_ ?_
  rotate_left
  · show Act.put _ (some 33) _ = _
    simp only [Act.put, List.setIfInBounds_toArray, List.set_cons_zero, List.set_cons_succ, i64_w, i32_w]
    rfl
  refine one_ (i := 7) (N := some 34) #[true, true, true, true, true, true, true, true, false, false, false, false] rfl rfl (by kernel_rfl) (by decide) (fun K hK => ?_)
  refine value_ (w1 := ?_) (v := ?_) (by rfl) rfl ?_ ?_
  rotate_left 2
  · go_simp
    constructor
    · rfl
    · rfl
  refine hK.out _ _ ((cell_same gl 1 ((off_alloc w3.drew (fun _ => False) _).block gl (blk_lt H3.out.list) (fun h => h))).trans p1) (fun hHeld => ?_)
  clear hK K
  refine norm_ (a' := ?_) ?_ ?_
  rotate_left
  · show Act.put _ (some 34) _ = _
    simp only [Act.put, List.setIfInBounds_toArray, List.set_cons_zero, List.set_cons_succ, i64_w, i32_w]
    rfl
  refine last_ (i := 8) (N := some 35) #[true, true, true, true, true, true, true, true, true, false, false, false] rfl rfl (by kernel_rfl) (by decide) (fun K hK => ?_)
  refine step_append_run (by rfl) (.tmp 31) (.tmp 34) 28 rfl _ _ rfl rfl HR6.out ?_
  refine hK.out _ _ ?_
  clear hK K
  refine norm_ (a' := ?_) ?_ ?_
  rotate_left
  · show Act.put _ (some 35) _ = _
    simp only [Act.put, List.setIfInBounds_toArray, List.set_cons_zero, List.set_cons_succ, i64_w, i32_w]
    rfl
  refine pure_ (i := 9) (N := some 36) (v := ?_) (a' := ?_) #[true, true, true, true, true, true, true, true, true, true, false, false] rfl rfl (by kernel_rfl) (fun _ _ _ h => h) (Or.inl ⟨by rfl, ?_⟩) ?_ ?_
  rotate_left
  · intro w'
    go_simp
    with_reducible rfl
  rotate_left
  · simp only [Act.put, List.setIfInBounds_toArray, List.set_cons_zero, List.set_cons_succ, i64_w, i32_w]
    rfl
  refine pure_ (i := 10) (N := some 37) (v := ?_) (a' := ?_) #[true, true, true, true, true, true, true, true, true, true, true, false] rfl rfl (by kernel_rfl) (fun _ _ _ h => h) (Or.inl ⟨by rfl, ?_⟩) ?_ ?_
  rotate_left
  · intro w'
    go_simp
    with_reducible rfl
  rotate_left
  · simp only [Act.put, List.setIfInBounds_toArray, List.set_cons_zero, List.set_cons_succ, i64_w, i32_w]
    rfl
  refine last_ (i := 11) (N := none) #[true, true, true, true, true, true, true, true, true, true, true, true] rfl rfl (by kernel_rfl) (by decide) (fun K hK => ?_)
  refine skip_ (w1 := ?_) (by rfl) rfl ?_ ?_
  rotate_left
  · go_simp
    rfl
  refine hK.out _ _ ?_
  clear hK K
  refine done_ (by kernel_rfl) ?_

  have HB6 := Aside0.mk (show Below base w (w6.setCell ⟨gl, 1, none⟩ (.slice A6 (rows.length + 1) c6)) from (below_drew HB3.out).trans ((off_below (HO6.out) (by have := HB3.out.size; have := HBW.out; show base ≤ w3.heap.size; omega) (fun k hk => by
    rcases HGE3.out k hk with h | h
    · exact HGE.out k h
    · have := HBW.out; omega))))
  have HGE6 := Aside0.mk (show ∀ k ∈ bl gl gm (.slice A6 (rows.length + 1) c6) (rows ++ [⟨name, w2.heap.size, .slice none 0 0, []⟩]), k ∈ bl gl gm sv rows ∨ w.heap.size ≤ k from fun k hk => by
    rcases HG6.out k hk with h | h
    · exact HGE3.out k h
    · exact .inr (Nat.le_trans HB3.out.size h))
  have HSRC6 := Aside0.mk (show Src (w6.setCell ⟨gl, 1, none⟩ (.slice A6 (rows.length + 1) c6)) A vs.length (strs vs) from ⟨HSRC.out.len, fun j u hj => by
    obtain ⟨ad, e1, e2⟩ := HSRC.out.rd j u hj
    have hlt := World.block_lt_of_cell? w _ e2
    have hbk : (ad.add j).block = ad.block := by unfold Addr.add; split <;> rfl
    have hk := HA.out ad e1
    refine ⟨ad, e1, ?_⟩
    rw [← e2]
    refine World.cell?_of_block ?_
    rw [hbk] at hlt ⊢
    have b6 := HO6.out.block ad.block (by show ad.block < w3.heap.size; have := HB3.out.size; omega) (fun h => by
      rcases HGE3.out _ h with h | h
      · exact hk h
      · omega)
    rw [b6]
    show w3.heap[ad.block]? = _
    rw [HO3.out.block ad.block (by have := HB2.out.size; omega) (by simp [In]; intro e; exact hk (by rw [e]; exact List.mem_cons_of_mem _ List.mem_cons_self))]
    exact HB2.out.block ad.block hlt, HSRC.out.one⟩)
  clear HO6 HG6 HR6 hc6 hf6 HSRC HA HGE3 HB3 HO3 HB2 p1 H3
  generalize hW : w6.setCell ⟨gl, 1, none⟩ (.slice A6 (rows.length + 1) c6) = W6 at H6 HB6 HSRC6
  by_cases hv : vs.length = 0
  · obtain rfl : vs = [] := List.eq_nil_of_length_eq_zero hv
    clear HF HOK
    go_wp2_with fail
    go_ret
    refine ⟨rfl, .slice A6 (rows.length + 1) c6, w2.heap.size, .slice none 0 0, ⟨?_, fun k hk => ?_⟩, HB6.out⟩
    · rw [List.map_append]
      exact H6.out
    · rcases HGE6.out k hk with h | h
      · exact HGE.out k h
      · exact Nat.le_trans HBW.out h
  · have d0 : ((vs.length : Int) == 0) = false := beq_eq_false_iff_ne.2 (by omega)
    have d1 : (vs.length == 0) = false := beq_eq_false_iff_ne.2 hv
    have HK := Aside0.mk (fun W => known_any W name hsz true HOK.out.known)
    obtain ⟨mu, hmu⟩ : ∃ b, decide (name.data.toList ∈ multipleL) = b := ⟨_, rfl⟩
    have HU := Aside0.mk (fun W => multiple_any W name hsz mu hmu)
    clear hmu hv
    go_wp2_with fail
    refine (HK.out _).mono ?_
    rintro e w7 ⟨rfl, hb⟩
    have HB7 := Aside0.mk hb
    clear hb
    go_wp2_with fail
    refine (HU.out _).mono ?_
    rintro e w8 ⟨rfl, hb⟩
    have HB8 := Aside0.mk (below_step HB7.out hb)
    have HR8 := Aside0.mk trivial
    clear hb HB7 HK HU
    cases mu with
    | true =>
      have HSRC9 := Aside0.mk (Src.below HSRC6.out HB8.out)
      have H9 := Aside0.mk (H6.out.below HB8.out)
      have HB9 := Aside0.mk (HB6.out.trans (HB8.out.mono (by have := HB6.out.size; have := HBW.out; omega)))
      obtain ⟨v10, w10, hr10, ⟨A10, c10, hv10⟩, hc10, hf10, h10, ho10, hg10⟩ := capS_vals (w := w8.drew) (a := rows) (b := []) (r := ⟨name, w2.heap.size, .slice none 0 0, []⟩) (H9.out.keep (Nat.le_refl _) (fun _ _ => rfl)) (c := c) vs (Src.below HSRC9.out ((below_drew (Below.refl _ _)))) (by have := HOK.out.most; simp; omega)
      simp only [List.length_nil, Nat.zero_add, List.nil_append] at hv10 hc10 hf10 h10 ho10 hg10 hr10
      subst hv10
      have HR10 := Aside0.mk hr10
      have H10 := Aside0.mk h10
      have HO10 := Aside0.mk ho10
      have HG10 := Aside0.mk hg10
      have q0 := (blk_cell H9.out.list 0).trans (show _ = some (Value.map (some gm)) from rfl)
      have q1 := (blk_cell (H9.out.row _ (List.mem_append_right _ (List.mem_singleton.2 rfl))).cells 1).trans (show _ = some (Value.slice none 0 0) from rfl)
      have hlk := fun W (hb : Below w8.heap.size w8 W) => (H9.out.map.keep (w' := W) (hb.block gm H9.out.map.lt)).look1 Tryd.underlying50 Tryd.underlying62 (zeroPtr W) name hsz
      rw [show find (rows ++ [⟨name, w2.heap.size, .slice none 0 0, []⟩]) name = some w2.heap.size by rw [find_snoc (r := ⟨name, w2.heap.size, .slice none 0 0, []⟩) HF.out]; unfold upd; rw [if_pos rfl]] at hlk
      have HLK := Aside0.mk (hlk w8.drew (below_drew (Below.refl _ _)))
      have hne := (H9.out.apart.2.2.1 w2.heap.size (mem_rows (List.mem_append_right _ (List.mem_singleton.2 rfl)) List.mem_cons_self))
      have HE10 := Aside0.mk ((Below.heap_setCell w10 ⟨w2.heap.size, 1, none⟩ (.slice A10 vs.length c10) gl (fun e => hne.1 e.symm)).symm.trans H10.out.list)
      have hl10 := (H10.out.map.keep (Below.heap_setCell w10 ⟨w2.heap.size, 1, none⟩ (.slice A10 vs.length c10) gm (fun e => hne.2.1 e.symm)).symm).look1 Tryd.underlying50 Tryd.underlying62 (zeroPtr w10) name hsz
      rw [show find (rows ++ [⟨name, w2.heap.size, .slice A10 vs.length c10, vs⟩]) name = some w2.heap.size by rw [find_snoc (r := ⟨name, w2.heap.size, .slice A10 vs.length c10, vs⟩) HF.out]; unfold upd; rw [if_pos rfl]] at hl10
      have HL10 := Aside0.mk hl10
      clear hr10 h10 ho10 hg10 hlk HR8 hne hl10
      go_wp2_with fail
      refine start_ (n := 20) (S := fun w' => w'.cell? ⟨gl, 0, none⟩ = some (.map (some gm)) ∧ (Instr.lookup 62 (.map (some gm)) (.string name) false).run Tryd.prog w' = .ok (.pointer (some ⟨w2.heap.size, 0, none⟩)) w' ∧ w'.cell? ⟨w2.heap.size, 1, none⟩ = some (.slice none 0 0)) (ds := [19]) #[false, false, false, false, false, false, false, false, false, false, false, false, false, false, false, false, false, false, false, false] (by kernel_rfl) rfl rfl ⟨q0, HLK.out, q1⟩ (fun hHeld => ?_)
      refine pure_ (i := 0) (N := some 62) (v := ?_) (a' := ?_) #[true, false, false, false, false, false, false, false, false, false, false, false, false, false, false, false, false, false, false, false] rfl rfl (by kernel_rfl) (fun _ _ _ h => h) (Or.inl ⟨by rfl, ?_⟩) ?_ ?_
      rotate_left
      · intro w'
        go_simp
        with_reducible rfl
      rotate_left
      · simp only [Act.put, List.setIfInBounds_toArray, List.set_cons_zero, List.set_cons_succ, i64_w, i32_w]
        rfl
      refine pure_ (i := 1) (N := some 63) (v := ?_) (a' := ?_) #[true, true, false, false, false, false, false, false, false, false, false, false, false, false, false, false, false, false, false, false] rfl rfl (by kernel_rfl) (fun _ _ _ h => h) (Or.inl ⟨by rfl, ?_⟩) ?_ ?_
      rotate_left
      · intro w'
        go_simp
        with_reducible rfl
      rotate_left
      · simp only [Act.put, List.setIfInBounds_toArray, List.set_cons_zero, List.set_cons_succ, i64_w, i32_w]
        rfl
      refine pure_ (i := 2) (N := some 64) (v := ?_) (a' := ?_) #[true, true, true, false, false, false, false, false, false, false, false, false, false, false, false, false, false, false, false, false] rfl rfl (by kernel_rfl) (fun _ _ _ h => h) (Or.inl ⟨by rfl, ?_⟩) ?_ ?_
      rotate_left
      · intro w'
        go_simp
        with_reducible rfl
      rotate_left
      · simp only [Act.put, List.setIfInBounds_toArray, List.set_cons_zero, List.set_cons_succ, i64_w, i32_w]
        rfl
      refine pure_ (i := 4) (N := some 66) (v := ?_) (a' := ?_) #[true, true, true, false, true, false, false, false, false, false, false, false, false, false, false, false, false, false, false, false] rfl rfl (by kernel_rfl) (fun _ _ _ h => h) (Or.inl ⟨by rfl, ?_⟩) ?_ ?_
      rotate_left
      · intro w'
        go_simp
        with_reducible rfl
      rotate_left
      · simp only [Act.put, List.setIfInBounds_toArray, List.set_cons_zero, List.set_cons_succ, i64_w, i32_w]
        rfl
      refine pure_ (i := 6) (N := some 68) (v := ?_) (a' := ?_) #[true, true, true, false, true, false, true, false, false, false, false, false, false, false, false, false, false, false, false, false] rfl rfl (by kernel_rfl) (fun _ _ _ h => h) (Or.inl ⟨by rfl, ?_⟩) ?_ ?_
      rotate_left
      · intro w'
        go_simp
        with_reducible rfl
      rotate_left
      · simp only [Act.put, List.setIfInBounds_toArray, List.set_cons_zero, List.set_cons_succ, i64_w, i32_w]
        rfl
      refine pure_ (i := 7) (N := some 69) (v := ?_) (a' := ?_) #[true, true, true, false, true, false, true, true, false, false, false, false, false, false, false, false, false, false, false, false] rfl rfl (by kernel_rfl) (fun _ _ _ h => h) (Or.inl ⟨by rfl, ?_⟩) ?_ ?_
      rotate_left
      · intro w'
        go_simp
        with_reducible rfl
      rotate_left
      · simp only [Act.put, List.setIfInBounds_toArray, List.set_cons_zero, List.set_cons_succ, i64_w, i32_w]
        rfl
      refine pure_ (i := 8) (N := some 70) (v := ?_) (a' := ?_) #[true, true, true, false, true, false, true, true, true, false, false, false, false, false, false, false, false, false, false, false] rfl rfl (by kernel_rfl) (fun _ _ _ h => h) (Or.inl ⟨by rfl, ?_⟩) ?_ ?_
      rotate_left
      · intro w'
        go_simp
        with_reducible rfl
      rotate_left
      · simp only [Act.put, List.setIfInBounds_toArray, List.set_cons_zero, List.set_cons_succ, i64_w, i32_w]
        rfl
      refine pure_ (i := 10) (N := some 72) (v := ?_) (a' := ?_) #[true, true, true, false, true, false, true, true, true, false, true, false, false, false, false, false, false, false, false, false] rfl rfl (by kernel_rfl) (fun _ _ _ h => h) (Or.inl ⟨by rfl, ?_⟩) ?_ ?_
      rotate_left
      · intro w'
        go_simp
        with_reducible rfl
      rotate_left
      · simp only [Act.put, List.setIfInBounds_toArray, List.set_cons_zero, List.set_cons_succ, i64_w, i32_w]
        rfl
      refine pure_ (i := 15) (N := some 77) (v := ?_) (a' := ?_) #[true, true, true, false, true, false, true, true, true, false, true, false, false, false, false, true, false, false, false, false] rfl rfl (by kernel_rfl) (fun _ _ _ h => h) (Or.inl ⟨by rfl, ?_⟩) ?_ ?_
      rotate_left
      · intro w'
        go_simp
        with_reducible rfl
      rotate_left
      · simp only [Act.put, List.setIfInBounds_toArray, List.set_cons_zero, List.set_cons_succ, i64_w, i32_w]
        rfl
      refine take_ (i := 3) (N := some 65) (v := ?_) (a' := ?_) #[true, true, true, true, true, false, true, true, true, false, true, false, false, false, false, true, false, false, false, false] rfl rfl (by kernel_rfl) (fun _ _ _ h => h) (Or.inl ⟨by rfl, ?_⟩) hHeld ?_ ?_
      rotate_left
      · rintro w' ⟨s0, s1, s2⟩
        go_simp
        with_reducible rfl
      rotate_left
      · simp only [Act.put, List.setIfInBounds_toArray, List.set_cons_zero, List.set_cons_succ, i64_w, i32_w]
        rfl
      refine take_ (i := 5) (N := some 67) (v := ?_) (a' := ?_) #[true, true, true, true, true, true, true, true, true, false, true, false, false, false, false, true, false, false, false, false] rfl rfl (by kernel_rfl) (fun _ _ _ h => h) (Or.inl ⟨by rfl, ?_⟩) hHeld ?_ ?_
      rotate_left
      · rintro w' ⟨s0, s1, s2⟩
        go_simp
        with_reducible rfl
      rotate_left
      · simp only [Act.put, List.setIfInBounds_toArray, List.set_cons_zero, List.set_cons_succ, i64_w, i32_w]
        rfl
      refine take_ (i := 9) (N := some 71) (v := ?_) (a' := ?_) #[true, true, true, true, true, true, true, true, true, true, true, false, false, false, false, true, false, false, false, false] rfl rfl (by kernel_rfl) (fun _ _ _ h => h) (Or.inl ⟨by rfl, ?_⟩) hHeld ?_ ?_
      rotate_left
      · rintro w' ⟨s0, s1, s2⟩
        go_simp
        with_reducible rfl
      rotate_left
      · simp only [Act.put, List.setIfInBounds_toArray, List.set_cons_zero, List.set_cons_succ, i64_w, i32_w]
        rfl
      refine take_ (i := 11) (N := some 73) (v := ?_) (a' := ?_) #[true, true, true, true, true, true, true, true, true, true, true, true, false, false, false, true, false, false, false, false] rfl rfl (by kernel_rfl) (fun _ _ _ h => h) (Or.inl ⟨by rfl, ?_⟩) hHeld ?_ ?_
      rotate_left
      · rintro w' ⟨s0, s1, s2⟩
        go_simp
        with_reducible rfl
      rotate_left
      · simp only [Act.put, List.setIfInBounds_toArray, List.set_cons_zero, List.set_cons_succ, i64_w, i32_w]
        rfl
      refine pure_ (i := 12) (N := some 74) (v := ?_) (a' := ?_) #[true, true, true, true, true, true, true, true, true, true, true, true, true, false, false, true, false, false, false, false] rfl rfl (by kernel_rfl) (fun _ _ _ h => h) (Or.inl ⟨by rfl, ?_⟩) ?_ ?_
      rotate_left
      · intro w'
        go_simp
        with_reducible rfl
      rotate_left
      · simp only [Act.put, List.setIfInBounds_toArray, List.set_cons_zero, List.set_cons_succ, i64_w, i32_w]
        rfl
      refine pure_ (i := 13) (N := some 75) (v := ?_) (a' := ?_) #[true, true, true, true, true, true, true, true, true, true, true, true, true, true, false, true, false, false, false, false] rfl rfl (by kernel_rfl) (fun _ _ _ h => h) (Or.inl ⟨by rfl, ?_⟩) ?_ ?_
      rotate_left
      · intro w'
        go_simp
        with_reducible rfl
      rotate_left
      · simp only [Act.put, List.setIfInBounds_toArray, List.set_cons_zero, List.set_cons_succ, i64_w, i32_w]
        rfl
      refine take_ (i := 14) (N := some 76) (v := ?_) (a' := ?_) #[true, true, true, true, true, true, true, true, true, true, true, true, true, true, true, true, false, false, false, false] rfl rfl (by kernel_rfl) (fun _ _ _ h => h) (Or.inl ⟨by rfl, ?_⟩) hHeld ?_ ?_
      rotate_left
      · rintro w' ⟨s0, s1, s2⟩
        go_simp
        with_reducible rfl
      rotate_left
      · simp only [Act.put, List.setIfInBounds_toArray, List.set_cons_zero, List.set_cons_succ, i64_w, i32_w]
        rfl
      refine one_ (i := 16) (N := some 78) #[true, true, true, true, true, true, true, true, true, true, true, true, true, true, true, true, true, false, false, false] rfl rfl (by kernel_rfl) (by decide) (fun K hK => ?_)
      refine step_append_run (by rfl) (.tmp 76) (.tmp 77) 28 rfl _ _ rfl rfl HR10.out ?_
      refine hK.out _ _ ⟨(blk_cell HE10.out 0).trans rfl, HL10.out, hc10⟩ (fun hHeld => ?_)
      clear hK K
      refine norm_ (a' := ?_) ?_ ?_
      rotate_left
      · show Act.put _ (some 78) _ = _
        simp only [Act.put, List.setIfInBounds_toArray, List.set_cons_zero, List.set_cons_succ, i64_w, i32_w]
        rfl
      refine pure_ (i := 17) (N := some 79) (v := ?_) (a' := ?_) #[true, true, true, true, true, true, true, true, true, true, true, true, true, true, true, true, true, true, false, false] rfl rfl (by kernel_rfl) (fun _ _ _ h => h) (Or.inl ⟨by rfl, ?_⟩) ?_ ?_
      rotate_left
      · intro w'
        go_simp
        with_reducible rfl
      rotate_left
      · simp only [Act.put, List.setIfInBounds_toArray, List.set_cons_zero, List.set_cons_succ, i64_w, i32_w]
        rfl
      refine pure_ (i := 18) (N := some 80) (v := ?_) (a' := ?_) #[true, true, true, true, true, true, true, true, true, true, true, true, true, true, true, true, true, true, true, false] rfl rfl (by kernel_rfl) (fun _ _ _ h => h) (Or.inl ⟨by rfl, ?_⟩) ?_ ?_
      rotate_left
      · intro w'
        go_simp
        with_reducible rfl
      rotate_left
      · simp only [Act.put, List.setIfInBounds_toArray, List.set_cons_zero, List.set_cons_succ, i64_w, i32_w]
        rfl
      refine last_ (i := 19) (N := none) #[true, true, true, true, true, true, true, true, true, true, true, true, true, true, true, true, true, true, true, true] rfl rfl (by kernel_rfl) (by decide) (fun K hK => ?_)
      refine skip_ (w1 := ?_) (by rfl) rfl ?_ ?_
      rotate_left
      · go_simp
        rfl
      refine hK.out _ _ ?_
      clear hK K
      refine done_ (by kernel_rfl) ?_

      go_wp2_with fail
      go_ret
      refine ⟨rfl, .slice A6 (rows.length + 1) c6, w2.heap.size, .slice A10 vs.length c10, ⟨?_, fun k hk => ?_⟩, (below_drew HB9.out).trans ((off_below HO10.out (by have := HB9.out.size; have := HBW.out; show base ≤ w8.heap.size; omega) (fun k hk => ?_)))⟩
      · rw [List.map_append]
        exact H10.out
      · rcases HG10.out k hk with h | h
        · rcases HGE6.out k h with h | h
          · exact HGE.out k h
          · exact Nat.le_trans HBW.out h
        · exact Nat.le_trans (Nat.le_trans HBW.out HB9.out.size) h
      · rcases HGE6.out k hk with h | h
        · exact HGE.out k h
        · exact Nat.le_trans HBW.out h
    | false =>
      have HSRC9 := Aside0.mk (Src.below HSRC6.out HB8.out)
      have H9 := Aside0.mk (H6.out.below HB8.out)
      have HB9 := Aside0.mk (HB6.out.trans (HB8.out.mono (by have := HB6.out.size; have := HBW.out; omega)))
      obtain ⟨v10, w10, hr10, ⟨A10, c10, hv10⟩, hc10, hf10, h10, ho10, hg10⟩ := capS_vals (w := w8.drew) (a := rows) (b := []) (r := ⟨name, w2.heap.size, .slice none 0 0, []⟩) (H9.out.keep (Nat.le_refl _) (fun _ _ => rfl)) (c := c) vs (Src.below HSRC9.out ((below_drew (Below.refl _ _)))) (by have := HOK.out.most; simp; omega)
      simp only [List.length_nil, Nat.zero_add, List.nil_append] at hv10 hc10 hf10 h10 ho10 hg10 hr10
      subst hv10
      have HR10 := Aside0.mk hr10
      have H10 := Aside0.mk h10
      have HO10 := Aside0.mk ho10
      have HG10 := Aside0.mk hg10
      have q0 := (blk_cell H9.out.list 0).trans (show _ = some (Value.map (some gm)) from rfl)
      have q1 := (blk_cell (H9.out.row _ (List.mem_append_right _ (List.mem_singleton.2 rfl))).cells 1).trans (show _ = some (Value.slice none 0 0) from rfl)
      have hlk := fun W (hb : Below w8.heap.size w8 W) => (H9.out.map.keep (w' := W) (hb.block gm H9.out.map.lt)).look1 Tryd.underlying50 Tryd.underlying62 (zeroPtr W) name hsz
      rw [show find (rows ++ [⟨name, w2.heap.size, .slice none 0 0, []⟩]) name = some w2.heap.size by rw [find_snoc (r := ⟨name, w2.heap.size, .slice none 0 0, []⟩) HF.out]; unfold upd; rw [if_pos rfl]] at hlk
      have HLK := Aside0.mk (hlk w8.drew (below_drew (Below.refl _ _)))
      have hl8 : (Instr.lookup 62 (.map (some gm)) (.string name) false).run Tryd.prog w8 = .ok (.pointer (some ⟨w2.heap.size, 0, none⟩)) w8 := hlk w8 (Below.refl _ _)
      have hne := (H9.out.apart.2.2.1 w2.heap.size (mem_rows (List.mem_append_right _ (List.mem_singleton.2 rfl)) List.mem_cons_self))
      have HE10 := Aside0.mk ((Below.heap_setCell w10 ⟨w2.heap.size, 1, none⟩ (.slice A10 vs.length c10) gl (fun e => hne.1 e.symm)).symm.trans H10.out.list)
      have hl10 := (H10.out.map.keep (Below.heap_setCell w10 ⟨w2.heap.size, 1, none⟩ (.slice A10 vs.length c10) gm (fun e => hne.2.1 e.symm)).symm).look1 Tryd.underlying50 Tryd.underlying62 (zeroPtr w10) name hsz
      rw [show find (rows ++ [⟨name, w2.heap.size, .slice A10 vs.length c10, vs⟩]) name = some w2.heap.size by rw [find_snoc (r := ⟨name, w2.heap.size, .slice A10 vs.length c10, vs⟩) HF.out]; unfold upd; rw [if_pos rfl]] at hl10
      have HL10 := Aside0.mk hl10
      clear hr10 h10 ho10 hg10 hlk HR8 hne hl10
      go_wp2_with fail
      refine start_ (n := 20) (S := fun w' => w'.cell? ⟨gl, 0, none⟩ = some (.map (some gm)) ∧ (Instr.lookup 62 (.map (some gm)) (.string name) false).run Tryd.prog w' = .ok (.pointer (some ⟨w2.heap.size, 0, none⟩)) w' ∧ w'.cell? ⟨w2.heap.size, 1, none⟩ = some (.slice none 0 0)) (ds := [19]) #[false, false, false, false, false, false, false, false, false, false, false, false, false, false, false, false, false, false, false, false] (by kernel_rfl) rfl rfl ⟨q0, HLK.out, q1⟩ (fun hHeld => ?_)
      refine pure_ (i := 0) (N := some 62) (v := ?_) (a' := ?_) #[true, false, false, false, false, false, false, false, false, false, false, false, false, false, false, false, false, false, false, false] rfl rfl (by kernel_rfl) (fun _ _ _ h => h) (Or.inl ⟨by rfl, ?_⟩) ?_ ?_
      rotate_left
      · intro w'
        go_simp
        with_reducible rfl
      rotate_left
      · simp only [Act.put, List.setIfInBounds_toArray, List.set_cons_zero, List.set_cons_succ, i64_w, i32_w]
        rfl
      refine pure_ (i := 1) (N := some 63) (v := ?_) (a' := ?_) #[true, true, false, false, false, false, false, false, false, false, false, false, false, false, false, false, false, false, false, false] rfl rfl (by kernel_rfl) (fun _ _ _ h => h) (Or.inl ⟨by rfl, ?_⟩) ?_ ?_
      rotate_left
      · intro w'
        go_simp
        with_reducible rfl
      rotate_left
      · simp only [Act.put, List.setIfInBounds_toArray, List.set_cons_zero, List.set_cons_succ, i64_w, i32_w]
        rfl
      refine pure_ (i := 2) (N := some 64) (v := ?_) (a' := ?_) #[true, true, true, false, false, false, false, false, false, false, false, false, false, false, false, false, false, false, false, false] rfl rfl (by kernel_rfl) (fun _ _ _ h => h) (Or.inl ⟨by rfl, ?_⟩) ?_ ?_
      rotate_left
      · intro w'
        go_simp
        with_reducible rfl
      rotate_left
      · simp only [Act.put, List.setIfInBounds_toArray, List.set_cons_zero, List.set_cons_succ, i64_w, i32_w]
        rfl
      refine pure_ (i := 4) (N := some 66) (v := ?_) (a' := ?_) #[true, true, true, false, true, false, false, false, false, false, false, false, false, false, false, false, false, false, false, false] rfl rfl (by kernel_rfl) (fun _ _ _ h => h) (Or.inl ⟨by rfl, ?_⟩) ?_ ?_
      rotate_left
      · intro w'
        go_simp
        with_reducible rfl
      rotate_left
      · simp only [Act.put, List.setIfInBounds_toArray, List.set_cons_zero, List.set_cons_succ, i64_w, i32_w]
        rfl
      refine pure_ (i := 6) (N := some 68) (v := ?_) (a' := ?_) #[true, true, true, false, true, false, true, false, false, false, false, false, false, false, false, false, false, false, false, false] rfl rfl (by kernel_rfl) (fun _ _ _ h => h) (Or.inl ⟨by rfl, ?_⟩) ?_ ?_
      rotate_left
      · intro w'
        go_simp
        with_reducible rfl
      rotate_left
      · simp only [Act.put, List.setIfInBounds_toArray, List.set_cons_zero, List.set_cons_succ, i64_w, i32_w]
        rfl
      refine pure_ (i := 7) (N := some 69) (v := ?_) (a' := ?_) #[true, true, true, false, true, false, true, true, false, false, false, false, false, false, false, false, false, false, false, false] rfl rfl (by kernel_rfl) (fun _ _ _ h => h) (Or.inl ⟨by rfl, ?_⟩) ?_ ?_
      rotate_left
      · intro w'
        go_simp
        with_reducible rfl
      rotate_left
      · simp only [Act.put, List.setIfInBounds_toArray, List.set_cons_zero, List.set_cons_succ, i64_w, i32_w]
        rfl
      refine pure_ (i := 8) (N := some 70) (v := ?_) (a' := ?_) #[true, true, true, false, true, false, true, true, true, false, false, false, false, false, false, false, false, false, false, false] rfl rfl (by kernel_rfl) (fun _ _ _ h => h) (Or.inl ⟨by rfl, ?_⟩) ?_ ?_
      rotate_left
      · intro w'
        go_simp
        with_reducible rfl
      rotate_left
      · simp only [Act.put, List.setIfInBounds_toArray, List.set_cons_zero, List.set_cons_succ, i64_w, i32_w]
        rfl
      refine pure_ (i := 10) (N := some 72) (v := ?_) (a' := ?_) #[true, true, true, false, true, false, true, true, true, false, true, false, false, false, false, false, false, false, false, false] rfl rfl (by kernel_rfl) (fun _ _ _ h => h) (Or.inl ⟨by rfl, ?_⟩) ?_ ?_
      rotate_left
      · intro w'
        go_simp
        with_reducible rfl
      rotate_left
      · simp only [Act.put, List.setIfInBounds_toArray, List.set_cons_zero, List.set_cons_succ, i64_w, i32_w]
        rfl
      refine pure_ (i := 15) (N := some 77) (v := ?_) (a' := ?_) #[true, true, true, false, true, false, true, true, true, false, true, false, false, false, false, true, false, false, false, false] rfl rfl (by kernel_rfl) (fun _ _ _ h => h) (Or.inl ⟨by rfl, ?_⟩) ?_ ?_
      rotate_left
      · intro w'
        go_simp
        with_reducible rfl
      rotate_left
      · simp only [Act.put, List.setIfInBounds_toArray, List.set_cons_zero, List.set_cons_succ, i64_w, i32_w]
        rfl
      refine take_ (i := 3) (N := some 65) (v := ?_) (a' := ?_) #[true, true, true, true, true, false, true, true, true, false, true, false, false, false, false, true, false, false, false, false] rfl rfl (by kernel_rfl) (fun _ _ _ h => h) (Or.inl ⟨by rfl, ?_⟩) hHeld ?_ ?_
      rotate_left
      · rintro w' ⟨s0, s1, s2⟩
        go_simp
        with_reducible rfl
      rotate_left
      · simp only [Act.put, List.setIfInBounds_toArray, List.set_cons_zero, List.set_cons_succ, i64_w, i32_w]
        rfl
      refine take_ (i := 5) (N := some 67) (v := ?_) (a' := ?_) #[true, true, true, true, true, true, true, true, true, false, true, false, false, false, false, true, false, false, false, false] rfl rfl (by kernel_rfl) (fun _ _ _ h => h) (Or.inl ⟨by rfl, ?_⟩) hHeld ?_ ?_
      rotate_left
      · rintro w' ⟨s0, s1, s2⟩
        go_simp
        with_reducible rfl
      rotate_left
      · simp only [Act.put, List.setIfInBounds_toArray, List.set_cons_zero, List.set_cons_succ, i64_w, i32_w]
        rfl
      refine take_ (i := 9) (N := some 71) (v := ?_) (a' := ?_) #[true, true, true, true, true, true, true, true, true, true, true, false, false, false, false, true, false, false, false, false] rfl rfl (by kernel_rfl) (fun _ _ _ h => h) (Or.inl ⟨by rfl, ?_⟩) hHeld ?_ ?_
      rotate_left
      · rintro w' ⟨s0, s1, s2⟩
        go_simp
        with_reducible rfl
      rotate_left
      · simp only [Act.put, List.setIfInBounds_toArray, List.set_cons_zero, List.set_cons_succ, i64_w, i32_w]
        rfl
      refine take_ (i := 11) (N := some 73) (v := ?_) (a' := ?_) #[true, true, true, true, true, true, true, true, true, true, true, true, false, false, false, true, false, false, false, false] rfl rfl (by kernel_rfl) (fun _ _ _ h => h) (Or.inl ⟨by rfl, ?_⟩) hHeld ?_ ?_
      rotate_left
      · rintro w' ⟨s0, s1, s2⟩
        go_simp
        with_reducible rfl
      rotate_left
      · simp only [Act.put, List.setIfInBounds_toArray, List.set_cons_zero, List.set_cons_succ, i64_w, i32_w]
        rfl
      refine pure_ (i := 12) (N := some 74) (v := ?_) (a' := ?_) #[true, true, true, true, true, true, true, true, true, true, true, true, true, false, false, true, false, false, false, false] rfl rfl (by kernel_rfl) (fun _ _ _ h => h) (Or.inl ⟨by rfl, ?_⟩) ?_ ?_
      rotate_left
      · intro w'
        go_simp
        with_reducible rfl
      rotate_left
      · simp only [Act.put, List.setIfInBounds_toArray, List.set_cons_zero, List.set_cons_succ, i64_w, i32_w]
        rfl
      refine pure_ (i := 13) (N := some 75) (v := ?_) (a' := ?_) #[true, true, true, true, true, true, true, true, true, true, true, true, true, true, false, true, false, false, false, false] rfl rfl (by kernel_rfl) (fun _ _ _ h => h) (Or.inl ⟨by rfl, ?_⟩) ?_ ?_
      rotate_left
      · intro w'
        go_simp
        with_reducible rfl
      rotate_left
      · simp only [Act.put, List.setIfInBounds_toArray, List.set_cons_zero, List.set_cons_succ, i64_w, i32_w]
        rfl
      refine take_ (i := 14) (N := some 76) (v := ?_) (a' := ?_) #[true, true, true, true, true, true, true, true, true, true, true, true, true, true, true, true, false, false, false, false] rfl rfl (by kernel_rfl) (fun _ _ _ h => h) (Or.inl ⟨by rfl, ?_⟩) hHeld ?_ ?_
      rotate_left
      · rintro w' ⟨s0, s1, s2⟩
        go_simp
        with_reducible rfl
      rotate_left
      · simp only [Act.put, List.setIfInBounds_toArray, List.set_cons_zero, List.set_cons_succ, i64_w, i32_w]
        rfl
      refine one_ (i := 16) (N := some 78) #[true, true, true, true, true, true, true, true, true, true, true, true, true, true, true, true, true, false, false, false] rfl rfl (by kernel_rfl) (by decide) (fun K hK => ?_)
      refine step_append_run (by rfl) (.tmp 76) (.tmp 77) 28 rfl _ _ rfl rfl HR10.out ?_
      refine hK.out _ _ ⟨(blk_cell HE10.out 0).trans rfl, HL10.out, hc10⟩ (fun hHeld => ?_)
      clear hK K
      refine norm_ (a' := ?_) ?_ ?_
      rotate_left
      · show Act.put _ (some 78) _ = _
        simp only [Act.put, List.setIfInBounds_toArray, List.set_cons_zero, List.set_cons_succ, i64_w, i32_w]
        rfl
      refine pure_ (i := 17) (N := some 79) (v := ?_) (a' := ?_) #[true, true, true, true, true, true, true, true, true, true, true, true, true, true, true, true, true, true, false, false] rfl rfl (by kernel_rfl) (fun _ _ _ h => h) (Or.inl ⟨by rfl, ?_⟩) ?_ ?_
      rotate_left
      · intro w'
        go_simp
        with_reducible rfl
      rotate_left
      · simp only [Act.put, List.setIfInBounds_toArray, List.set_cons_zero, List.set_cons_succ, i64_w, i32_w]
        rfl
      refine pure_ (i := 18) (N := some 80) (v := ?_) (a' := ?_) #[true, true, true, true, true, true, true, true, true, true, true, true, true, true, true, true, true, true, true, false] rfl rfl (by kernel_rfl) (fun _ _ _ h => h) (Or.inl ⟨by rfl, ?_⟩) ?_ ?_
      rotate_left
      · intro w'
        go_simp
        with_reducible rfl
      rotate_left
      · simp only [Act.put, List.setIfInBounds_toArray, List.set_cons_zero, List.set_cons_succ, i64_w, i32_w]
        rfl
      refine last_ (i := 19) (N := none) #[true, true, true, true, true, true, true, true, true, true, true, true, true, true, true, true, true, true, true, true] rfl rfl (by kernel_rfl) (by decide) (fun K hK => ?_)
      refine skip_ (w1 := ?_) (by rfl) rfl ?_ ?_
      rotate_left
      · go_simp
        rfl
      refine hK.out _ _ ?_
      clear hK K
      refine done_ (by kernel_rfl) ?_

      go_wp2_with fail
      go_ret
      refine ⟨rfl, .slice A6 (rows.length + 1) c6, w2.heap.size, .slice A10 vs.length c10, ⟨?_, fun k hk => ?_⟩, (below_drew HB9.out).trans ((off_below HO10.out (by have := HB9.out.size; have := HBW.out; show base ≤ w8.heap.size; omega) (fun k hk => ?_)))⟩
      · rw [List.map_append]
        exact H10.out
      · rcases HG10.out k hk with h | h
        · rcases HGE6.out k h with h | h
          · exact HGE.out k h
          · exact Nat.le_trans HBW.out h
        · exact Nat.le_trans (Nat.le_trans HBW.out HB9.out.size) h
      · rcases HGE6.out k hk with h | h
        · exact HGE.out k h
        · exact Nat.le_trans HBW.out h
end Go.Proofs.YtdobblddnfalcaaDoor.cap
