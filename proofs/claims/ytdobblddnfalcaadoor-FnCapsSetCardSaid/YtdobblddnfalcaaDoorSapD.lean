/- Capabilities: Add of one that is new. Capabilities: a list of them out of what came in; its text. -/
import Derived.Test.YtdobblddnfalcaaDoorSapA
namespace Go.Proofs.YtdobblddnfalcaaDoor.cap
section
open Go.RowKit Go.Proofs.YtdobblddnfalcaaDoorW.PrintWords Go.Proofs.YtdobblddnfalcaaDoorW.PrintLast Go.Proofs.YtdobblddnfalcaaDoorW.PrintMore Go.Proofs.YtdobblddnfalcaaDoor.off Go.Proofs.YtdobblddnfalcaaDoor.mapq Go.Proofs.YtdobblddnfalcaaDoor.PFnCapsWritten
set_option linter.unusedVariables false
set_option linter.unusedSimpArgs false
set_option maxHeartbeats 2000000
set_option maxRecDepth 100000
theorem step_append_run {P : Program} {ops : Array Oper} {o : Oper} {a : Act} {w : World} {K : Act → World → Prop} {Q : Exit → Act → World → Prop} {E : Prop} (hw : Region.wanted o (yielded ops a.tmps) = true) (s x : Operand) (t : TypeId)
    (ho : o.op = .call { callee := .builtin .append, args := #[s, x], argTypes := #[t, t] }) (v u : Value) (hs : a.eval s = v) (hx : a.eval x = u) {v' : Value} {w' : World}
    (hrun : (Builtin.append_ #[t, t] o.type #[v, u]).run P w = .ok v' w') (h : K (a.put o.dst v') w') : if Region.wanted o (yielded ops a.tmps) = true then Oper.wp P o a w K Q else E := by
  rw [if_pos hw]
  unfold Oper.wp
  simp [execOp, ho, resolve, invoke, builtin, hs, hx, hrun, Result.andThen]
  exact h
/-- A list of one's own. -/
structure CapL (base : Nat) (w : World) (gl gm : Nat) (sv : Value) (rows : List Row) : Prop where
  s : CapS w gl gm sv (rows.map (·.name)) rows
  ge : ∀ k ∈ bl gl gm sv rows, base ≤ k
theorem CapL.below {base : Nat} {w w' : World} {gl gm : Nat} {sv : Value} {rows : List Row} (h : CapL base w gl gm sv rows) (hb : Below w.heap.size w w') : CapL base w' gl gm sv rows := ⟨h.s.below hb, h.ge⟩
theorem off_below {base : Nat} {S : Nat → Prop} {w w' : World} (h : Off S w w') (hs : base ≤ w.heap.size) (hS : ∀ k, S k → base ≤ k) : Below base w w' := h.below hs hS
theorem cstr_any (w : World) (s : ByteArray) : Calls Tryd.prog 44 #[.string s] w fun e w' => e = .returned (.string s) ∧ w = w' := by
  go_enter Tryd.func44, Tryd.ntmps44
  go_wp2_with fail
  go_ret
  exact ⟨rfl, rfl⟩
theorem gate_mapU {P : Program} {ops : Array Oper} {Q : Exit → Act → World → Prop} {o : Oper} {rest : List Oper} {a : Act} {w : World} {t : TypeId} {m x v : Operand} (h : o.op = Op.mapUpdate t m x v) (k : wpList P ops Q (o :: rest) a w) : wpList P ops Q (o :: rest) a w := k
theorem add_new (base : Nat) (w : World) (gl gm : Nat) (sv : Value) (rows : List Row) (h : CapL base w gl gm sv rows) (hbw : base ≤ w.heap.size) (name : ByteArray) (A : Option Addr) (c : Nat) (vs : List ByteArray) (ok : ArgsOk name vs) (hsrc : Src w A vs.length (strs vs)) (hA : ∀ ad, A = some ad → ad.block ∉ bl gl gm sv rows)
    (hf : find rows name = none) (hn : rows.length ≤ 1000) :
    Calls Tryd.prog 31 #[.pointer (some ⟨gl, 0, none⟩), .string name, .slice A vs.length c] w fun e w' => e = .returned .nilIface ∧ ∃ sv' ge v', CapL base w' gl gm sv' (rows ++ [⟨name, ge, v', vs⟩]) ∧ Below base w w' ∧ Off (fun k => k ∈ bl gl gm sv rows) w w' ∧ ∀ k ∈ bl gl gm sv' (rows ++ [⟨name, ge, v', vs⟩]), k ∈ bl gl gm sv rows ∨ w.heap.size ≤ k := by
  have hsz : name.size ≤ maxLen := Nat.le_trans ok.size (by decide)
  have HV := Aside0.mk (validate_any w (.pointer (some ⟨gl, 0, none⟩)) name A c vs ok hsrc)
  have HSUP := Aside0.mk (fun W (hb : Below w.heap.size w W) => supports_any W gl gm sv _ rows (h.s.below hb) name hsz false (by rw [hf]; rfl))
  have HNEW := Aside0.mk (fun W (hb : Below w.heap.size w W) => capS_new (h.s.below hb) name hsz hf (by omega))
  have HGE := Aside0.mk h.ge
  have HS0 := Aside0.mk h.s
  have HSRC := Aside0.mk hsrc
  have HA := Aside0.mk hA
  have HBW := Aside0.mk hbw
  have HF := Aside0.mk hf
  have HN := Aside0.mk hn
  have HOK := Aside0.mk ok
  clear h hsrc hA hbw hf hn ok
  go_enter Tryd.func31, Tryd.ntmps31
  go_wp2_with fail
  refine HV.out.mono ?_
  rintro e w1 ⟨rfl, hb⟩
  have HB1 := Aside0.mk hb
  clear hb HV
  go_wp2_with fail
  refine (HSUP.out _ HB1.out).mono ?_
  rintro e w2 ⟨rfl, hb⟩
  have HB2 := Aside0.mk (below_step HB1.out hb)
  clear hb HSUP HB1
  obtain ⟨w3, hr3, h3, ho3⟩ := HNEW.out w2 HB2.out
  have HR3 := Aside0.mk hr3
  have H3 := Aside0.mk h3
  have HO3 := Aside0.mk ho3
  have HS2 := Aside0.mk (HS0.out.below HB2.out)
  have q0 := (blk_cell HS2.out.list 0).trans (show _ = some (Value.map (some gm)) from rfl)
  have zz := zeroStrs w2
  clear hr3 h3 ho3 HNEW
  go_wp2_with (first | ((with_reducible refine gate_mapU rfl ?_); go_must (refine wpList_mapUpdate_run rfl _ _ _ _ rfl _ _ _ rfl rfl rfl HR3.out ?_)) | fail)
  have HB3 := Aside0.mk (show Below base w w3 from (HB2.out.mono HBW.out).trans (HO3.out.below (base := base) (by have := HB2.out.size; have := HBW.out; omega) (fun k hk => by simp [In] at hk; rw [hk]; exact HGE.out gm (List.mem_cons_of_mem _ List.mem_cons_self))))
  have HGE3 := Aside0.mk (show ∀ k ∈ bl gl gm sv (rows ++ [⟨name, w2.heap.size, .slice none 0 0, []⟩]), k ∈ bl gl gm sv rows ∨ w.heap.size ≤ k from fun k hk => by
    unfold bl at hk ⊢
    rw [List.flatMap_append] at hk
    simp only [List.mem_cons, List.mem_append] at hk ⊢
    rcases hk with h | h | h | h | h
    · exact .inl (.inl h)
    · exact .inl (.inr (.inl h))
    · exact .inl (.inr (.inr (.inl h)))
    · exact .inl (.inr (.inr (.inr h)))
    · simp [blks, own, Value.ownBlock] at h
      exact .inr (by rw [h]; exact HB2.out.size))
  have HOF3 := Aside0.mk (off_trans2 (S := fun k => k ∈ bl gl gm sv rows) (Off.of_below HB2.out) HO3.out (fun k hk h => by simp [In] at h; rw [h]; exact List.mem_cons_of_mem _ List.mem_cons_self))
  clear HR3 HS2 zz q0 HS0
  obtain ⟨v6, w6, hr6, ⟨A6, c6, hv6⟩, hc6, hf6, h6, ho6, hg6⟩ := capS_name (w := w3.drew) (H3.out.keep (Nat.le_refl _) (fun _ _ => rfl)) name (by rw [List.length_map]; exact Nat.le_trans HN.out (by decide))
  rw [List.length_map] at hv6
  subst hv6
  have HR6 := Aside0.mk hr6
  have H6 := Aside0.mk h6
  have HO6 := Aside0.mk ho6
  have HG6 := Aside0.mk hg6
  have p1 := (blk_cell H3.out.list 1).trans (show _ = some sv from rfl)
  clear hr6 h6 ho6 hg6
  refine start_ (n := 12) (S := fun w' => w'.cell? ⟨gl, 1, none⟩ = some sv) (ds := [8, 11]) #[false, false, false, false, false, false, false, false, false, false, false, false] (by kernel_rfl) rfl rfl (p1) (fun hHeld => ?_)
  refine pure_ (i := 0) (N := some 27) (v := ?_) (a' := ?_) #[true, false, false, false, false, false, false, false, false, false, false, false] rfl rfl (by kernel_rfl) (fun _ _ _ h => h) (Or.inl ⟨by rfl, ?_⟩) ?_ ?_
  rotate_left
  · intro w'
    go_simp
    with_reducible rfl
  rotate_left
  · simp only [Act.put, List.setIfInBounds_toArray, List.set_cons_zero, List.set_cons_succ, i64_w, i32_w]
    rfl
  refine pure_ (i := 1) (N := some 28) (v := ?_) (a' := ?_) #[true, true, false, false, false, false, false, false, false, false, false, false] rfl rfl (by kernel_rfl) (fun _ _ _ h => h) (Or.inl ⟨by rfl, ?_⟩) ?_ ?_
  rotate_left
  · intro w'
    go_simp
    with_reducible rfl
  rotate_left
  · simp only [Act.put, List.setIfInBounds_toArray, List.set_cons_zero, List.set_cons_succ, i64_w, i32_w]
    rfl
  refine pure_ (i := 2) (N := some 29) (v := ?_) (a' := ?_) #[true, true, true, false, false, false, false, false, false, false, false, false] rfl rfl (by kernel_rfl) (fun _ _ _ h => h) (Or.inl ⟨by rfl, ?_⟩) ?_ ?_
  rotate_left
  · intro w'
    go_simp
    with_reducible rfl
  rotate_left
  · simp only [Act.put, List.setIfInBounds_toArray, List.set_cons_zero, List.set_cons_succ, i64_w, i32_w]
    rfl
  refine pure_ (i := 3) (N := some 30) (v := ?_) (a' := ?_) #[true, true, true, true, false, false, false, false, false, false, false, false] rfl rfl (by kernel_rfl) (fun _ _ _ h => h) (Or.inl ⟨by rfl, ?_⟩) ?_ ?_
  rotate_left
  · intro w'
    go_simp
    with_reducible rfl
  rotate_left
  · simp only [Act.put, List.setIfInBounds_toArray, List.set_cons_zero, List.set_cons_succ, i64_w, i32_w]
    rfl
  refine pure_ (i := 5) (N := some 32) (v := ?_) (a' := ?_) #[true, true, true, true, false, true, false, false, false, false, false, false] rfl rfl (by kernel_rfl) (fun _ _ _ h => h) (Or.inl ⟨by rfl, ?_⟩) ?_ ?_
  rotate_left
  · intro w'
    go_simp
    with_reducible rfl
  rotate_left
  · simp only [Act.put, List.setIfInBounds_toArray, List.set_cons_zero, List.set_cons_succ, i64_w, i32_w]
    rfl
  refine take_ (i := 4) (N := some 31) (v := ?_) (a' := ?_) #[true, true, true, true, true, true, false, false, false, false, false, false] rfl rfl (by kernel_rfl) (fun _ _ _ h => h) (Or.inl ⟨by rfl, ?_⟩) hHeld ?_ ?_
  rotate_left
  · intro w' s0
    go_simp
    with_reducible rfl
  rotate_left
  · simp only [Act.put, List.setIfInBounds_toArray, List.set_cons_zero, List.set_cons_succ, i64_w, i32_w]
    rfl
  refine one_ (i := 6) (N := some 33) #[true, true, true, true, true, true, true, false, false, false, false, false] rfl rfl (by kernel_rfl) (by decide) (fun K hK => ?_)
  refine goes_ Tryd.func44 (by kernel_rfl) rfl #[.string name] (by rfl) rfl rfl (by simp only [List.map_toArray, List.map_cons, List.map_nil]; rfl) ?_
  with_reducible refine (cstr_any _ name).mono ?_
  rintro e wq ⟨rfl, rfl⟩
  refine ⟨_, rfl, ?_⟩
  refine hK.out _ _ (p1) (fun hHeld => ?_)
  clear hK K
  refine norm_ (a' := ?_) ?_ ?_
  rotate_left
  · show Act.put _ (some 33) _ = _
    simp only [Act.put, List.setIfInBounds_toArray, List.set_cons_zero, List.set_cons_succ, i64_w, i32_w]
    rfl
  refine one_ (i := 7) (N := some 34) #[true, true, true, true, true, true, true, true, false, false, false, false] rfl rfl (by kernel_rfl) (by decide) (fun K hK => ?_)
  refine value_ (w1 := ?_) (v := ?_) (by rfl) rfl ?_ ?_
  rotate_left 2
  · go_simp
    constructor
    · rfl
    · rfl
  refine hK.out _ _ ((cell_same gl 1 ((off_alloc w3.drew (fun _ => False) _).block gl (blk_lt H3.out.list) (fun h => h))).trans p1) (fun hHeld => ?_)
  clear hK K
  refine norm_ (a' := ?_) ?_ ?_
  rotate_left
  · show Act.put _ (some 34) _ = _
    simp only [Act.put, List.setIfInBounds_toArray, List.set_cons_zero, List.set_cons_succ, i64_w, i32_w]
    rfl
  refine last_ (i := 8) (N := some 35) #[true, true, true, true, true, true, true, true, true, false, false, false] rfl rfl (by kernel_rfl) (by decide) (fun K hK => ?_)
  refine step_append_run (by rfl) (.tmp 31) (.tmp 34) 28 rfl _ _ rfl rfl HR6.out ?_
  refine hK.out _ _ ?_
  clear hK K
  refine norm_ (a' := ?_) ?_ ?_
  rotate_left
  · show Act.put _ (some 35) _ = _
    simp only [Act.put, List.setIfInBounds_toArray, List.set_cons_zero, List.set_cons_succ, i64_w, i32_w]
    rfl
  refine pure_ (i := 9) (N := some 36) (v := ?_) (a' := ?_) #[true, true, true, true, true, true, true, true, true, true, false, false] rfl rfl (by kernel_rfl) (fun _ _ _ h => h) (Or.inl ⟨by rfl, ?_⟩) ?_ ?_
  rotate_left
  · intro w'
    go_simp
    with_reducible rfl
  rotate_left
  · simp only [Act.put, List.setIfInBounds_toArray, List.set_cons_zero, List.set_cons_succ, i64_w, i32_w]
    rfl
  refine pure_ (i := 10) (N := some 37) (v := ?_) (a' := ?_) #[true, true, true, true, true, true, true, true, true, true, true, false] rfl rfl (by kernel_rfl) (fun _ _ _ h => h) (Or.inl ⟨by rfl, ?_⟩) ?_ ?_
  rotate_left
  · intro w'
    go_simp
    with_reducible rfl
  rotate_left
  · simp only [Act.put, List.setIfInBounds_toArray, List.set_cons_zero, List.set_cons_succ, i64_w, i32_w]
    rfl
  refine last_ (i := 11) (N := none) #[true, true, true, true, true, true, true, true, true, true, true, true] rfl rfl (by kernel_rfl) (by decide) (fun K hK => ?_)
  refine skip_ (w1 := ?_) (by rfl) rfl ?_ ?_
  rotate_left
  · go_simp
    rfl
  refine hK.out _ _ ?_
  clear hK K
  refine done_ (by kernel_rfl) ?_

  have HB6 := Aside0.mk (show Below base w (w6.setCell ⟨gl, 1, none⟩ (.slice A6 (rows.length + 1) c6)) from (below_drew HB3.out).trans ((off_below (HO6.out) (by have := HB3.out.size; have := HBW.out; show base ≤ w3.heap.size; omega) (fun k hk => by
    rcases HGE3.out k hk with h | h
    · exact HGE.out k h
    · have := HBW.out; omega))))
  have HGE6 := Aside0.mk (show ∀ k ∈ bl gl gm (.slice A6 (rows.length + 1) c6) (rows ++ [⟨name, w2.heap.size, .slice none 0 0, []⟩]), k ∈ bl gl gm sv rows ∨ w.heap.size ≤ k from fun k hk => by
    rcases HG6.out k hk with h | h
    · exact HGE3.out k h
    · exact .inr (Nat.le_trans HB3.out.size h))
  have HOF6 := Aside0.mk (off_trans2 (S := fun k => k ∈ bl gl gm sv rows) HOF3.out.drew HO6.out (fun k hk h => (HGE3.out k h).resolve_right (by omega)))
  have HSRC6 := Aside0.mk (show Src (w6.setCell ⟨gl, 1, none⟩ (.slice A6 (rows.length + 1) c6)) A vs.length (strs vs) from ⟨HSRC.out.len, fun j u hj => by
    obtain ⟨ad, e1, e2⟩ := HSRC.out.rd j u hj
    have hlt := World.block_lt_of_cell? w _ e2
    have hbk : (ad.add j).block = ad.block := by unfold Addr.add; split <;> rfl
    have hk := HA.out ad e1
    refine ⟨ad, e1, ?_⟩
    rw [← e2]
    refine World.cell?_of_block ?_
    rw [hbk] at hlt ⊢
    have b6 := HO6.out.block ad.block (by show ad.block < w3.heap.size; have := HB3.out.size; omega) (fun h => by
      rcases HGE3.out _ h with h | h
      · exact hk h
      · omega)
    rw [b6]
    show w3.heap[ad.block]? = _
    rw [HO3.out.block ad.block (by have := HB2.out.size; omega) (by simp [In]; intro e; exact hk (by rw [e]; exact List.mem_cons_of_mem _ List.mem_cons_self))]
    exact HB2.out.block ad.block hlt, HSRC.out.one⟩)
  clear HO6 HG6 HR6 hc6 hf6 HSRC HA HGE3 HB3 HO3 HB2 p1 H3
  generalize hW : w6.setCell ⟨gl, 1, none⟩ (.slice A6 (rows.length + 1) c6) = W6 at H6 HB6 HSRC6 HOF6
  by_cases hv : vs.length = 0
  · obtain rfl : vs = [] := List.eq_nil_of_length_eq_zero hv
    clear HF HOK
    go_wp2_with fail
    go_ret
    refine ⟨rfl, .slice A6 (rows.length + 1) c6, w2.heap.size, .slice none 0 0, ⟨?_, fun k hk => ?_⟩, HB6.out, HOF6.out, HGE6.out⟩
    · rw [List.map_append]
      exact H6.out
    · rcases HGE6.out k hk with h | h
      · exact HGE.out k h
      · exact Nat.le_trans HBW.out h
  · have d0 : ((vs.length : Int) == 0) = false := beq_eq_false_iff_ne.2 (by omega)
    have d1 : (vs.length == 0) = false := beq_eq_false_iff_ne.2 hv
    have HK := Aside0.mk (fun W => known_any W name hsz true HOK.out.known)
    obtain ⟨mu, hmu⟩ : ∃ b, decide (name.data.toList ∈ multipleL) = b := ⟨_, rfl⟩
    have HU := Aside0.mk (fun W => multiple_any W name hsz mu hmu)
    clear hmu hv
    go_wp2_with fail
    refine (HK.out _).mono ?_
    rintro e w7 ⟨rfl, hb⟩
    have HB7 := Aside0.mk hb
    clear hb
    go_wp2_with fail
    refine (HU.out _).mono ?_
    rintro e w8 ⟨rfl, hb⟩
    have HB8 := Aside0.mk (below_step HB7.out hb)
    have HR8 := Aside0.mk trivial
    clear hb HB7 HK HU
    cases mu with
    | true =>
      have HSRC9 := Aside0.mk (Src.below HSRC6.out HB8.out)
      have H9 := Aside0.mk (H6.out.below HB8.out)
      have HB9 := Aside0.mk (HB6.out.trans (HB8.out.mono (by have := HB6.out.size; have := HBW.out; omega)))
      obtain ⟨v10, w10, hr10, ⟨A10, c10, hv10⟩, hc10, hf10, h10, ho10, hg10⟩ := capS_vals (w := w8.drew) (a := rows) (b := []) (r := ⟨name, w2.heap.size, .slice none 0 0, []⟩) (H9.out.keep (Nat.le_refl _) (fun _ _ => rfl)) (c := c) vs (Src.below HSRC9.out ((below_drew (Below.refl _ _)))) (by have := HOK.out.most; simp; omega)
      simp only [List.length_nil, Nat.zero_add, List.nil_append] at hv10 hc10 hf10 h10 ho10 hg10 hr10
      subst hv10
      have HR10 := Aside0.mk hr10
      have H10 := Aside0.mk h10
      have HO10 := Aside0.mk ho10
      have HG10 := Aside0.mk hg10
      have q0 := (blk_cell H9.out.list 0).trans (show _ = some (Value.map (some gm)) from rfl)
      have q1 := (blk_cell (H9.out.row _ (List.mem_append_right _ (List.mem_singleton.2 rfl))).cells 1).trans (show _ = some (Value.slice none 0 0) from rfl)
      have hlk := fun W (hb : Below w8.heap.size w8 W) => (H9.out.map.keep (w' := W) (hb.block gm H9.out.map.lt)).look1 Tryd.underlying50 Tryd.underlying62 (zeroPtr W) name hsz
      rw [show find (rows ++ [⟨name, w2.heap.size, .slice none 0 0, []⟩]) name = some w2.heap.size by rw [find_snoc (r := ⟨name, w2.heap.size, .slice none 0 0, []⟩) HF.out]; unfold upd; rw [if_pos rfl]] at hlk
      have HLK := Aside0.mk (hlk w8.drew (below_drew (Below.refl _ _)))
      have hne := (H9.out.apart.2.2.1 w2.heap.size (mem_rows (List.mem_append_right _ (List.mem_singleton.2 rfl)) List.mem_cons_self))
      have HE10 := Aside0.mk ((Below.heap_setCell w10 ⟨w2.heap.size, 1, none⟩ (.slice A10 vs.length c10) gl (fun e => hne.1 e.symm)).symm.trans H10.out.list)
      have hl10 := (H10.out.map.keep (Below.heap_setCell w10 ⟨w2.heap.size, 1, none⟩ (.slice A10 vs.length c10) gm (fun e => hne.2.1 e.symm)).symm).look1 Tryd.underlying50 Tryd.underlying62 (zeroPtr w10) name hsz
      rw [show find (rows ++ [⟨name, w2.heap.size, .slice A10 vs.length c10, vs⟩]) name = some w2.heap.size by rw [find_snoc (r := ⟨name, w2.heap.size, .slice A10 vs.length c10, vs⟩) HF.out]; unfold upd; rw [if_pos rfl]] at hl10
      have HL10 := Aside0.mk hl10
      clear hr10 h10 ho10 hg10 hlk HR8 hne hl10
      go_wp2_with fail
      refine start_ (n := 20) (S := fun w' => w'.cell? ⟨gl, 0, none⟩ = some (.map (some gm)) ∧ (Instr.lookup 62 (.map (some gm)) (.string name) false).run Tryd.prog w' = .ok (.pointer (some ⟨w2.heap.size, 0, none⟩)) w' ∧ w'.cell? ⟨w2.heap.size, 1, none⟩ = some (.slice none 0 0)) (ds := [19]) #[false, false, false, false, false, false, false, false, false, false, false, false, false, false, false, false, false, false, false, false] (by kernel_rfl) rfl rfl ⟨q0, HLK.out, q1⟩ (fun hHeld => ?_)
      refine pure_ (i := 0) (N := some 62) (v := ?_) (a' := ?_) #[true, false, false, false, false, false, false, false, false, false, false, false, false, false, false, false, false, false, false, false] rfl rfl (by kernel_rfl) (fun _ _ _ h => h) (Or.inl ⟨by rfl, ?_⟩) ?_ ?_
      rotate_left
      · intro w'
        go_simp
        with_reducible rfl
      rotate_left
      · simp only [Act.put, List.setIfInBounds_toArray, List.set_cons_zero, List.set_cons_succ, i64_w, i32_w]
        rfl
      refine pure_ (i := 1) (N := some 63) (v := ?_) (a' := ?_) #[true, true, false, false, false, false, false, false, false, false, false, false, false, false, false, false, false, false, false, false] rfl rfl (by kernel_rfl) (fun _ _ _ h => h) (Or.inl ⟨by rfl, ?_⟩) ?_ ?_
      rotate_left
      · intro w'
        go_simp
        with_reducible rfl
      rotate_left
      · simp only [Act.put, List.setIfInBounds_toArray, List.set_cons_zero, List.set_cons_succ, i64_w, i32_w]
        rfl
      refine pure_ (i := 2) (N := some 64) (v := ?_) (a' := ?_) #[true, true, true, false, false, false, false, false, false, false, false, false, false, false, false, false, false, false, false, false] rfl rfl (by kernel_rfl) (fun _ _ _ h => h) (Or.inl ⟨by rfl, ?_⟩) ?_ ?_
      rotate_left
      · intro w'
        go_simp
        with_reducible rfl
      rotate_left
      · simp only [Act.put, List.setIfInBounds_toArray, List.set_cons_zero, List.set_cons_succ, i64_w, i32_w]
        rfl
      refine pure_ (i := 4) (N := some 66) (v := ?_) (a' := ?_) #[true, true, true, false, true, false, false, false, false, false, false, false, false, false, false, false, false, false, false, false] rfl rfl (by kernel_rfl) (fun _ _ _ h => h) (Or.inl ⟨by rfl, ?_⟩) ?_ ?_
      rotate_left
      · intro w'
        go_simp
        with_reducible rfl
      rotate_left
      · simp only [Act.put, List.setIfInBounds_toArray, List.set_cons_zero, List.set_cons_succ, i64_w, i32_w]
        rfl
      refine pure_ (i := 6) (N := some 68) (v := ?_) (a' := ?_) #[true, true, true, false, true, false, true, false, false, false, false, false, false, false, false, false, false, false, false, false] rfl rfl (by kernel_rfl) (fun _ _ _ h => h) (Or.inl ⟨by rfl, ?_⟩) ?_ ?_
      rotate_left
      · intro w'
        go_simp
        with_reducible rfl
      rotate_left
      · simp only [Act.put, List.setIfInBounds_toArray, List.set_cons_zero, List.set_cons_succ, i64_w, i32_w]
        rfl
      refine pure_ (i := 7) (N := some 69) (v := ?_) (a' := ?_) #[true, true, true, false, true, false, true, true, false, false, false, false, false, false, false, false, false, false, false, false] rfl rfl (by kernel_rfl) (fun _ _ _ h => h) (Or.inl ⟨by rfl, ?_⟩) ?_ ?_
      rotate_left
      · intro w'
        go_simp
        with_reducible rfl
      rotate_left
      · simp only [Act.put, List.setIfInBounds_toArray, List.set_cons_zero, List.set_cons_succ, i64_w, i32_w]
        rfl
      refine pure_ (i := 8) (N := some 70) (v := ?_) (a' := ?_) #[true, true, true, false, true, false, true, true, true, false, false, false, false, false, false, false, false, false, false, false] rfl rfl (by kernel_rfl) (fun _ _ _ h => h) (Or.inl ⟨by rfl, ?_⟩) ?_ ?_
      rotate_left
      · intro w'
        go_simp
        with_reducible rfl
      rotate_left
      · simp only [Act.put, List.setIfInBounds_toArray, List.set_cons_zero, List.set_cons_succ, i64_w, i32_w]
        rfl
      refine pure_ (i := 10) (N := some 72) (v := ?_) (a' := ?_) #[true, true, true, false, true, false, true, true, true, false, true, false, false, false, false, false, false, false, false, false] rfl rfl (by kernel_rfl) (fun _ _ _ h => h) (Or.inl ⟨by rfl, ?_⟩) ?_ ?_
      rotate_left
      · intro w'
        go_simp
        with_reducible rfl
      rotate_left
      · simp only [Act.put, List.setIfInBounds_toArray, List.set_cons_zero, List.set_cons_succ, i64_w, i32_w]
        rfl
      refine pure_ (i := 15) (N := some 77) (v := ?_) (a' := ?_) #[true, true, true, false, true, false, true, true, true, false, true, false, false, false, false, true, false, false, false, false] rfl rfl (by kernel_rfl) (fun _ _ _ h => h) (Or.inl ⟨by rfl, ?_⟩) ?_ ?_
      rotate_left
      · intro w'
        go_simp
        with_reducible rfl
      rotate_left
      · simp only [Act.put, List.setIfInBounds_toArray, List.set_cons_zero, List.set_cons_succ, i64_w, i32_w]
        rfl
      refine take_ (i := 3) (N := some 65) (v := ?_) (a' := ?_) #[true, true, true, true, true, false, true, true, true, false, true, false, false, false, false, true, false, false, false, false] rfl rfl (by kernel_rfl) (fun _ _ _ h => h) (Or.inl ⟨by rfl, ?_⟩) hHeld ?_ ?_
      rotate_left
      · rintro w' ⟨s0, s1, s2⟩
        go_simp
        with_reducible rfl
      rotate_left
      · simp only [Act.put, List.setIfInBounds_toArray, List.set_cons_zero, List.set_cons_succ, i64_w, i32_w]
        rfl
      refine take_ (i := 5) (N := some 67) (v := ?_) (a' := ?_) #[true, true, true, true, true, true, true, true, true, false, true, false, false, false, false, true, false, false, false, false] rfl rfl (by kernel_rfl) (fun _ _ _ h => h) (Or.inl ⟨by rfl, ?_⟩) hHeld ?_ ?_
      rotate_left
      · rintro w' ⟨s0, s1, s2⟩
        go_simp
        with_reducible rfl
      rotate_left
      · simp only [Act.put, List.setIfInBounds_toArray, List.set_cons_zero, List.set_cons_succ, i64_w, i32_w]
        rfl
      refine take_ (i := 9) (N := some 71) (v := ?_) (a' := ?_) #[true, true, true, true, true, true, true, true, true, true, true, false, false, false, false, true, false, false, false, false] rfl rfl (by kernel_rfl) (fun _ _ _ h => h) (Or.inl ⟨by rfl, ?_⟩) hHeld ?_ ?_
      rotate_left
      · rintro w' ⟨s0, s1, s2⟩
        go_simp
        with_reducible rfl
      rotate_left
      · simp only [Act.put, List.setIfInBounds_toArray, List.set_cons_zero, List.set_cons_succ, i64_w, i32_w]
        rfl
      refine take_ (i := 11) (N := some 73) (v := ?_) (a' := ?_) #[true, true, true, true, true, true, true, true, true, true, true, true, false, false, false, true, false, false, false, false] rfl rfl (by kernel_rfl) (fun _ _ _ h => h) (Or.inl ⟨by rfl, ?_⟩) hHeld ?_ ?_
      rotate_left
      · rintro w' ⟨s0, s1, s2⟩
        go_simp
        with_reducible rfl
      rotate_left
      · simp only [Act.put, List.setIfInBounds_toArray, List.set_cons_zero, List.set_cons_succ, i64_w, i32_w]
        rfl
      refine pure_ (i := 12) (N := some 74) (v := ?_) (a' := ?_) #[true, true, true, true, true, true, true, true, true, true, true, true, true, false, false, true, false, false, false, false] rfl rfl (by kernel_rfl) (fun _ _ _ h => h) (Or.inl ⟨by rfl, ?_⟩) ?_ ?_
      rotate_left
      · intro w'
        go_simp
        with_reducible rfl
      rotate_left
      · simp only [Act.put, List.setIfInBounds_toArray, List.set_cons_zero, List.set_cons_succ, i64_w, i32_w]
        rfl
      refine pure_ (i := 13) (N := some 75) (v := ?_) (a' := ?_) #[true, true, true, true, true, true, true, true, true, true, true, true, true, true, false, true, false, false, false, false] rfl rfl (by kernel_rfl) (fun _ _ _ h => h) (Or.inl ⟨by rfl, ?_⟩) ?_ ?_
      rotate_left
      · intro w'
        go_simp
        with_reducible rfl
      rotate_left
      · simp only [Act.put, List.setIfInBounds_toArray, List.set_cons_zero, List.set_cons_succ, i64_w, i32_w]
        rfl
      refine take_ (i := 14) (N := some 76) (v := ?_) (a' := ?_) #[true, true, true, true, true, true, true, true, true, true, true, true, true, true, true, true, false, false, false, false] rfl rfl (by kernel_rfl) (fun _ _ _ h => h) (Or.inl ⟨by rfl, ?_⟩) hHeld ?_ ?_
      rotate_left
      · rintro w' ⟨s0, s1, s2⟩
        go_simp
        with_reducible rfl
      rotate_left
      · simp only [Act.put, List.setIfInBounds_toArray, List.set_cons_zero, List.set_cons_succ, i64_w, i32_w]
        rfl
      refine one_ (i := 16) (N := some 78) #[true, true, true, true, true, true, true, true, true, true, true, true, true, true, true, true, true, false, false, false] rfl rfl (by kernel_rfl) (by decide) (fun K hK => ?_)
      refine step_append_run (by rfl) (.tmp 76) (.tmp 77) 28 rfl _ _ rfl rfl HR10.out ?_
      refine hK.out _ _ ⟨(blk_cell HE10.out 0).trans rfl, HL10.out, hc10⟩ (fun hHeld => ?_)
      clear hK K
      refine norm_ (a' := ?_) ?_ ?_
      rotate_left
      · show Act.put _ (some 78) _ = _
        simp only [Act.put, List.setIfInBounds_toArray, List.set_cons_zero, List.set_cons_succ, i64_w, i32_w]
        rfl
      refine pure_ (i := 17) (N := some 79) (v := ?_) (a' := ?_) #[true, true, true, true, true, true, true, true, true, true, true, true, true, true, true, true, true, true, false, false] rfl rfl (by kernel_rfl) (fun _ _ _ h => h) (Or.inl ⟨by rfl, ?_⟩) ?_ ?_
      rotate_left
      · intro w'
        go_simp
        with_reducible rfl
      rotate_left
      · simp only [Act.put, List.setIfInBounds_toArray, List.set_cons_zero, List.set_cons_succ, i64_w, i32_w]
        rfl
      refine pure_ (i := 18) (N := some 80) (v := ?_) (a' := ?_) #[true, true, true, true, true, true, true, true, true, true, true, true, true, true, true, true, true, true, true, false] rfl rfl (by kernel_rfl) (fun _ _ _ h => h) (Or.inl ⟨by rfl, ?_⟩) ?_ ?_
      rotate_left
      · intro w'
        go_simp
        with_reducible rfl
      rotate_left
      · simp only [Act.put, List.setIfInBounds_toArray, List.set_cons_zero, List.set_cons_succ, i64_w, i32_w]
        rfl
      refine last_ (i := 19) (N := none) #[true, true, true, true, true, true, true, true, true, true, true, true, true, true, true, true, true, true, true, true] rfl rfl (by kernel_rfl) (by decide) (fun K hK => ?_)
      refine skip_ (w1 := ?_) (by rfl) rfl ?_ ?_
      rotate_left
      · go_simp
        rfl
      refine hK.out _ _ ?_
      clear hK K
      refine done_ (by kernel_rfl) ?_

      go_wp2_with fail
      go_ret
      refine ⟨rfl, .slice A6 (rows.length + 1) c6, w2.heap.size, .slice A10 vs.length c10, ⟨?_, fun k hk => ?_⟩, (below_drew HB9.out).trans ((off_below HO10.out (by have := HB9.out.size; have := HBW.out; show base ≤ w8.heap.size; omega) (fun k hk => ?_))), off_trans2 (HOF6.out.then_ HB8.out).drew HO10.out (fun k hk h => (HGE6.out k h).resolve_right (by omega)), fun k hk => (HG10.out k hk).elim (HGE6.out k) (fun h => .inr (Nat.le_trans HB9.out.size h))⟩
      · rw [List.map_append]
        exact H10.out
      · rcases HG10.out k hk with h | h
        · rcases HGE6.out k h with h | h
          · exact HGE.out k h
          · exact Nat.le_trans HBW.out h
        · exact Nat.le_trans (Nat.le_trans HBW.out HB9.out.size) h
      · rcases HGE6.out k hk with h | h
        · exact HGE.out k h
        · exact Nat.le_trans HBW.out h
    | false =>
      have HSRC9 := Aside0.mk (Src.below HSRC6.out HB8.out)
      have H9 := Aside0.mk (H6.out.below HB8.out)
      have HB9 := Aside0.mk (HB6.out.trans (HB8.out.mono (by have := HB6.out.size; have := HBW.out; omega)))
      obtain ⟨v10, w10, hr10, ⟨A10, c10, hv10⟩, hc10, hf10, h10, ho10, hg10⟩ := capS_vals (w := w8.drew) (a := rows) (b := []) (r := ⟨name, w2.heap.size, .slice none 0 0, []⟩) (H9.out.keep (Nat.le_refl _) (fun _ _ => rfl)) (c := c) vs (Src.below HSRC9.out ((below_drew (Below.refl _ _)))) (by have := HOK.out.most; simp; omega)
      simp only [List.length_nil, Nat.zero_add, List.nil_append] at hv10 hc10 hf10 h10 ho10 hg10 hr10
      subst hv10
      have HR10 := Aside0.mk hr10
      have H10 := Aside0.mk h10
      have HO10 := Aside0.mk ho10
      have HG10 := Aside0.mk hg10
      have q0 := (blk_cell H9.out.list 0).trans (show _ = some (Value.map (some gm)) from rfl)
      have q1 := (blk_cell (H9.out.row _ (List.mem_append_right _ (List.mem_singleton.2 rfl))).cells 1).trans (show _ = some (Value.slice none 0 0) from rfl)
      have hlk := fun W (hb : Below w8.heap.size w8 W) => (H9.out.map.keep (w' := W) (hb.block gm H9.out.map.lt)).look1 Tryd.underlying50 Tryd.underlying62 (zeroPtr W) name hsz
      rw [show find (rows ++ [⟨name, w2.heap.size, .slice none 0 0, []⟩]) name = some w2.heap.size by rw [find_snoc (r := ⟨name, w2.heap.size, .slice none 0 0, []⟩) HF.out]; unfold upd; rw [if_pos rfl]] at hlk
      have HLK := Aside0.mk (hlk w8.drew (below_drew (Below.refl _ _)))
      have hl8 : (Instr.lookup 62 (.map (some gm)) (.string name) false).run Tryd.prog w8 = .ok (.pointer (some ⟨w2.heap.size, 0, none⟩)) w8 := hlk w8 (Below.refl _ _)
      have hne := (H9.out.apart.2.2.1 w2.heap.size (mem_rows (List.mem_append_right _ (List.mem_singleton.2 rfl)) List.mem_cons_self))
      have HE10 := Aside0.mk ((Below.heap_setCell w10 ⟨w2.heap.size, 1, none⟩ (.slice A10 vs.length c10) gl (fun e => hne.1 e.symm)).symm.trans H10.out.list)
      have hl10 := (H10.out.map.keep (Below.heap_setCell w10 ⟨w2.heap.size, 1, none⟩ (.slice A10 vs.length c10) gm (fun e => hne.2.1 e.symm)).symm).look1 Tryd.underlying50 Tryd.underlying62 (zeroPtr w10) name hsz
      rw [show find (rows ++ [⟨name, w2.heap.size, .slice A10 vs.length c10, vs⟩]) name = some w2.heap.size by rw [find_snoc (r := ⟨name, w2.heap.size, .slice A10 vs.length c10, vs⟩) HF.out]; unfold upd; rw [if_pos rfl]] at hl10
      have HL10 := Aside0.mk hl10
      clear hr10 h10 ho10 hg10 hlk HR8 hne hl10
      go_wp2_with fail
      refine start_ (n := 20) (S := fun w' => w'.cell? ⟨gl, 0, none⟩ = some (.map (some gm)) ∧ (Instr.lookup 62 (.map (some gm)) (.string name) false).run Tryd.prog w' = .ok (.pointer (some ⟨w2.heap.size, 0, none⟩)) w' ∧ w'.cell? ⟨w2.heap.size, 1, none⟩ = some (.slice none 0 0)) (ds := [19]) #[false, false, false, false, false, false, false, false, false, false, false, false, false, false, false, false, false, false, false, false] (by kernel_rfl) rfl rfl ⟨q0, HLK.out, q1⟩ (fun hHeld => ?_)
      refine pure_ (i := 0) (N := some 62) (v := ?_) (a' := ?_) #[true, false, false, false, false, false, false, false, false, false, false, false, false, false, false, false, false, false, false, false] rfl rfl (by kernel_rfl) (fun _ _ _ h => h) (Or.inl ⟨by rfl, ?_⟩) ?_ ?_
      rotate_left
      · intro w'
        go_simp
        with_reducible rfl
      rotate_left
      · simp only [Act.put, List.setIfInBounds_toArray, List.set_cons_zero, List.set_cons_succ, i64_w, i32_w]
        rfl
      refine pure_ (i := 1) (N := some 63) (v := ?_) (a' := ?_) #[true, true, false, false, false, false, false, false, false, false, false, false, false, false, false, false, false, false, false, false] rfl rfl (by kernel_rfl) (fun _ _ _ h => h) (Or.inl ⟨by rfl, ?_⟩) ?_ ?_
      rotate_left
      · intro w'
        go_simp
        with_reducible rfl
      rotate_left
      · simp only [Act.put, List.setIfInBounds_toArray, List.set_cons_zero, List.set_cons_succ, i64_w, i32_w]
        rfl
      refine pure_ (i := 2) (N := some 64) (v := ?_) (a' := ?_) #[true, true, true, false, false, false, false, false, false, false, false, false, false, false, false, false, false, false, false, false] rfl rfl (by kernel_rfl) (fun _ _ _ h => h) (Or.inl ⟨by rfl, ?_⟩) ?_ ?_
      rotate_left
      · intro w'
        go_simp
        with_reducible rfl
      rotate_left
      · simp only [Act.put, List.setIfInBounds_toArray, List.set_cons_zero, List.set_cons_succ, i64_w, i32_w]
        rfl
      refine pure_ (i := 4) (N := some 66) (v := ?_) (a' := ?_) #[true, true, true, false, true, false, false, false, false, false, false, false, false, false, false, false, false, false, false, false] rfl rfl (by kernel_rfl) (fun _ _ _ h => h) (Or.inl ⟨by rfl, ?_⟩) ?_ ?_
      rotate_left
      · intro w'
        go_simp
        with_reducible rfl
      rotate_left
      · simp only [Act.put, List.setIfInBounds_toArray, List.set_cons_zero, List.set_cons_succ, i64_w, i32_w]
        rfl
      refine pure_ (i := 6) (N := some 68) (v := ?_) (a' := ?_) #[true, true, true, false, true, false, true, false, false, false, false, false, false, false, false, false, false, false, false, false] rfl rfl (by kernel_rfl) (fun _ _ _ h => h) (Or.inl ⟨by rfl, ?_⟩) ?_ ?_
      rotate_left
      · intro w'
        go_simp
        with_reducible rfl
      rotate_left
      · simp only [Act.put, List.setIfInBounds_toArray, List.set_cons_zero, List.set_cons_succ, i64_w, i32_w]
        rfl
      refine pure_ (i := 7) (N := some 69) (v := ?_) (a' := ?_) #[true, true, true, false, true, false, true, true, false, false, false, false, false, false, false, false, false, false, false, false] rfl rfl (by kernel_rfl) (fun _ _ _ h => h) (Or.inl ⟨by rfl, ?_⟩) ?_ ?_
      rotate_left
      · intro w'
        go_simp
        with_reducible rfl
      rotate_left
      · simp only [Act.put, List.setIfInBounds_toArray, List.set_cons_zero, List.set_cons_succ, i64_w, i32_w]
        rfl
      refine pure_ (i := 8) (N := some 70) (v := ?_) (a' := ?_) #[true, true, true, false, true, false, true, true, true, false, false, false, false, false, false, false, false, false, false, false] rfl rfl (by kernel_rfl) (fun _ _ _ h => h) (Or.inl ⟨by rfl, ?_⟩) ?_ ?_
      rotate_left
      · intro w'
        go_simp
        with_reducible rfl
      rotate_left
      · simp only [Act.put, List.setIfInBounds_toArray, List.set_cons_zero, List.set_cons_succ, i64_w, i32_w]
        rfl
      refine pure_ (i := 10) (N := some 72) (v := ?_) (a' := ?_) #[true, true, true, false, true, false, true, true, true, false, true, false, false, false, false, false, false, false, false, false] rfl rfl (by kernel_rfl) (fun _ _ _ h => h) (Or.inl ⟨by rfl, ?_⟩) ?_ ?_
      rotate_left
      · intro w'
        go_simp
        with_reducible rfl
      rotate_left
      · simp only [Act.put, List.setIfInBounds_toArray, List.set_cons_zero, List.set_cons_succ, i64_w, i32_w]
        rfl
      refine pure_ (i := 15) (N := some 77) (v := ?_) (a' := ?_) #[true, true, true, false, true, false, true, true, true, false, true, false, false, false, false, true, false, false, false, false] rfl rfl (by kernel_rfl) (fun _ _ _ h => h) (Or.inl ⟨by rfl, ?_⟩) ?_ ?_
      rotate_left
      · intro w'
        go_simp
        with_reducible rfl
      rotate_left
      · simp only [Act.put, List.setIfInBounds_toArray, List.set_cons_zero, List.set_cons_succ, i64_w, i32_w]
        rfl
      refine take_ (i := 3) (N := some 65) (v := ?_) (a' := ?_) #[true, true, true, true, true, false, true, true, true, false, true, false, false, false, false, true, false, false, false, false] rfl rfl (by kernel_rfl) (fun _ _ _ h => h) (Or.inl ⟨by rfl, ?_⟩) hHeld ?_ ?_
      rotate_left
      · rintro w' ⟨s0, s1, s2⟩
        go_simp
        with_reducible rfl
      rotate_left
      · simp only [Act.put, List.setIfInBounds_toArray, List.set_cons_zero, List.set_cons_succ, i64_w, i32_w]
        rfl
      refine take_ (i := 5) (N := some 67) (v := ?_) (a' := ?_) #[true, true, true, true, true, true, true, true, true, false, true, false, false, false, false, true, false, false, false, false] rfl rfl (by kernel_rfl) (fun _ _ _ h => h) (Or.inl ⟨by rfl, ?_⟩) hHeld ?_ ?_
      rotate_left
      · rintro w' ⟨s0, s1, s2⟩
        go_simp
        with_reducible rfl
      rotate_left
      · simp only [Act.put, List.setIfInBounds_toArray, List.set_cons_zero, List.set_cons_succ, i64_w, i32_w]
        rfl
      refine take_ (i := 9) (N := some 71) (v := ?_) (a' := ?_) #[true, true, true, true, true, true, true, true, true, true, true, false, false, false, false, true, false, false, false, false] rfl rfl (by kernel_rfl) (fun _ _ _ h => h) (Or.inl ⟨by rfl, ?_⟩) hHeld ?_ ?_
      rotate_left
      · rintro w' ⟨s0, s1, s2⟩
        go_simp
        with_reducible rfl
      rotate_left
      · simp only [Act.put, List.setIfInBounds_toArray, List.set_cons_zero, List.set_cons_succ, i64_w, i32_w]
        rfl
      refine take_ (i := 11) (N := some 73) (v := ?_) (a' := ?_) #[true, true, true, true, true, true, true, true, true, true, true, true, false, false, false, true, false, false, false, false] rfl rfl (by kernel_rfl) (fun _ _ _ h => h) (Or.inl ⟨by rfl, ?_⟩) hHeld ?_ ?_
      rotate_left
      · rintro w' ⟨s0, s1, s2⟩
        go_simp
        with_reducible rfl
      rotate_left
      · simp only [Act.put, List.setIfInBounds_toArray, List.set_cons_zero, List.set_cons_succ, i64_w, i32_w]
        rfl
      refine pure_ (i := 12) (N := some 74) (v := ?_) (a' := ?_) #[true, true, true, true, true, true, true, true, true, true, true, true, true, false, false, true, false, false, false, false] rfl rfl (by kernel_rfl) (fun _ _ _ h => h) (Or.inl ⟨by rfl, ?_⟩) ?_ ?_
      rotate_left
      · intro w'
        go_simp
        with_reducible rfl
      rotate_left
      · simp only [Act.put, List.setIfInBounds_toArray, List.set_cons_zero, List.set_cons_succ, i64_w, i32_w]
        rfl
      refine pure_ (i := 13) (N := some 75) (v := ?_) (a' := ?_) #[true, true, true, true, true, true, true, true, true, true, true, true, true, true, false, true, false, false, false, false] rfl rfl (by kernel_rfl) (fun _ _ _ h => h) (Or.inl ⟨by rfl, ?_⟩) ?_ ?_
      rotate_left
      · intro w'
        go_simp
        with_reducible rfl
      rotate_left
      · simp only [Act.put, List.setIfInBounds_toArray, List.set_cons_zero, List.set_cons_succ, i64_w, i32_w]
        rfl
      refine take_ (i := 14) (N := some 76) (v := ?_) (a' := ?_) #[true, true, true, true, true, true, true, true, true, true, true, true, true, true, true, true, false, false, false, false] rfl rfl (by kernel_rfl) (fun _ _ _ h => h) (Or.inl ⟨by rfl, ?_⟩) hHeld ?_ ?_
      rotate_left
      · rintro w' ⟨s0, s1, s2⟩
        go_simp
        with_reducible rfl
      rotate_left
      · simp only [Act.put, List.setIfInBounds_toArray, List.set_cons_zero, List.set_cons_succ, i64_w, i32_w]
        rfl
      refine one_ (i := 16) (N := some 78) #[true, true, true, true, true, true, true, true, true, true, true, true, true, true, true, true, true, false, false, false] rfl rfl (by kernel_rfl) (by decide) (fun K hK => ?_)
      refine step_append_run (by rfl) (.tmp 76) (.tmp 77) 28 rfl _ _ rfl rfl HR10.out ?_
      refine hK.out _ _ ⟨(blk_cell HE10.out 0).trans rfl, HL10.out, hc10⟩ (fun hHeld => ?_)
      clear hK K
      refine norm_ (a' := ?_) ?_ ?_
      rotate_left
      · show Act.put _ (some 78) _ = _
        simp only [Act.put, List.setIfInBounds_toArray, List.set_cons_zero, List.set_cons_succ, i64_w, i32_w]
        rfl
      refine pure_ (i := 17) (N := some 79) (v := ?_) (a' := ?_) #[true, true, true, true, true, true, true, true, true, true, true, true, true, true, true, true, true, true, false, false] rfl rfl (by kernel_rfl) (fun _ _ _ h => h) (Or.inl ⟨by rfl, ?_⟩) ?_ ?_
      rotate_left
      · intro w'
        go_simp
        with_reducible rfl
      rotate_left
      · simp only [Act.put, List.setIfInBounds_toArray, List.set_cons_zero, List.set_cons_succ, i64_w, i32_w]
        rfl
      refine pure_ (i := 18) (N := some 80) (v := ?_) (a' := ?_) #[true, true, true, true, true, true, true, true, true, true, true, true, true, true, true, true, true, true, true, false] rfl rfl (by kernel_rfl) (fun _ _ _ h => h) (Or.inl ⟨by rfl, ?_⟩) ?_ ?_
      rotate_left
      · intro w'
        go_simp
        with_reducible rfl
      rotate_left
      · simp only [Act.put, List.setIfInBounds_toArray, List.set_cons_zero, List.set_cons_succ, i64_w, i32_w]
        rfl
      refine last_ (i := 19) (N := none) #[true, true, true, true, true, true, true, true, true, true, true, true, true, true, true, true, true, true, true, true] rfl rfl (by kernel_rfl) (by decide) (fun K hK => ?_)
      refine skip_ (w1 := ?_) (by rfl) rfl ?_ ?_
      rotate_left
      · go_simp
        rfl
      refine hK.out _ _ ?_
      clear hK K
      refine done_ (by kernel_rfl) ?_

      go_wp2_with fail
      go_ret
      refine ⟨rfl, .slice A6 (rows.length + 1) c6, w2.heap.size, .slice A10 vs.length c10, ⟨?_, fun k hk => ?_⟩, (below_drew HB9.out).trans ((off_below HO10.out (by have := HB9.out.size; have := HBW.out; show base ≤ w8.heap.size; omega) (fun k hk => ?_))), off_trans2 (HOF6.out.then_ HB8.out).drew HO10.out (fun k hk h => (HGE6.out k h).resolve_right (by omega)), fun k hk => (HG10.out k hk).elim (HGE6.out k) (fun h => .inr (Nat.le_trans HB9.out.size h))⟩
      · rw [List.map_append]
        exact H10.out
      · rcases HG10.out k hk with h | h
        · rcases HGE6.out k h with h | h
          · exact HGE.out k h
          · exact Nat.le_trans HBW.out h
        · exact Nat.le_trans (Nat.le_trans HBW.out HB9.out.size) h
      · rcases HGE6.out k hk with h | h
        · exact HGE.out k h
        · exact Nat.le_trans HBW.out h
end
section
open Go.RowKit Go.Proofs.YtdobblddnfalcaaDoorW.PrintWords Go.Proofs.YtdobblddnfalcaaDoorW.PrintLast Go.Proofs.YtdobblddnfalcaaDoorW.PrintMore Go.Proofs.YtdobblddnfalcaaDoor.off Go.Proofs.YtdobblddnfalcaaDoor.mapq Go.Proofs.YtdobblddnfalcaaDoor.PFnCapsWritten
set_option linter.unusedVariables false
set_option linter.unusedSimpArgs false
set_option maxHeartbeats 2000000
set_option maxRecDepth 100000
theorem kstr_src {w : World} {A : Option Addr} {xs : List ByteArray} (h : Kd.string.C w A xs.length xs) : Src w A xs.length (strs xs) :=
  ⟨strs_len xs, fun j u hj => by
    have hlt : j < xs.length := by
      have := (List.getElem?_eq_some_iff.1 hj).1
      rwa [strs_len] at this
    obtain ⟨ad, c, e, _, hK, hc0⟩ := Kd.C_get h ByteArray.empty (j : Int) (by omega) (by omega)
    have hc : c = [.string (xs.getD (j : Int).toNat ByteArray.empty)] := hK
    have := hc0 0 _ (by rw [hc]; rfl)
    rw [strs_get xs j hlt] at hj
    injection hj with hj
    refine ⟨ad, e, ?_⟩
    rw [← hj]
    have e1 : xs.getD (j : Int).toNat ByteArray.empty = xs[j] := by rw [Int.toNat_natCast, List.getD_eq_getElem?_getD, List.getElem?_eq_getElem hlt]; rfl
    rw [e1, show (j : Int).toNat * Kd.string.sz + 0 = j from by show (j : Int).toNat * 1 + 0 = j; omega] at this
    exact this, str_one xs⟩
/-- One text more behind texts of one's own. -/
theorem push_str {base : Nat} {W : World} {v : Value} {xs : List ByteArray} (h : Slc W v (strs xs)) (hr : ∀ k, v.ownBlock = some k → base ≤ k) (hbase : base ≤ W.heap.size) (x : ByteArray) (hl : xs.length ≤ 100000000) :
    ∃ A1 c1 w2, (Builtin.append_ #[28, 28] 28 #[v, .slice (some ⟨W.heap.size, 0, none⟩) 1 1]).run Tryd.prog (W.alloc (.cells #[.string x] 9 (0, 0))) = .ok (.slice A1 (xs.length + 1) c1) w2 ∧
      Slc w2 (.slice A1 (xs.length + 1) c1) (strs (xs ++ [x])) ∧ (∀ k, (Value.slice A1 (xs.length + 1) c1).ownBlock = some k → base ≤ k) ∧ Below base W w2 := by
  have hal : Below W.heap.size W (W.alloc (.cells #[.string x] 9 (0, 0))) := below_alloc (Below.refl _ _) _
  have hs1 := h.keep hal.size (fun k hk => hal.block k (h.blk k hk))
  obtain ⟨v1, w2, hrun, hsl, hof, hfr⟩ := appendStr (c := 1) 28 hs1 (new_src W (.string x) 9 rfl) (by rw [strs_len]; omega)
  obtain ⟨A1, c1, hv1, hc1⟩ := Slc_shape hsl
  rw [List.length_append, strs_len, List.length_singleton] at hv1
  subst hv1
  have hs : (W.alloc (.cells #[.string x] 9 (0, 0))).heap.size = W.heap.size + 1 := by simp
  refine ⟨A1, c1, w2, hrun, by rw [strs, List.map_append]; exact hsl, fun k hk => ?_, ?_⟩
  · rcases hfr with hfr | ⟨q, hq, hlt⟩
    · exact hr k (by rw [← hfr]; exact hk)
    · rw [hq] at hk; cases hk; omega
  · have hb0 : Below base W (W.alloc (.cells #[.string x] 9 (0, 0))) := ⟨hal.os, hal.tape, hal.output, hal.size, fun k hk => hal.block k (by omega)⟩
    exact hb0.trans (hof.below (base := base) (by omega) (fun k hk => hr k hk))
def itemsOf (rows : List Row) : List ByteArray := rows.flatMap fun r => items r.name r.vs
/-- What is asked of a list's capabilities, for its text. -/
structure RowOk (r : Row) : Prop where
  name : r.name.size ≤ 1000
  vals : ∀ s ∈ r.vs, s.size ≤ 1000
  most : r.vs.length ≤ 1000
theorem items_len (c : ByteArray) (vs : List ByteArray) (h : vs.length ≤ 1000) : (items c vs).length ≤ 1000 := by
  unfold items
  split
  · simp
  · simpa using h
theorem itemsOf_len : ∀ (rows : List Row), (∀ r ∈ rows, RowOk r) → (itemsOf rows).length ≤ rows.length * 1000
  | [], _ => by simp [itemsOf]
  | r :: t, h => by
    have h1 := itemsOf_len t (fun q hq => h q (List.mem_cons_of_mem _ hq))
    have h2 := items_len r.name r.vs (h r List.mem_cons_self).most
    unfold itemsOf at h1 ⊢
    rw [List.flatMap_cons, List.length_append, List.length_cons]
    omega
theorem take_items (rows : List Row) (j : Nat) (hj : j < rows.length) : itemsOf (rows.take (j + 1)) = itemsOf (rows.take j) ++ items rows[j].name rows[j].vs := by
  unfold itemsOf
  rw [List.take_succ_eq_append_getElem hj, List.flatMap_append]
  simp
theorem name_mem {rows : List Row} {r : Row} (hr : r ∈ rows) (hnd : (rows.map (·.name)).Nodup) : find rows r.name = some r.ge := by
  unfold find
  induction rows with
  | nil => cases hr
  | cons q t ih =>
    rw [List.map_cons, List.nodup_cons] at hnd
    rw [List.find?_cons]
    rcases List.mem_cons.1 hr with rfl | hr
    · rw [name_eq.2 rfl]; rfl
    · have hne : (q.name.data.toList == r.name.data.toList) = false := by
        rw [← Bool.not_eq_true]
        intro h
        exact hnd.1 (by rw [name_eq.1 h]; exact List.mem_map.2 ⟨r, hr, rfl⟩)
      rw [hne]
      exact ih hr hnd.2
theorem listString_any (w : World) (gl gm : Nat) (sv : Value) (rows : List Row) (h : CapS w gl gm sv (rows.map (·.name)) rows) (hnd : (rows.map (·.name)).Nodup) (hok : ∀ r ∈ rows, RowOk r) (hn : rows.length ≤ 1000)
    (hJ : ∀ W A c, Below w.heap.size w W → Slc W (.slice A (itemsOf rows).length c) (strs (itemsOf rows)) → Calls Tryd.prog 32 #[.slice A (itemsOf rows).length c, .string ⟨#[32]⟩] W fun e w' => e = .returned (.string (joinB (itemsOf rows))) ∧ Below W.heap.size W w') :
    Calls Tryd.prog 17 #[.pointer (some ⟨gl, 0, none⟩)] w fun e w' => e = .returned (.string (joinB (itemsOf rows))) ∧ Below w.heap.size w w' := by
  obtain ⟨As, cs, hsv, _⟩ := Slc_shape h.sort
  rw [strs_len, List.length_map] at hsv
  subst hsv
  have HS := Aside0.mk h
  have HND := Aside0.mk hnd
  have HOK := Aside0.mk hok
  have HJ := Aside0.mk hJ
  have q1 := (blk_cell h.list 1).trans (show _ = some (Value.slice As rows.length cs) from rfl)
  clear h hnd hok hJ
  go_enter Tryd.func17, Tryd.ntmps17
  go_wp2_with fail
  go_loopg [3, 14] (rows.length + 1) (fun kq v3 v14 w' => ∃ (j : Nat) (ov : Value), ov = v3 ∧ v14 = .int .i64 (j : Int) ∧ j ≤ rows.length ∧ Aside0 (kq + j = rows.length + 1) ∧ Aside0 (Slc w' ov (strs (itemsOf (rows.take j)))) ∧ Aside0 (∀ k, ov.ownBlock = some k → w.heap.size ≤ k) ∧ Aside0 (Below w.heap.size w w'))
  case atStart => exact ⟨0, _, rfl, rfl, Nat.zero_le _, ⟨by omega⟩, ⟨.inl ⟨rfl, rfl⟩⟩, ⟨fun k hk => by cases hk⟩, ⟨Below.refl _ _⟩⟩
  case round =>
    clear q1
    obtain ⟨j, ov, hov, rfl, hj, HK, HO, HP, HB⟩ := hrel
    subst hov
    cases gk with
    | zero => exact absurd HK.out (by omega)
    | succ k1 =>
      obtain ⟨wo, hwo⟩ : ∃ wo : World, wo = wr := ⟨_, rfl⟩
      subst hwo
      by_cases hlt : j < rows.length
      · have p1 : 0 ≤ (j : Int) := by omega
        have q1 : (j : Int) < (rows.length : Int) := by omega
        have c0 : decide ((j : Int) < (rows.length : Int)) = true := decide_eq_true q1
        have c1 : decide (j < rows.length) = true := decide_eq_true hlt
        have w1 : wrap64 ((j : Int) + 1) = (j : Int) + 1 := off.w64 (by omega) (by omega)
        have HSr := Aside0.mk (HS.out.below HB.out)
        obtain ⟨ad, rfl, hc⟩ := (slc_src HSr.out.sort).rd j _ (strs_get _ j (by rw [List.length_map]; exact hlt))
        rw [List.getElem_map] at hc
        have HTI := Aside0.mk (take_items rows j hlt)
        have HLN := Aside0.mk (itemsOf_len (rows.take j) (fun r hr => HOK.out r (List.mem_of_mem_take hr)))
        have hmem := List.getElem_mem hlt
        have hro := HOK.out _ hmem
        have hRA := HSr.out.row _ hmem
        have hRW := HS.out.row _ hmem
        have hfd := name_mem hmem HND.out
        obtain ⟨r, hr⟩ : ∃ r, rows[j] = r := ⟨_, rfl⟩
        rw [hr] at hc HTI hro hRA hfd hRW
        obtain ⟨nm, ge, rv, vs⟩ := r
        obtain ⟨Av, cv, hrv, _⟩ := Slc_shape hRA.slc
        rw [strs_len] at hrv
        simp only at hrv
        subst hrv
        have q0 := (blk_cell HSr.out.list 0).trans (show _ = some (Value.map (some gm)) from rfl)
        have hl8 : (Instr.lookup 62 (.map (some gm)) (.string nm) false).run Tryd.prog wo = .ok (.pointer (some ⟨ge, 0, none⟩)) wo := by
          have := HSr.out.map.look1 Tryd.underlying50 Tryd.underlying62 (zeroPtr wo) nm (Nat.le_trans hro.name (by decide))
          rw [hfd] at this
          exact this
        have q2 := (blk_cell hRA.cells 1).trans (show _ = some (Value.slice Av vs.length cv) from rfl)
        have HRO := Aside0.mk hro
        have HRW := Aside0.mk hRW
        clear hr hmem hro hRA hfd hRW
        by_cases hv : vs.length = 0
        · obtain rfl : vs = [] := List.eq_nil_of_length_eq_zero hv
          have d0 : (((0 : Nat) : Int) == 0) = true := rfl
          obtain ⟨A4, c4, w4, hr4, hs4, ho4, hb4⟩ := push_str HO.out HP.out HB.out.size nm (by have := HLN.out; rw [List.length_take] at this; omega)
          have HR4 := Aside0.mk hr4
          have HS4 := Aside0.mk hs4
          have HP4 := Aside0.mk ho4
          have HB4 := Aside0.mk (HB.out.trans hb4)
          clear hr4 hs4 ho4 hb4 hv
          go_wp2_with (first | ((with_reducible refine gate_builtin (b := .append) (xs := #[.tmp 30, .tmp 32]) rfl ?_); at_builtin; go_must (refine wpList_append_run rfl (.tmp 30) (.tmp 32) 28 rfl _ _ rfl rfl HR4.out ?_)) | fail)
          go_roundg k1
          case measure => have := HK.out; omega
          case rel => exact ⟨j + 1, _, rfl, by go_num, hlt, ⟨by have := HK.out; omega⟩, ⟨by rw [HTI.out]; exact HS4.out⟩, HP4, HB4⟩
        · have d0 : ((vs.length : Int) == 0) = false := beq_eq_false_iff_ne.2 (by omega)
          have d1 : (vs.length == 0) = false := beq_eq_false_iff_ne.2 hv
          have HIT := Aside0.mk (show items nm vs = vs.map fun v => (nm ++ (⟨#[61]⟩ : ByteArray)) ++ v by unfold items; rw [if_neg (fun e => hv (by rw [e]; rfl))])
          have HO0 := Aside0.mk HO.out
          clear hv
          go_wp2_with fail
          clear q0 hl8 q2 hc
          go_loopg [3, 39] (vs.length + 1) (fun kq v3 v39 w' => ∃ (i : Nat) (ov : Value), ov = v3 ∧ v39 = .int .i64 (i : Int) ∧ i ≤ vs.length ∧ Aside0 (kq + i = vs.length + 1) ∧ Aside0 (Slc w' ov (strs (itemsOf (rows.take j) ++ (items nm vs).take i))) ∧ Aside0 (∀ k, ov.ownBlock = some k → w.heap.size ≤ k) ∧ Aside0 (Below w.heap.size w w'))
          case atStart => exact ⟨0, _, rfl, rfl, Nat.zero_le _, ⟨by omega⟩, ⟨by simpa using HO.out⟩, HP, HB⟩
          case round =>
            clear HO HP HO0 d0 d1 HSr
            obtain ⟨i, ov2, hov2, rfl, hi, HKi, HO, HP, HBw⟩ := hrel
            subst hov2
            cases gk with
            | zero => exact absurd HKi.out (by omega)
            | succ k2 =>
              by_cases hli : i < vs.length
              · have p2 : 0 ≤ (i : Int) := by omega
                have q2 : (i : Int) < (vs.length : Int) := by omega
                have d0 : decide ((i : Int) < (vs.length : Int)) = true := decide_eq_true q2
                have d1 : decide (i < vs.length) = true := decide_eq_true hli
                have w2 : wrap64 ((i : Int) + 1) = (i : Int) + 1 := off.w64 (by omega) (by have := HRO.out.most; simp only at this; omega)
                obtain ⟨av, rfl, hc2⟩ := (Src.below (slc_src HRW.out.slc) HBw.out).rd i _ (strs_get vs i hli)
                have hvs := HRO.out.vals _ (List.getElem_mem hli)
                have HTI2 := Aside0.mk (show (items nm vs).take (i + 1) = (items nm vs).take i ++ [(nm ++ (⟨#[61]⟩ : ByteArray)) ++ vs[i]] by
                  rw [HIT.out, ← List.map_take, ← List.map_take, List.take_succ_eq_append_getElem hli, List.map_append]
                  rfl)
                obtain ⟨x, hx⟩ : ∃ x, vs[i] = x := ⟨_, rfl⟩
                rw [hx] at hc2 HTI2 hvs
                have hnm : nm.size ≤ 1000 := HRO.out.name
                have s1 : (nm.size : Int) ≤ 1000 := by omega
                have s2 : (x.size : Int) ≤ 1000 := by omega
                obtain ⟨ys, hys⟩ : ∃ ys, itemsOf (rows.take j) ++ (items nm vs).take i = ys := ⟨_, rfl⟩
                have hyl : ys.length ≤ 10000000 := by
                  have := HLN.out
                  have := HRO.out.most
                  simp only at this
                  rw [← hys, List.length_append, HIT.out, List.length_take, List.length_map]
                  rw [List.length_take] at *
                  omega
                rw [hys] at HO
                have HTI3 := Aside0.mk (show itemsOf (rows.take j) ++ (items nm vs).take (i + 1) = ys ++ [(nm ++ (⟨#[61]⟩ : ByteArray)) ++ x] by rw [HTI2.out, ← List.append_assoc, hys])
                clear hys
                obtain ⟨A4, c4, w4, hr4, hs4, ho4, hb4⟩ := push_str HO.out HP.out HBw.out.size ((nm ++ (⟨#[61]⟩ : ByteArray)) ++ x) (by omega)
                have HR4 := Aside0.mk hr4
                have HS4 := Aside0.mk hs4
                have HP4 := Aside0.mk ho4
                have HB5 := Aside0.mk (HBw.out.trans hb4)
                clear hr4 hs4 ho4 hb4 hx
                go_wp2_with (first | ((with_reducible refine gate_builtin (b := .append) (xs := #[.tmp 43, .tmp 48]) rfl ?_); at_builtin; go_must (refine wpList_append_run rfl (.tmp 43) (.tmp 48) 28 rfl _ _ rfl rfl HR4.out ?_)) | fail)
                go_roundg k2
                case measure => have := HKi.out; omega
                case rel => exact ⟨i + 1, _, rfl, by go_num, hli, ⟨by have := HKi.out; omega⟩, ⟨by rw [HTI3.out]; exact HS4.out⟩, HP4, HB5⟩
              · have d0 : decide ((i : Int) < (vs.length : Int)) = false := decide_eq_false (by omega)
                have d1 : decide (i < vs.length) = false := decide_eq_false hli
                have HTA := Aside0.mk (show (items nm vs).take i = items nm vs from List.take_of_length_le (by rw [HIT.out, List.length_map]; omega))
                rw [HTA.out, ← HTI.out] at HO
                go_wp2_with fail
                go_roundg k1
                case measure => have := HK.out; omega
                case rel => exact ⟨j + 1, _, rfl, by go_num, hlt, ⟨by have := HK.out; omega⟩, HO, HP, HBw⟩
      · have c0 : decide ((j : Int) < (rows.length : Int)) = false := decide_eq_false (by omega)
        have c1 : decide (j < rows.length) = false := decide_eq_false hlt
        have HT := Aside0.mk (show rows.take j = rows from List.take_of_length_le (by omega))
        rw [HT.out] at HO
        obtain ⟨Ao, co, hov, _⟩ := Slc_shape HO.out
        rw [strs_len] at hov
        subst hov
        have HJ2 := Aside0.mk (HJ.out _ _ _ HB.out HO.out)
        go_wp2_with fail
        refine HJ2.out.mono ?_
        rintro e w2 ⟨rfl, hb⟩
        have HB2 := Aside0.mk (below_step HB.out hb)
        clear hb
        go_wp2_with fail
        go_ret
        exact ⟨rfl, HB2.out⟩
end
end Go.Proofs.YtdobblddnfalcaaDoor.cap
