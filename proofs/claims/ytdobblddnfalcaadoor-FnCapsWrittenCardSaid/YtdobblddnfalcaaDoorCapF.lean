/- Capabilities: impl.capList, impl.CapsText. -/
import Derived.Test.YtdobblddnfalcaaDoorCapE
namespace Go.Proofs.YtdobblddnfalcaaDoor.cap
open Go.RowKit Go.Proofs.YtdobblddnfalcaaDoorW.PrintWords Go.Proofs.YtdobblddnfalcaaDoorW.PrintLast Go.Proofs.YtdobblddnfalcaaDoorW.PrintMore Go.Proofs.YtdobblddnfalcaaDoor.off Go.Proofs.YtdobblddnfalcaaDoor.mapq Go.Proofs.YtdobblddnfalcaaDoor.PFnCapsWritten
set_option linter.unusedVariables false
set_option linter.unusedSimpArgs false
set_option maxHeartbeats 2000000
set_option maxRecDepth 100000
def sig (rows : List Row) : List (ByteArray × List ByteArray) := rows.map fun r => (r.name, r.vs)
def pairs (l : List S30) : List (ByteArray × List ByteArray) := l.map fun x => (x.f0, x.f1)
theorem rd_list (l : List S30) (j : Nat) (hj : j < l.length) : rd_T30 l (j : Int) = l[j] := by
  unfold rd_T30
  rw [Int.toNat_natCast, List.getD_eq_getElem?_getD, List.getElem?_eq_getElem hj]
  rfl
theorem find_none {rows : List Row} {s : ByteArray} (h : s ∉ rows.map (·.name)) : find rows s = none := by
  unfold find
  rw [Option.map_eq_none_iff, List.find?_eq_none]
  intro r hr he
  exact h (List.mem_map.2 ⟨r, hr, name_eq.1 he⟩)
theorem sig_names {rows : List Row} {l : List S30} (h : sig rows = pairs l) : rows.map (·.name) = l.map (·.f0) := by
  have := congrArg (fun q => q.map Prod.fst) h
  unfold sig pairs at this
  rw [List.map_map, List.map_map] at this
  exact this
theorem sig_len {rows : List Row} {l : List S30} (h : sig rows = pairs l) : rows.length = l.length := by
  have := congrArg List.length h
  unfold sig pairs at this
  rwa [List.length_map, List.length_map] at this
/-- An append to an empty slice of one's own. -/
theorem copy_strs {W : World} {A : Option Addr} {c : Nat} {vs : List ByteArray} (hsrc : Src W A vs.length (strs vs)) (hl : vs.length ≤ 1000000) :
    ∃ A1 c1 w2, (Builtin.append_ #[28, 28] 28 #[.slice (some ⟨W.heap.size, 0, none⟩) 0 0, .slice A vs.length c]).run Tryd.prog (W.alloc (.cells #[] 9 (0, 0))) = .ok (.slice A1 vs.length c1) w2 ∧
      Src w2 A1 vs.length (strs vs) ∧ (∀ ad, A1 = some ad → W.heap.size ≤ ad.block) ∧ Below W.heap.size W w2 := by
  have hal : Below W.heap.size W (W.alloc (.cells #[] 9 (0, 0))) := below_alloc (Below.refl _ _) _
  have hs0 : Slc (W.alloc (.cells #[] 9 (0, 0))) (.slice (some ⟨W.heap.size, 0, none⟩) 0 0) [] := .inr ⟨W.heap.size, 0, 0, 0, rfl, ⟨rfl, Nat.le_refl _, by decide, fun j u hj => by simp at hj, fun j hj => by omega, by simp, fun u hu => by simp at hu⟩⟩
  obtain ⟨v1, w2, hrun, hsl, hof, hfr⟩ := appendStr (c := c) 28 hs0 (Src.below hsrc hal) (by simp; omega)
  obtain ⟨A1, c1, hv1, hc1⟩ := Slc_shape hsl
  rw [List.nil_append, strs_len] at hv1
  rw [List.nil_append] at hsl
  subst hv1
  refine ⟨A1, c1, w2, hrun, slc_src hsl, fun ad e => ?_, hal.trans (hof.below (base := W.heap.size) hal.size (fun k hk => by cases hk; exact Nat.le_refl _))⟩
  subst e
  have ho : ∀ k, (Value.slice (some ad) vs.length c1).ownBlock = some k → W.heap.size ≤ k := fun k hk => by
    rcases hfr with hfr | ⟨q, hq, hlt⟩
    · rw [hfr] at hk; cases hk; exact Nat.le_refl _
    · rw [hq] at hk; cases hk; exact Nat.le_trans hal.size hlt
  rcases hsl with ⟨h, _⟩ | ⟨b, off, n, c', h, hm⟩
  · injection h with h1 h2 h3; cases h1
  · injection h with h1 h2 h3
    injection h1 with h1
    subst h1
    exact ho b rfl
theorem capList_any (w : World) (A : Option Addr) (cc : Nat) (l : List S30) (hC : Kd.C k30 w A l.length l) (hok : ∀ x ∈ l, ArgsOk x.f0 x.f1) (hnd : (l.map (·.f0)).Nodup) (hn : l.length ≤ 1000) :
    Calls Tryd.prog 16 #[.slice A l.length cc] w fun e w' => ∃ gl gm sv rows, e = .returned (.tuple #[.pointer (some ⟨gl, 0, none⟩), .bool true]) ∧ CapL w.heap.size w' gl gm sv rows ∧ sig rows = pairs l ∧ Below w.heap.size w w' := by
  have HC := Aside0.mk hC
  have HOK := Aside0.mk hok
  have HND := Aside0.mk hnd
  clear hC hok hnd
  go_enter Tryd.func16, Tryd.ntmps16
  go_wp2_with fail
  refine (newList_any _).mono ?_
  rintro e w1 ⟨gl, gm, rfl, hgl, hgm, hS, hb⟩
  have HL := Aside0.mk (show CapL w.heap.size w1 gl gm (.slice none 0 0) [] from ⟨hS, fun k hk => by
    simp [bl, own, Value.ownBlock] at hk
    rcases hk with rfl | rfl
    · exact hgl
    · exact hgm⟩)
  have HB1 := Aside0.mk hb
  clear hS hb hgl hgm
  go_wp2_with fail
  go_loopg [10] (l.length + 1) (fun kq v10 w' => ∃ (j : Nat) (sv : Value) (rows : List Row), v10 = .int .i64 (j : Int) ∧ j ≤ l.length ∧ Aside0 (kq + j = l.length + 1) ∧ Aside0 (CapL w.heap.size w' gl gm sv rows) ∧ Aside0 (sig rows = pairs (l.take j)) ∧ Aside0 (Below w.heap.size w w'))
  case atStart => exact ⟨0, _, [], rfl, Nat.zero_le _, ⟨by omega⟩, HL, ⟨rfl⟩, HB1⟩
  case round =>
    clear HL HB1
    obtain ⟨j, sv, rows, rfl, hj, HK, HL, HSG, HB⟩ := hrel
    cases gk with
    | zero => exact absurd HK.out (by omega)
    | succ k1 =>
      obtain ⟨wo, hwo⟩ : ∃ wo : World, wo = wr := ⟨_, rfl⟩
      subst hwo
      by_cases hlt : j < l.length
      · have p1 : 0 ≤ (j : Int) := by omega
        have q1 : (j : Int) < (l.length : Int) := by omega
        have c0 : decide ((j : Int) < (l.length : Int)) = true := decide_eq_true q1
        have c1 : decide (j < l.length) = true := decide_eq_true hlt
        have w1 : wrap64 ((j : Int) + 1) = (j : Int) + 1 := off.w64 (by omega) (by omega)
        obtain ⟨ad, A1, c1', e0, y0, y1, y2, y3⟩ := at_T30 (Kd.C_below HC.out HB.out) (j : Int) p1 q1
        subst e0
        rw [rd_list l j hlt] at y0 y1 y2 y3
        rw [Int.toNat_natCast] at y0 y1
        have HARG := Aside0.mk (HOK.out _ (List.getElem_mem hlt))
        have HTK := Aside0.mk (show pairs (l.take (j + 1)) = pairs (l.take j) ++ [(l[j].f0, l[j].f1)] by
          unfold pairs
          rw [List.take_succ_eq_append_getElem hlt, List.map_append]
          rfl)
        have HNEW := Aside0.mk (show find rows l[j].f0 = none from find_none (by
          rw [sig_names HSG.out]
          intro h
          obtain ⟨x, hx, he⟩ := List.mem_map.1 h
          obtain ⟨i, hi, hxi⟩ := List.getElem_of_mem hx
          rw [List.length_take] at hi
          rw [List.getElem_take] at hxi
          have hij : i = j := by
            have h1 : (l.map (·.f0))[i]'(by rw [List.length_map]; omega) = (l.map (·.f0))[j]'(by rw [List.length_map]; exact hlt) := by
              rw [List.getElem_map, List.getElem_map, hxi, he]
            exact (List.getElem_inj HND.out).1 h1
          omega))
        have HRL := Aside0.mk (show rows.length ≤ 1000 by rw [sig_len HSG.out, List.length_take]; omega)
        obtain ⟨x, hx⟩ : ∃ x, l[j] = x := ⟨_, rfl⟩
        rw [hx] at y0 y1 y2 y3 HARG HTK HNEW
        have HY := Aside0.mk (kstr_src y3)
        clear hx y3
        go_wp2_with (first | ((with_reducible refine gate_dst (N := 6) rfl ?_); refine box_event ?hg (N := 6) ?hd (cs := #[.string (⟨#[]⟩ : ByteArray), .slice none 0 0]) (t := 30) ?hr ?_; (case hd => rfl); (case hg => rfl); (case hr => first | (go_simp; done) | (go_simp; rfl)); intro gf hgf wa hbox hb; have BFa := Aside0.mk hbox; have HBa := Aside0.mk (show Below wo.heap.size wo wa from hb); have GF := Aside0.mk (show wo.heap.size ≤ gf by rw [hgf]; exact Nat.le_refl _); have z0 := (blk_cell hbox 0).trans (show _ = some (Value.string ⟨#[]⟩) from rfl); have z1 := (blk_cell hbox 1).trans (show _ = some (Value.slice none 0 0) from rfl); have f0 := blk_frozen hbox 0; have f1 := blk_frozen hbox 1; replace y0 := (hb.cell (World.block_lt_of_cell? wo _ y0)).trans y0; replace y1 := (hb.cell (World.block_lt_of_cell? wo _ y1)).trans y1; clear hbox hb hgf) | fail)
        have BF1 := Aside0.mk (blk_put (cs := #[.string x.f0, .slice none 0 0]) (blk_put (cs := #[.string (⟨#[]⟩ : ByteArray), .slice none 0 0]) BFa.out 0 (.string x.f0) rfl) 1 (.slice A1 x.f1.length c1') rfl)
        have HBe := Aside0.mk (below_set (j := 1) (v := .slice A1 x.f1.length c1') (below_set (j := 0) (v := .string x.f0) HBa.out GF.out) GF.out)
        generalize hW : World.setCell (World.setCell _ _ _) _ _ = W2
        have HBd := Aside0.mk (show Below wo.heap.size wo W2.drew by rw [← hW]; exact below_drew HBe.out)
        have BF2 := Aside0.mk (show W2.drew.heap[gf]? = some (.cells #[.string x.f0, .slice A1 x.f1.length c1'] 30 (0, 0)) by rw [← hW]; exact BF1.out)
        obtain ⟨A4, c4, w4, hr4, hs4, ho4, hb4⟩ := copy_strs (W := W2.drew) (c := c1') (Src.below HY.out HBd.out) (by have := HARG.out.most; omega)
        have HR4 := Aside0.mk hr4
        have BF4 := Aside0.mk ((hb4.block gf (blk_lt BF2.out)).trans BF2.out)
        have HB4 := Aside0.mk (HBd.out.trans (hb4.mono HBd.out.size))
        have HL4 := Aside0.mk (HL.out.below HB4.out)
        have HADD := Aside0.mk (add_new w.heap.size w4 gl gm sv rows HL4.out (Nat.le_trans HB.out.size HB4.out.size) x.f0 A4 c4 x.f1 HARG.out hs4 (fun ad he hk => by
          have h1 := ho4 ad he
          have h2 := HL.out.s.lt _ hk
          have h3 : wo.heap.size ≤ W2.drew.heap.size := HBd.out.size
          omega) HNEW.out HRL.out)
        clear hW y0 y1 BF1 HBe BFa HBa z0 z1 f0 f1 hr4 hs4 ho4 hb4
        refine start_ (n := 9) (S := fun w' => w'.cell? ⟨gf, 0, none⟩ = some (.string x.f0) ∧ w'.cell? ⟨gf, 1, none⟩ = some (.slice A1 x.f1.length c1')) (ds := [7]) #[false, false, false, false, false, false, false, false, false] (by kernel_rfl) rfl rfl ⟨(blk_cell BF2.out 0).trans rfl, (blk_cell BF2.out 1).trans rfl⟩ (fun hHeld => ?_)
        refine pure_ (i := 0) (N := some 14) (v := ?_) (a' := ?_) #[true, false, false, false, false, false, false, false, false] rfl rfl (by kernel_rfl) (fun _ _ _ h => h) (Or.inl ⟨by rfl, ?_⟩) ?_ ?_
        rotate_left
        · intro w'
          go_simp
          with_reducible rfl
        rotate_left
        · simp only [Act.put, List.setIfInBounds_toArray, List.set_cons_zero, List.set_cons_succ, i64_w, i32_w]
          rfl
        refine pure_ (i := 1) (N := some 15) (v := ?_) (a' := ?_) #[true, true, false, false, false, false, false, false, false] rfl rfl (by kernel_rfl) (fun _ _ _ h => h) (Or.inl ⟨by rfl, ?_⟩) ?_ ?_
        rotate_left
        · intro w'
          go_simp
          with_reducible rfl
        rotate_left
        · simp only [Act.put, List.setIfInBounds_toArray, List.set_cons_zero, List.set_cons_succ, i64_w, i32_w]
          rfl
        refine pure_ (i := 4) (N := some 18) (v := ?_) (a' := ?_) #[true, true, false, false, true, false, false, false, false] rfl rfl (by kernel_rfl) (fun _ _ _ h => h) (Or.inl ⟨by rfl, ?_⟩) ?_ ?_
        rotate_left
        · intro w'
          go_simp
          with_reducible rfl
        rotate_left
        · simp only [Act.put, List.setIfInBounds_toArray, List.set_cons_zero, List.set_cons_succ, i64_w, i32_w]
          rfl
        refine take_ (i := 2) (N := some 16) (v := ?_) (a' := ?_) #[true, true, true, false, true, false, false, false, false] rfl rfl (by kernel_rfl) (fun _ _ _ h => h) (Or.inl ⟨by rfl, ?_⟩) hHeld ?_ ?_
        rotate_left
        · rintro w' ⟨s0, s1⟩
          go_simp
          with_reducible rfl
        rotate_left
        · simp only [Act.put, List.setIfInBounds_toArray, List.set_cons_zero, List.set_cons_succ, i64_w, i32_w]
          rfl
        refine take_ (i := 5) (N := some 19) (v := ?_) (a' := ?_) #[true, true, true, false, true, true, false, false, false] rfl rfl (by kernel_rfl) (fun _ _ _ h => h) (Or.inl ⟨by rfl, ?_⟩) hHeld ?_ ?_
        rotate_left
        · rintro w' ⟨s0, s1⟩
          go_simp
          with_reducible rfl
        rotate_left
        · simp only [Act.put, List.setIfInBounds_toArray, List.set_cons_zero, List.set_cons_succ, i64_w, i32_w]
          rfl
        refine one_ (i := 3) (N := some 17) #[true, true, true, true, true, true, false, false, false] rfl rfl (by kernel_rfl) (by decide) (fun K hK => ?_)
        refine value_ (w1 := ?_) (v := ?_) (by rfl) rfl ?_ ?_
        rotate_left 2
        · go_simp
          constructor
          · rfl
          · rfl
        refine hK.out _ _ ⟨(blk_cell (blk_alloc BF2.out _) 0).trans rfl, (blk_cell (blk_alloc BF2.out _) 1).trans rfl⟩ (fun hHeld => ?_)
        clear hK K
        refine norm_ (a' := ?_) ?_ ?_
        rotate_left
        · show Act.put _ (some 17) _ = _
          simp only [Act.put, List.setIfInBounds_toArray, List.set_cons_zero, List.set_cons_succ, i64_w, i32_w]
          rfl
        refine one_ (i := 6) (N := some 20) #[true, true, true, true, true, true, true, false, false] rfl rfl (by kernel_rfl) (by decide) (fun K hK => ?_)
        refine step_append_run (by rfl) (.tmp 17) (.tmp 19) 28 rfl _ _ rfl rfl HR4.out ?_
        refine hK.out _ _ ⟨(blk_cell BF4.out 0).trans rfl, (blk_cell BF4.out 1).trans rfl⟩ (fun hHeld => ?_)
        clear hK K
        refine norm_ (a' := ?_) ?_ ?_
        rotate_left
        · show Act.put _ (some 20) _ = _
          simp only [Act.put, List.setIfInBounds_toArray, List.set_cons_zero, List.set_cons_succ, i64_w, i32_w]
          rfl
        refine last_ (i := 7) (N := some 21) #[true, true, true, true, true, true, true, true, false] rfl rfl (by kernel_rfl) (by decide) (fun K hK => ?_)
        refine goes_ Tryd.func31 (by kernel_rfl) rfl #[.pointer (some ⟨gl, 0, none⟩), .string x.f0, .slice A4 x.f1.length c4] (by rfl) rfl rfl (by simp only [List.map_toArray, List.map_cons, List.map_nil]; rfl) ?_
        with_reducible refine (HADD.out).mono ?_
        rintro e w5 ⟨rfl, sv5, ge5, v5, hl5, hb5⟩
        refine ⟨_, rfl, ?_⟩
        refine hK.out _ _ ?_
        clear hK K
        refine norm_ (a' := ?_) ?_ ?_
        rotate_left
        · show Act.put _ (some 21) _ = _
          simp only [Act.put, List.setIfInBounds_toArray, List.set_cons_zero, List.set_cons_succ, i64_w, i32_w]
          rfl
        refine pure_ (i := 8) (N := some 22) (v := ?_) (a' := ?_) #[true, true, true, true, true, true, true, true, true] rfl rfl (by kernel_rfl) (fun _ _ _ h => h) (Or.inl ⟨by rfl, ?_⟩) ?_ ?_
        rotate_left
        · intro w'
          go_simp
          with_reducible rfl
        rotate_left
        · simp only [Act.put, List.setIfInBounds_toArray, List.set_cons_zero, List.set_cons_succ, i64_w, i32_w]
          rfl
        refine done_ (by kernel_rfl) ?_

        have HL5 := Aside0.mk hl5
        have HB5 := Aside0.mk (HB.out.trans ((HB4.out.mono HB.out.size).trans hb5))
        clear hl5 hb5 HADD HR4 hHeld
        go_wp2_with fail
        go_roundg k1
        case measure => have := HK.out; omega
        case rel => exact ⟨j + 1, sv5, _, by go_num, hlt, ⟨by have := HK.out; omega⟩, HL5, ⟨by rw [HTK.out, ← HSG.out]; unfold sig; rw [List.map_append]; rfl⟩, HB5⟩
      · have c0 : decide ((j : Int) < (l.length : Int)) = false := decide_eq_false (by omega)
        have c1 : decide (j < l.length) = false := decide_eq_false hlt
        have HT := Aside0.mk (show l.take j = l from List.take_of_length_le (by omega))
        rw [HT.out] at HSG
        go_wp2_with fail
        go_ret2
        exact ⟨gl, gm, sv, rows, rfl, HL.out, HSG.out, HB.out⟩
end Go.Proofs.YtdobblddnfalcaaDoor.cap
