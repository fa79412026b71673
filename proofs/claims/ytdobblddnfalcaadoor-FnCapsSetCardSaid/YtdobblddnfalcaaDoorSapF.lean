/- Capabilities: impl.capList, impl.CapsText. Capabilities: spec.CapsText; strings.Join of one's own texts; impl.CapsText. Capabilities: spec.CapsText, impl.CapsText. Capabilities: what the specification's words say of them, plain. Capabilities: impl.CapsText; the law FnCapsWritten. -/
import Derived.Test.YtdobblddnfalcaaDoorSapD
import Derived.Test.YtdobblddnfalcaaDoorShelf
import Derived.Test.YtdobblddnfalcaaDoorPFnCapsWrittenx1
import Derived.Test.YtdobblddnfalcaaDoorPktG
namespace Go.Proofs.YtdobblddnfalcaaDoor.cap
section
open Go.RowKit Go.Proofs.YtdobblddnfalcaaDoorW.PrintWords Go.Proofs.YtdobblddnfalcaaDoorW.PrintLast Go.Proofs.YtdobblddnfalcaaDoorW.PrintMore Go.Proofs.YtdobblddnfalcaaDoor.off Go.Proofs.YtdobblddnfalcaaDoor.mapq Go.Proofs.YtdobblddnfalcaaDoor.PFnCapsWritten
set_option linter.unusedVariables false
set_option linter.unusedSimpArgs false
set_option maxHeartbeats 2000000
set_option maxRecDepth 100000
def sig (rows : List Row) : List (ByteArray × List ByteArray) := rows.map fun r => (r.name, r.vs)
def pairs (l : List S30) : List (ByteArray × List ByteArray) := l.map fun x => (x.f0, x.f1)
theorem rd_list (l : List S30) (j : Nat) (hj : j < l.length) : rd_T30 l (j : Int) = l[j] := by
  unfold rd_T30
  rw [Int.toNat_natCast, List.getD_eq_getElem?_getD, List.getElem?_eq_getElem hj]
  rfl
theorem find_none {rows : List Row} {s : ByteArray} (h : s ∉ rows.map (·.name)) : find rows s = none := by
  unfold find
  rw [Option.map_eq_none_iff, List.find?_eq_none]
  intro r hr he
  exact h (List.mem_map.2 ⟨r, hr, name_eq.1 he⟩)
theorem sig_names {rows : List Row} {l : List S30} (h : sig rows = pairs l) : rows.map (·.name) = l.map (·.f0) := by
  have := congrArg (fun q => q.map Prod.fst) h
  unfold sig pairs at this
  rw [List.map_map, List.map_map] at this
  exact this
theorem sig_len {rows : List Row} {l : List S30} (h : sig rows = pairs l) : rows.length = l.length := by
  have := congrArg List.length h
  unfold sig pairs at this
  rwa [List.length_map, List.length_map] at this
/-- An append to an empty slice of one's own. -/
theorem copy_strs {W : World} {A : Option Addr} {c : Nat} {vs : List ByteArray} (hsrc : Src W A vs.length (strs vs)) (hl : vs.length ≤ 1000000) :
    ∃ A1 c1 w2, (Builtin.append_ #[28, 28] 28 #[.slice (some ⟨W.heap.size, 0, none⟩) 0 0, .slice A vs.length c]).run Tryd.prog (W.alloc (.cells #[] 9 (0, 0))) = .ok (.slice A1 vs.length c1) w2 ∧
      Src w2 A1 vs.length (strs vs) ∧ (∀ ad, A1 = some ad → W.heap.size ≤ ad.block) ∧ Below W.heap.size W w2 := by
  have hal : Below W.heap.size W (W.alloc (.cells #[] 9 (0, 0))) := below_alloc (Below.refl _ _) _
  have hs0 : Slc (W.alloc (.cells #[] 9 (0, 0))) (.slice (some ⟨W.heap.size, 0, none⟩) 0 0) [] := .inr ⟨W.heap.size, 0, 0, 0, rfl, ⟨rfl, Nat.le_refl _, by decide, fun j u hj => by simp at hj, fun j hj => by omega, by simp, fun u hu => by simp at hu⟩⟩
  obtain ⟨v1, w2, hrun, hsl, hof, hfr⟩ := appendStr (c := c) 28 hs0 (Src.below hsrc hal) (by simp; omega)
  obtain ⟨A1, c1, hv1, hc1⟩ := Slc_shape hsl
  rw [List.nil_append, strs_len] at hv1
  rw [List.nil_append] at hsl
  subst hv1
  refine ⟨A1, c1, w2, hrun, slc_src hsl, fun ad e => ?_, hal.trans (hof.below (base := W.heap.size) hal.size (fun k hk => by cases hk; exact Nat.le_refl _))⟩
  subst e
  have ho : ∀ k, (Value.slice (some ad) vs.length c1).ownBlock = some k → W.heap.size ≤ k := fun k hk => by
    rcases hfr with hfr | ⟨q, hq, hlt⟩
    · rw [hfr] at hk; cases hk; exact Nat.le_refl _
    · rw [hq] at hk; cases hk; exact Nat.le_trans hal.size hlt
  rcases hsl with ⟨h, _⟩ | ⟨b, off, n, c', h, hm⟩
  · injection h with h1 h2 h3; cases h1
  · injection h with h1 h2 h3
    injection h1 with h1
    subst h1
    exact ho b rfl
theorem capList_any (w : World) (A : Option Addr) (cc : Nat) (l : List S30) (hC : Kd.C k30 w A l.length l) (hok : ∀ x ∈ l, ArgsOk x.f0 x.f1) (hnd : (l.map (·.f0)).Nodup) (hn : l.length ≤ 1000) :
    Calls Tryd.prog 16 #[.slice A l.length cc] w fun e w' => ∃ gl gm sv rows, e = .returned (.tuple #[.pointer (some ⟨gl, 0, none⟩), .bool true]) ∧ CapL w.heap.size w' gl gm sv rows ∧ sig rows = pairs l ∧ Below w.heap.size w w' := by
  have HC := Aside0.mk hC
  have HOK := Aside0.mk hok
  have HND := Aside0.mk hnd
  clear hC hok hnd
  go_enter Tryd.func16, Tryd.ntmps16
  go_wp2_with fail
  refine (newList_any _).mono ?_
  rintro e w1 ⟨gl, gm, rfl, hgl, hgm, hS, hb⟩
  have HL := Aside0.mk (show CapL w.heap.size w1 gl gm (.slice none 0 0) [] from ⟨hS, fun k hk => by
    simp [bl, own, Value.ownBlock] at hk
    rcases hk with rfl | rfl
    · exact hgl
    · exact hgm⟩)
  have HB1 := Aside0.mk hb
  clear hS hb hgl hgm
  go_wp2_with fail
  go_loopg [10] (l.length + 1) (fun kq v10 w' => ∃ (j : Nat) (sv : Value) (rows : List Row), v10 = .int .i64 (j : Int) ∧ j ≤ l.length ∧ Aside0 (kq + j = l.length + 1) ∧ Aside0 (CapL w.heap.size w' gl gm sv rows) ∧ Aside0 (sig rows = pairs (l.take j)) ∧ Aside0 (Below w.heap.size w w'))
  case atStart => exact ⟨0, _, [], rfl, Nat.zero_le _, ⟨by omega⟩, HL, ⟨rfl⟩, HB1⟩
  case round =>
    clear HL HB1
    obtain ⟨j, sv, rows, rfl, hj, HK, HL, HSG, HB⟩ := hrel
    cases gk with
    | zero => exact absurd HK.out (by omega)
    | succ k1 =>
      obtain ⟨wo, hwo⟩ : ∃ wo : World, wo = wr := ⟨_, rfl⟩
      subst hwo
      by_cases hlt : j < l.length
      · have p1 : 0 ≤ (j : Int) := by omega
        have q1 : (j : Int) < (l.length : Int) := by omega
        have c0 : decide ((j : Int) < (l.length : Int)) = true := decide_eq_true q1
        have c1 : decide (j < l.length) = true := decide_eq_true hlt
        have w1 : wrap64 ((j : Int) + 1) = (j : Int) + 1 := off.w64 (by omega) (by omega)
        obtain ⟨ad, A1, c1', e0, y0, y1, y2, y3⟩ := at_T30 (Kd.C_below HC.out HB.out) (j : Int) p1 q1
        subst e0
        rw [rd_list l j hlt] at y0 y1 y2 y3
        rw [Int.toNat_natCast] at y0 y1
        have HARG := Aside0.mk (HOK.out _ (List.getElem_mem hlt))
        have HTK := Aside0.mk (show pairs (l.take (j + 1)) = pairs (l.take j) ++ [(l[j].f0, l[j].f1)] by
          unfold pairs
          rw [List.take_succ_eq_append_getElem hlt, List.map_append]
          rfl)
        have HNEW := Aside0.mk (show find rows l[j].f0 = none from find_none (by
          rw [sig_names HSG.out]
          intro h
          obtain ⟨x, hx, he⟩ := List.mem_map.1 h
          obtain ⟨i, hi, hxi⟩ := List.getElem_of_mem hx
          rw [List.length_take] at hi
          rw [List.getElem_take] at hxi
          have hij : i = j := by
            have h1 : (l.map (·.f0))[i]'(by rw [List.length_map]; omega) = (l.map (·.f0))[j]'(by rw [List.length_map]; exact hlt) := by
              rw [List.getElem_map, List.getElem_map, hxi, he]
            exact (List.getElem_inj HND.out).1 h1
          omega))
        have HRL := Aside0.mk (show rows.length ≤ 1000 by rw [sig_len HSG.out, List.length_take]; omega)
        obtain ⟨x, hx⟩ : ∃ x, l[j] = x := ⟨_, rfl⟩
        rw [hx] at y0 y1 y2 y3 HARG HTK HNEW
        have HY := Aside0.mk (kstr_src y3)
        clear hx y3
        go_wp2_with (first | ((with_reducible refine gate_dst (N := 6) rfl ?_); refine box_event ?hg (N := 6) ?hd (cs := #[.string (⟨#[]⟩ : ByteArray), .slice none 0 0]) (t := 30) ?hr ?_; (case hd => rfl); (case hg => rfl); (case hr => first | (go_simp; done) | (go_simp; rfl)); intro gf hgf wa hbox hb; have BFa := Aside0.mk hbox; have HBa := Aside0.mk (show Below wo.heap.size wo wa from hb); have GF := Aside0.mk (show wo.heap.size ≤ gf by rw [hgf]; exact Nat.le_refl _); have z0 := (blk_cell hbox 0).trans (show _ = some (Value.string ⟨#[]⟩) from rfl); have z1 := (blk_cell hbox 1).trans (show _ = some (Value.slice none 0 0) from rfl); have f0 := blk_frozen hbox 0; have f1 := blk_frozen hbox 1; replace y0 := (hb.cell (World.block_lt_of_cell? wo _ y0)).trans y0; replace y1 := (hb.cell (World.block_lt_of_cell? wo _ y1)).trans y1; clear hbox hb hgf) | fail)
        have BF1 := Aside0.mk (blk_put (cs := #[.string x.f0, .slice none 0 0]) (blk_put (cs := #[.string (⟨#[]⟩ : ByteArray), .slice none 0 0]) BFa.out 0 (.string x.f0) rfl) 1 (.slice A1 x.f1.length c1') rfl)
        have HBe := Aside0.mk (below_set (j := 1) (v := .slice A1 x.f1.length c1') (below_set (j := 0) (v := .string x.f0) HBa.out GF.out) GF.out)
        generalize hW : World.setCell (World.setCell _ _ _) _ _ = W2
        have HBd := Aside0.mk (show Below wo.heap.size wo W2.drew by rw [← hW]; exact below_drew HBe.out)
        have BF2 := Aside0.mk (show W2.drew.heap[gf]? = some (.cells #[.string x.f0, .slice A1 x.f1.length c1'] 30 (0, 0)) by rw [← hW]; exact BF1.out)
        obtain ⟨A4, c4, w4, hr4, hs4, ho4, hb4⟩ := copy_strs (W := W2.drew) (c := c1') (Src.below HY.out HBd.out) (by have := HARG.out.most; omega)
        have HR4 := Aside0.mk hr4
        have BF4 := Aside0.mk ((hb4.block gf (blk_lt BF2.out)).trans BF2.out)
        have HB4 := Aside0.mk (HBd.out.trans (hb4.mono HBd.out.size))
        have HL4 := Aside0.mk (HL.out.below HB4.out)
        have HADD := Aside0.mk (add_new w.heap.size w4 gl gm sv rows HL4.out (Nat.le_trans HB.out.size HB4.out.size) x.f0 A4 c4 x.f1 HARG.out hs4 (fun ad he hk => by
          have h1 := ho4 ad he
          have h2 := HL.out.s.lt _ hk
          have h3 : wo.heap.size ≤ W2.drew.heap.size := HBd.out.size
          omega) HNEW.out HRL.out)
        clear hW y0 y1 BF1 HBe BFa HBa z0 z1 f0 f1 hr4 hs4 ho4 hb4
        refine start_ (n := 9) (S := fun w' => w'.cell? ⟨gf, 0, none⟩ = some (.string x.f0) ∧ w'.cell? ⟨gf, 1, none⟩ = some (.slice A1 x.f1.length c1')) (ds := [7]) #[false, false, false, false, false, false, false, false, false] (by kernel_rfl) rfl rfl ⟨(blk_cell BF2.out 0).trans rfl, (blk_cell BF2.out 1).trans rfl⟩ (fun hHeld => ?_)
        refine pure_ (i := 0) (N := some 14) (v := ?_) (a' := ?_) #[true, false, false, false, false, false, false, false, false] rfl rfl (by kernel_rfl) (fun _ _ _ h => h) (Or.inl ⟨by rfl, ?_⟩) ?_ ?_
        rotate_left
        · intro w'
          go_simp
          with_reducible rfl
        rotate_left
        · simp only [Act.put, List.setIfInBounds_toArray, List.set_cons_zero, List.set_cons_succ, i64_w, i32_w]
          rfl
        refine pure_ (i := 1) (N := some 15) (v := ?_) (a' := ?_) #[true, true, false, false, false, false, false, false, false] rfl rfl (by kernel_rfl) (fun _ _ _ h => h) (Or.inl ⟨by rfl, ?_⟩) ?_ ?_
        rotate_left
        · intro w'
          go_simp
          with_reducible rfl
        rotate_left
        · simp only [Act.put, List.setIfInBounds_toArray, List.set_cons_zero, List.set_cons_succ, i64_w, i32_w]
          rfl
        refine pure_ (i := 4) (N := some 18) (v := ?_) (a' := ?_) #[true, true, false, false, true, false, false, false, false] rfl rfl (by kernel_rfl) (fun _ _ _ h => h) (Or.inl ⟨by rfl, ?_⟩) ?_ ?_
        rotate_left
        · intro w'
          go_simp
          with_reducible rfl
        rotate_left
        · simp only [Act.put, List.setIfInBounds_toArray, List.set_cons_zero, List.set_cons_succ, i64_w, i32_w]
          rfl
        refine take_ (i := 2) (N := some 16) (v := ?_) (a' := ?_) #[true, true, true, false, true, false, false, false, false] rfl rfl (by kernel_rfl) (fun _ _ _ h => h) (Or.inl ⟨by rfl, ?_⟩) hHeld ?_ ?_
        rotate_left
        · rintro w' ⟨s0, s1⟩
          go_simp
          with_reducible rfl
        rotate_left
        · simp only [Act.put, List.setIfInBounds_toArray, List.set_cons_zero, List.set_cons_succ, i64_w, i32_w]
          rfl
        refine take_ (i := 5) (N := some 19) (v := ?_) (a' := ?_) #[true, true, true, false, true, true, false, false, false] rfl rfl (by kernel_rfl) (fun _ _ _ h => h) (Or.inl ⟨by rfl, ?_⟩) hHeld ?_ ?_
        rotate_left
        · rintro w' ⟨s0, s1⟩
          go_simp
          with_reducible rfl
        rotate_left
        · simp only [Act.put, List.setIfInBounds_toArray, List.set_cons_zero, List.set_cons_succ, i64_w, i32_w]
          rfl
        refine one_ (i := 3) (N := some 17) #[true, true, true, true, true, true, false, false, false] rfl rfl (by kernel_rfl) (by decide) (fun K hK => ?_)
        refine value_ (w1 := ?_) (v := ?_) (by rfl) rfl ?_ ?_
        rotate_left 2
        · go_simp
          constructor
          · rfl
          · rfl
        refine hK.out _ _ ⟨(blk_cell (blk_alloc BF2.out _) 0).trans rfl, (blk_cell (blk_alloc BF2.out _) 1).trans rfl⟩ (fun hHeld => ?_)
        clear hK K
        refine norm_ (a' := ?_) ?_ ?_
        rotate_left
        · show Act.put _ (some 17) _ = _
          simp only [Act.put, List.setIfInBounds_toArray, List.set_cons_zero, List.set_cons_succ, i64_w, i32_w]
          rfl
        refine one_ (i := 6) (N := some 20) #[true, true, true, true, true, true, true, false, false] rfl rfl (by kernel_rfl) (by decide) (fun K hK => ?_)
        refine step_append_run (by rfl) (.tmp 17) (.tmp 19) 28 rfl _ _ rfl rfl HR4.out ?_
        refine hK.out _ _ ⟨(blk_cell BF4.out 0).trans rfl, (blk_cell BF4.out 1).trans rfl⟩ (fun hHeld => ?_)
        clear hK K
        refine norm_ (a' := ?_) ?_ ?_
        rotate_left
        · show Act.put _ (some 20) _ = _
          simp only [Act.put, List.setIfInBounds_toArray, List.set_cons_zero, List.set_cons_succ, i64_w, i32_w]
          rfl
        refine last_ (i := 7) (N := some 21) #[true, true, true, true, true, true, true, true, false] rfl rfl (by kernel_rfl) (by decide) (fun K hK => ?_)
        refine goes_ Tryd.func31 (by kernel_rfl) rfl #[.pointer (some ⟨gl, 0, none⟩), .string x.f0, .slice A4 x.f1.length c4] (by rfl) rfl rfl (by simp only [List.map_toArray, List.map_cons, List.map_nil]; rfl) ?_
        with_reducible refine (HADD.out).mono ?_
        rintro e w5 ⟨rfl, sv5, ge5, v5, hl5, hb5, _, _⟩
        refine ⟨_, rfl, ?_⟩
        refine hK.out _ _ ?_
        clear hK K
        refine norm_ (a' := ?_) ?_ ?_
        rotate_left
        · show Act.put _ (some 21) _ = _
          simp only [Act.put, List.setIfInBounds_toArray, List.set_cons_zero, List.set_cons_succ, i64_w, i32_w]
          rfl
        refine pure_ (i := 8) (N := some 22) (v := ?_) (a' := ?_) #[true, true, true, true, true, true, true, true, true] rfl rfl (by kernel_rfl) (fun _ _ _ h => h) (Or.inl ⟨by rfl, ?_⟩) ?_ ?_
        rotate_left
        · intro w'
          go_simp
          with_reducible rfl
        rotate_left
        · simp only [Act.put, List.setIfInBounds_toArray, List.set_cons_zero, List.set_cons_succ, i64_w, i32_w]
          rfl
        refine done_ (by kernel_rfl) ?_

        have HL5 := Aside0.mk hl5
        have HB5 := Aside0.mk (HB.out.trans ((HB4.out.mono HB.out.size).trans hb5))
        clear hl5 hb5 HADD HR4 hHeld
        go_wp2_with fail
        go_roundg k1
        case measure => have := HK.out; omega
        case rel => exact ⟨j + 1, sv5, _, by go_num, hlt, ⟨by have := HK.out; omega⟩, HL5, ⟨by rw [HTK.out, ← HSG.out]; unfold sig; rw [List.map_append]; rfl⟩, HB5⟩
      · have c0 : decide ((j : Int) < (l.length : Int)) = false := decide_eq_false (by omega)
        have c1 : decide (j < l.length) = false := decide_eq_false hlt
        have HT := Aside0.mk (show l.take j = l from List.take_of_length_le (by omega))
        rw [HT.out] at HSG
        go_wp2_with fail
        go_ret2
        exact ⟨gl, gm, sv, rows, rfl, HL.out, HSG.out, HB.out⟩
end
section
open Go.RowKit Go.Proofs.YtdobblddnfalcaaDoorW.PrintWords Go.Proofs.YtdobblddnfalcaaDoorW.PrintLast Go.Proofs.YtdobblddnfalcaaDoorW.PrintMore Go.Proofs.YtdobblddnfalcaaDoor.off Go.Proofs.YtdobblddnfalcaaDoor.mapq Go.Proofs.YtdobblddnfalcaaDoor.PFnCapsWritten
set_option linter.unusedVariables false
set_option linter.unusedSimpArgs false
set_option maxHeartbeats 2000000
set_option maxRecDepth 100000
theorem tail_len (B : Nat) : ∀ (l : List ByteArray), (∀ s ∈ l, s.size ≤ B) → (Lib.joinTail [32] (l.map (·.data.toList))).length ≤ l.length * (B + 1)
  | [], _ => by simp [Lib.joinTail]
  | s :: r, h => by
    have h1 := tail_len B r (fun x hx => h x (List.mem_cons_of_mem _ hx))
    have h2 : s.data.toList.length ≤ B := h s List.mem_cons_self
    unfold Lib.joinTail at h1 ⊢
    rw [List.map_cons, List.map_cons, List.flatten_cons, List.length_append, List.length_cons, Nat.succ_mul, List.length_append]
    simp only [List.length_singleton]
    omega
theorem join_len (B : Nat) (l : List ByteArray) (h : ∀ s ∈ l, s.size ≤ B) : (Lib.join (l.map (·.data.toList)) [32]).length ≤ l.length * (B + 1) := by
  cases l with
  | nil => simp [Lib.join_nil]
  | cons s r =>
    have h1 := tail_len B r (fun x hx => h x (List.mem_cons_of_mem _ hx))
    have h2 : s.data.toList.length ≤ B := h s List.mem_cons_self
    rw [List.map_cons, Lib.join_cons, List.length_append, List.length_cons, Nat.succ_mul]
    omega
theorem join_any (L : List ByteArray) (hB : ∀ s ∈ L, s.size ≤ 3000) (hL : L.length ≤ 1000000) (W : World) (A : Option Addr) (c : Nat) (h : Slc W (.slice A L.length c) (strs L)) :
    Calls Tryd.prog 32 #[.slice A L.length c, .string ⟨#[32]⟩] W fun e w' => e = .returned (.string (joinB L)) ∧ Below W.heap.size W w' := by
  cases L with
  | nil =>
    refine (Tryd.strings_Join_none A c ⟨#[32]⟩ W).mono ?_
    rintro e w' ⟨rfl, rfl⟩
    exact ⟨rfl, Below.refl _ _⟩
  | cons s r =>
    rcases h with ⟨h, _⟩ | ⟨b, off, n, c', h, hm⟩
    · injection h with h1 h2 h3
      cases h2
    · injection h with h1 h2 h3
      subst h1 h2 h3
      have hj := join_len 3000 (s :: r) hB
      refine (Tryd.strings_Join b off c (s :: r) ⟨#[32]⟩ W (fun j x hx => ?_) hm.blk (by omega) hm.room (Nat.le_trans hj (by omega))).mono ?_
      · have hlt := (List.getElem?_eq_some_iff.1 hx).1
        have := strs_get (s :: r) j hlt
        rw [List.getElem?_eq_getElem hlt] at hx
        injection hx with hx
        rw [hx] at this
        exact hm.rng j _ this
      · rintro e w' ⟨rfl, hb⟩
        exact ⟨rfl, hb⟩
theorem addC_any (w : World) (gt : Nat) (t s : ByteArray) (hT : w.heap[gt]? = some (.cells #[.string t] 9 (0, 0))) (ht : t.size ≤ 1000000000) (hs : s.size ≤ 1000000000) :
    Calls Tryd.prog 18 #[.string s, .pointer (some ⟨gt, 0, none⟩)] w fun e w' => e = .returned (.tuple #[]) ∧ w'.heap[gt]? = some (.cells #[.string (addT t s)] 9 (0, 0)) ∧ Off (In [gt]) w w' := by
  have HT := Aside0.mk hT
  have q0 := (blk_cell hT 0).trans (show _ = some (Value.string t) from rfl)
  have f0 := blk_frozen hT 0
  have s1 : (t.size : Int) ≤ 1000000000 := by omega
  have s2 : (s.size : Int) ≤ 1000000000 := by omega
  clear hT
  by_cases h0 : t.size = 0
  · have e0 : t = ⟨#[]⟩ := by
      apply ByteArray.ext
      exact Array.eq_empty_of_size_eq_zero h0
    have HA := Aside0.mk (show addT t s = ⟨#[]⟩ ++ s by
      unfold addT
      rw [if_pos h0]
      apply ba_ext
      rw [data_append]; rfl)
    subst e0
    go_enter Tryd.func18, Tryd.ntmps18
    go_wp2_with fail
    refine bodyPost_end (results_none rfl _ _ _) rfl ?_
    exact ⟨rfl, by rw [HA.out]; exact blk_put HT.out 0 _ rfl, (Off.refl _ _).cell (by simp [In]) 0 _⟩
  · obtain ⟨e0, e1, _⟩ := not_empty h0
    have e2 : (t.toList != []) = true := by rw [bne, e1]; rfl
    have HA := Aside0.mk (show addT t s = (t ++ (⟨#[32]⟩ : ByteArray)) ++ s by
      unfold addT
      rw [if_neg h0])
    go_enter Tryd.func18, Tryd.ntmps18
    go_wp2_with fail
    refine bodyPost_end (results_none rfl _ _ _) rfl ?_
    exact ⟨rfl, by rw [HA.out]; exact blk_put (blk_put HT.out 0 _ rfl) 0 _ rfl, ((Off.refl _ _).cell (by simp [In]) 0 _).cell (by simp [In]) 0 _⟩
end
section
open Go.RowKit Go.Proofs.YtdobblddnfalcaaDoorW.PrintWords Go.Proofs.YtdobblddnfalcaaDoorW.PrintLast Go.Proofs.YtdobblddnfalcaaDoorW.PrintMore Go.Proofs.YtdobblddnfalcaaDoor.off Go.Proofs.YtdobblddnfalcaaDoor.mapq Go.Proofs.YtdobblddnfalcaaDoor.PFnCapsWritten
set_option linter.unusedVariables false
set_option linter.unusedSimpArgs false
set_option maxHeartbeats 2000000
set_option maxRecDepth 100000
def itemsP (l : List S30) : List ByteArray := l.flatMap fun x => items x.f0 x.f1
/-- What is asked of a capability that came in, for its text. -/
structure CapOk (x : S30) : Prop where
  name : x.f0.size ≤ 1000
  vals : ∀ s ∈ x.f1, s.size ≤ 1000
  most : x.f1.length ≤ 1000
theorem itemsP_snoc (l : List S30) (j : Nat) (hj : j < l.length) : itemsP (l.take (j + 1)) = itemsP (l.take j) ++ items l[j].f0 l[j].f1 := by
  unfold itemsP
  rw [List.take_succ_eq_append_getElem hj, List.flatMap_append]
  simp
theorem itemsP_len : ∀ (l : List S30), (∀ x ∈ l, CapOk x) → (itemsP l).length ≤ l.length * 1000
  | [], _ => by simp [itemsP]
  | r :: t, h => by
    have h1 := itemsP_len t (fun q hq => h q (List.mem_cons_of_mem _ hq))
    have h2 := items_len r.f0 r.f1 (h r List.mem_cons_self).most
    unfold itemsP at h1 ⊢
    rw [List.flatMap_cons, List.length_append, List.length_cons]
    omega
theorem items_size {c : ByteArray} {vs : List ByteArray} (hc : c.size ≤ 1000) (hv : ∀ s ∈ vs, s.size ≤ 1000) : ∀ s ∈ items c vs, s.size ≤ 3000 := by
  intro s hs
  unfold items at hs
  split at hs
  · rw [List.mem_singleton.1 hs]; omega
  · obtain ⟨v, hv', rfl⟩ := List.mem_map.1 hs
    have := hv v hv'
    rw [ByteArray.size_append, ByteArray.size_append]
    have e : (⟨#[61]⟩ : ByteArray).size = 1 := rfl
    omega
theorem itemsP_size (l : List S30) (h : ∀ x ∈ l, CapOk x) : ∀ s ∈ itemsP l, s.size ≤ 3000 := by
  intro s hs
  obtain ⟨x, hx, hs⟩ := List.mem_flatMap.1 hs
  exact items_size (h x hx).name (h x hx).vals s hs
theorem foldP_size (l : List S30) (h : ∀ x ∈ l, CapOk x) (hn : l.length ≤ 100) : ((itemsP l).foldl addT ⟨#[]⟩).size ≤ 400000000 := by
  have h1 := fold_size 3000 (itemsP l) ⟨#[]⟩ (itemsP_size l h)
  have h2 := itemsP_len l h
  have e : (⟨#[]⟩ : ByteArray).size = 0 := rfl
  rw [e] at h1
  have h3 : (itemsP l).length * (3000 + 1) ≤ 100000 * 3001 := Nat.mul_le_mul_right _ (by omega)
  omega
theorem capsText_any (w : World) (A : Option Addr) (cc : Nat) (l : List S30) (hC : Kd.C k30 w A l.length l) (hok : ∀ x ∈ l, CapOk x) (hn : l.length ≤ 100) :
    Calls Tryd.prog 9 #[.slice A l.length cc] w fun e w' => e = .returned (.string ((itemsP l).foldl addT ⟨#[]⟩)) ∧ Below w.heap.size w w' := by
  have HC := Aside0.mk hC
  have HOK := Aside0.mk hok
  have hmf : ∀ (fn : Fn) (first cap : Array Value) (w : World), (Instr.makeFunc fn first cap).run Tryd.prog w = .ok (.func fn first cap) w := fun _ _ _ _ => rfl
  clear hC hok
  go_enter Tryd.func9, Tryd.ntmps9
  go_wp2_with (first | ((with_reducible refine gate_dst (N := 3) rfl ?_); refine box_event ?hg (N := 3) ?hd (cs := #[.string (⟨#[]⟩ : ByteArray)]) (t := 9) ?hr ?_; (case hd => rfl); (case hg => rfl); (case hr => first | (go_simp; done) | (go_simp; rfl)); intro gt hgt w1 hbox hb; have BT := Aside0.mk hbox; have HB1 := Aside0.mk (show Below w.heap.size w w1 from hb); have GT := Aside0.mk (show w.heap.size ≤ gt by rw [hgt]; exact Nat.le_refl _); have z0 := (blk_cell hbox 0).trans (show _ = some (Value.string ⟨#[]⟩) from rfl); have f0 := blk_frozen hbox 0; clear hbox hb hgt) | fail)
  have BT2 := Aside0.mk (blk_put (cs := #[.string (⟨#[]⟩ : ByteArray)]) BT.out 0 (.string (⟨#[]⟩ : ByteArray)) rfl)
  have HB2 := Aside0.mk (below_set (j := 0) (v := .string (⟨#[]⟩ : ByteArray)) HB1.out GT.out)
  generalize w1.setCell ⟨gt, 0, none⟩ (.string (⟨#[]⟩ : ByteArray)) = W2 at BT2 HB2 ⊢
  clear BT HB1 z0 f0 hmf
  go_loopg [12] (l.length + 1) (fun kq v12 w' => ∃ j : Nat, v12 = .int .i64 (j : Int) ∧ j ≤ l.length ∧ Aside0 (kq + j = l.length + 1) ∧ Aside0 (w'.heap[gt]? = some (.cells #[.string ((itemsP (l.take j)).foldl addT ⟨#[]⟩)] 9 (0, 0))) ∧ Aside0 (Below w.heap.size w w'))
  case atStart => exact ⟨0, rfl, Nat.zero_le _, ⟨by omega⟩, BT2, HB2⟩
  case round =>
    clear BT2 HB2
    obtain ⟨j, rfl, hj, HK, HT, HB⟩ := hrel
    cases gk with
    | zero => exact absurd HK.out (by omega)
    | succ k1 =>
      obtain ⟨wo, hwo⟩ : ∃ wo : World, wo = wr := ⟨_, rfl⟩
      subst hwo
      by_cases hlt : j < l.length
      · have p1 : 0 ≤ (j : Int) := by omega
        have q1 : (j : Int) < (l.length : Int) := by omega
        have c0 : decide ((j : Int) < (l.length : Int)) = true := decide_eq_true q1
        have c1 : decide (j < l.length) = true := decide_eq_true hlt
        have w1 : wrap64 ((j : Int) + 1) = (j : Int) + 1 := off.w64 (by omega) (by omega)
        obtain ⟨ad, A1, c1', e0, y0, y1, y2, y3⟩ := at_T30 HC.out (j : Int) p1 q1
        subst e0
        rw [rd_list l j hlt] at y0 y1 y2 y3
        rw [Int.toNat_natCast] at y0 y1
        have HTK := Aside0.mk (itemsP_snoc l j hlt)
        have HSZ := Aside0.mk (foldP_size (l.take j) (fun x hx => HOK.out x (List.mem_of_mem_take hx)) (by rw [List.length_take]; omega))
        have HCO := Aside0.mk (HOK.out _ (List.getElem_mem hlt))
        obtain ⟨T, hTT⟩ : ∃ T, (itemsP (l.take j)).foldl addT ⟨#[]⟩ = T := ⟨_, rfl⟩
        have HTK2 := Aside0.mk (show (itemsP (l.take (j + 1))).foldl addT ⟨#[]⟩ = (items l[j].f0 l[j].f1).foldl addT T by rw [HTK.out, fold_append, hTT])
        rw [hTT] at HT HSZ
        obtain ⟨x, hx⟩ : ∃ x, l[j] = x := ⟨_, rfl⟩
        rw [hx] at y0 y1 y2 y3 HTK2 HCO
        replace y0 := (HB.out.cell (World.block_lt_of_cell? w _ y0)).trans y0
        replace y1 := (HB.out.cell (World.block_lt_of_cell? w _ y1)).trans y1
        have HYW := Aside0.mk (kstr_src y3)
        clear hx y3 hTT HTK
        obtain ⟨nm, vs⟩ := x
        simp only at y0 y1 y2 HYW HTK2
        by_cases hv : vs.length = 0
        · obtain rfl : vs = [] := List.eq_nil_of_length_eq_zero hv
          go_wp2_with (first | ((with_reducible refine gate_dst (N := 6) rfl ?_); refine box_event ?hg (N := 6) ?hd (cs := #[.string (⟨#[]⟩ : ByteArray), .slice none 0 0]) (t := 30) ?hr ?_; (case hd => rfl); (case hg => rfl); (case hr => first | (go_simp; done) | (go_simp; rfl)); intro gf hgf wa hbox hb; have BFa := Aside0.mk hbox; have HBa := Aside0.mk (show Below wo.heap.size wo wa from hb); have GF := Aside0.mk (show wo.heap.size ≤ gf by rw [hgf]; exact Nat.le_refl _); have z0 := (blk_cell hbox 0).trans (show _ = some (Value.string ⟨#[]⟩) from rfl); have z1 := (blk_cell hbox 1).trans (show _ = some (Value.slice none 0 0) from rfl); have f0 := blk_frozen hbox 0; have f1 := blk_frozen hbox 1; replace y0 := (hb.cell (World.block_lt_of_cell? wo _ y0)).trans y0; replace y1 := (hb.cell (World.block_lt_of_cell? wo _ y1)).trans y1; clear hbox hb hgf) | fail)
          have BF1 := Aside0.mk (blk_put (cs := #[.string nm, .slice none 0 0]) (blk_put (cs := #[.string (⟨#[]⟩ : ByteArray), .slice none 0 0]) BFa.out 0 (.string nm) rfl) 1 (.slice A1 0 c1') rfl)
          have HBe := Aside0.mk (below_set (j := 1) (v := .slice A1 0 c1') (below_set (j := 0) (v := .string nm) HBa.out GF.out) GF.out)
          clear y0 y1 z0 z1 f0 f1 BFa HBa
          generalize hW : World.setCell (World.setCell _ _ _) _ _ = W2
          rw [hW] at BF1 HBe
          have HT2 := Aside0.mk (blk_below HT.out HBe.out)
          have HB2 := Aside0.mk (below_step HB.out HBe.out)
          have q0 := (blk_cell BF1.out 0).trans (show _ = some (Value.string nm) from rfl)
          have q2 := (blk_cell BF1.out 1).trans (show _ = some (Value.slice A1 0 c1') from rfl)
          have HNE := Aside0.mk (show gt ≠ gf by have := blk_lt HT.out; have := GF.out; omega)
          have HT0 := Aside0.mk GT.out
          clear hW HT HBe HC
          have HADD := Aside0.mk (addC_any W2 gt T nm HT2.out (by have := HSZ.out; omega) (by have := HCO.out.name; simp only at this; omega))
          clear hv HT2
          refine HADD.out.mono ?_
          rintro e w5 ⟨rfl, ht5, ho5⟩
          have HT5 := Aside0.mk ht5
          have BF5 := Aside0.mk (ho5.blk BF1.out (by simp [In]; exact fun e => HNE.out e.symm))
          have q5 := (blk_cell BF5.out 1).trans (show _ = some (Value.slice A1 0 c1') from rfl)
          have HB5 := Aside0.mk (HB2.out.trans (ho5.below (base := w.heap.size) HB2.out.size (fun k hk => by simp [In] at hk; rw [hk]; exact HT0.out)))
          clear ht5 ho5 HADD
          go_wp2_with fail
          clear q5
          go_loopg [27] 1 (fun kq v27 w' => v27 = .int .i64 0 ∧ Aside0 (kq = 1) ∧ w5 = w')
          case atStart => exact ⟨rfl, ⟨rfl⟩, rfl⟩
          case round =>
            obtain ⟨rfl, HK2, rfl⟩ := hrel
            cases gk with
            | zero => exact absurd HK2.out (by omega)
            | succ k2 =>
              go_wp2_with fail
              go_roundg k1
              case measure => have := HK.out; omega
              case rel => exact ⟨j + 1, by go_num, hlt, ⟨by have := HK.out; omega⟩, ⟨by rw [HTK2.out]; exact HT5.out⟩, HB5⟩
        · have d0 : ((vs.length : Int) == 0) = false := beq_eq_false_iff_ne.2 (by omega)
          have d1 : (vs.length == 0) = false := beq_eq_false_iff_ne.2 hv
          have HIT := Aside0.mk (show items nm vs = vs.map fun v => (nm ++ (⟨#[61]⟩ : ByteArray)) ++ v by unfold items; rw [if_neg (fun e => hv (by rw [e]; rfl))])
          clear hv
          go_wp2_with (first | ((with_reducible refine gate_dst (N := 6) rfl ?_); refine box_event ?hg (N := 6) ?hd (cs := #[.string (⟨#[]⟩ : ByteArray), .slice none 0 0]) (t := 30) ?hr ?_; (case hd => rfl); (case hg => rfl); (case hr => first | (go_simp; done) | (go_simp; rfl)); intro gf hgf wa hbox hb; have BFa := Aside0.mk hbox; have HBa := Aside0.mk (show Below wo.heap.size wo wa from hb); have GF := Aside0.mk (show wo.heap.size ≤ gf by rw [hgf]; exact Nat.le_refl _); have z0 := (blk_cell hbox 0).trans (show _ = some (Value.string ⟨#[]⟩) from rfl); have z1 := (blk_cell hbox 1).trans (show _ = some (Value.slice none 0 0) from rfl); have f0 := blk_frozen hbox 0; have f1 := blk_frozen hbox 1; replace y0 := (hb.cell (World.block_lt_of_cell? wo _ y0)).trans y0; replace y1 := (hb.cell (World.block_lt_of_cell? wo _ y1)).trans y1; clear hbox hb hgf) | fail)
          have BF1 := Aside0.mk (blk_put (cs := #[.string nm, .slice none 0 0]) (blk_put (cs := #[.string (⟨#[]⟩ : ByteArray), .slice none 0 0]) BFa.out 0 (.string nm) rfl) 1 (.slice A1 vs.length c1') rfl)
          have HBe := Aside0.mk (below_set (j := 1) (v := .slice A1 vs.length c1') (below_set (j := 0) (v := .string nm) HBa.out GF.out) GF.out)
          clear y0 y1 z0 z1 f0 f1 BFa HBa
          generalize hW : World.setCell (World.setCell _ _ _) _ _ = W2
          rw [hW] at BF1 HBe
          have HT2 := Aside0.mk (blk_below HT.out HBe.out)
          have HB2 := Aside0.mk (below_step HB.out HBe.out)
          have q0 := (blk_cell BF1.out 0).trans (show _ = some (Value.string nm) from rfl)
          have q2 := (blk_cell BF1.out 1).trans (show _ = some (Value.slice A1 vs.length c1') from rfl)
          have HNE := Aside0.mk (show gt ≠ gf by have := blk_lt HT.out; have := GF.out; omega)
          have HT0 := Aside0.mk GT.out
          clear hW HT HBe HC
          clear q0 q2 d0 d1
          go_loopg [27] (vs.length + 1) (fun kq v27 w' => ∃ (i : Nat) (T2 : ByteArray), v27 = .int .i64 (i : Int) ∧ i ≤ vs.length ∧ Aside0 (kq + i = vs.length + 1) ∧ Aside0 (T2 = ((items nm vs).take i).foldl addT T) ∧ Aside0 (w'.heap[gt]? = some (.cells #[.string T2] 9 (0, 0))) ∧ Aside0 (Off (In [gt]) W2 w'))
          case atStart => exact ⟨0, T, rfl, Nat.zero_le _, ⟨by omega⟩, ⟨rfl⟩, HT2, ⟨Off.refl _ _⟩⟩
          case round =>
            clear HT2
            obtain ⟨i, T2, rfl, hi, HKi, HT2e, HT3, HO3⟩ := hrel
            have HB3 := Aside0.mk (HB2.out.trans (HO3.out.below (base := w.heap.size) HB2.out.size (fun k hk => by simp [In] at hk; rw [hk]; exact HT0.out)))
            cases gk with
            | zero => exact absurd HKi.out (by omega)
            | succ k2 =>
              by_cases hli : i < vs.length
              · have p2 : 0 ≤ (i : Int) := by omega
                have q2 : (i : Int) < (vs.length : Int) := by omega
                have d0 : decide ((i : Int) < (vs.length : Int)) = true := decide_eq_true q2
                have d1 : decide (i < vs.length) = true := decide_eq_true hli
                have w2 : wrap64 ((i : Int) + 1) = (i : Int) + 1 := off.w64 (by omega) (by have := HCO.out.most; simp only at this; omega)
                have BF3 := Aside0.mk (HO3.out.blk BF1.out (by simp [In]; exact fun e => HNE.out e.symm))
                have q0 := (blk_cell BF3.out 0).trans (show _ = some (Value.string nm) from rfl)
                obtain ⟨av, rfl, hc2⟩ := (Src.below HYW.out HB3.out).rd i _ (strs_get vs i hli)
                have hvs := HCO.out.vals _ (List.getElem_mem hli)
                have HTI2 := Aside0.mk (show ((items nm vs).take (i + 1)).foldl addT T = addT T2 ((nm ++ (⟨#[61]⟩ : ByteArray)) ++ vs[i]) by
                  rw [HT2e.out, HIT.out, ← List.map_take, ← List.map_take, List.take_succ_eq_append_getElem hli, List.map_append, fold_append]
                  rfl)
                have hT2s : T2.size ≤ 500000000 := by
                  have h1 := fold_size 3000 ((items nm vs).take i) T (fun s hs => items_size HCO.out.name HCO.out.vals s (List.mem_of_mem_take hs))
                  have h2 := HSZ.out
                  have h3 := HCO.out.most
                  simp only at h3
                  rw [← HT2e.out, List.length_take] at h1
                  have h4 : min i (items nm vs).length * (3000 + 1) ≤ 1000 * 3001 := Nat.mul_le_mul_right _ (by omega)
                  omega
                obtain ⟨x, hx⟩ : ∃ x, vs[i] = x := ⟨_, rfl⟩
                rw [hx] at hc2 HTI2 hvs
                have hnm : nm.size ≤ 1000 := HCO.out.name
                have s1 : (nm.size : Int) ≤ 1000 := by omega
                have s2 : (x.size : Int) ≤ 1000 := by omega
                have HADD := Aside0.mk (addC_any wr gt T2 ((nm ++ (⟨#[61]⟩ : ByteArray)) ++ x) HT3.out (by omega) (by rw [ByteArray.size_append, ByteArray.size_append]; have e : (⟨#[61]⟩ : ByteArray).size = 1 := rfl; omega))
                clear hx hvs hT2s
                go_wp2_with fail
                refine HADD.out.mono ?_
                rintro e w5 ⟨rfl, ht5, ho5⟩
                have HT5 := Aside0.mk ht5
                have HO5 := Aside0.mk (HO3.out.trans ho5)
                clear ht5 ho5 HADD
                go_wp2_with fail
                go_roundg k2
                case measure => have := HKi.out; omega
                case rel => exact ⟨i + 1, _, by go_num, hli, ⟨by have := HKi.out; omega⟩, ⟨HTI2.out.symm⟩, HT5, HO5⟩
              · have d0 : decide ((i : Int) < (vs.length : Int)) = false := decide_eq_false (by omega)
                have d1 : decide (i < vs.length) = false := decide_eq_false hli
                have HTA := Aside0.mk (show (items nm vs).take i = items nm vs from List.take_of_length_le (by rw [HIT.out, List.length_map]; omega))
                have HTE := Aside0.mk (show (itemsP (l.take (j + 1))).foldl addT ⟨#[]⟩ = T2 by rw [HTK2.out, HT2e.out, HTA.out])
                go_wp2_with fail
                go_roundg k1
                case measure => have := HK.out; omega
                case rel => exact ⟨j + 1, by go_num, hlt, ⟨by have := HK.out; omega⟩, ⟨by rw [HTE.out]; exact HT3.out⟩, HB3⟩
      · have c0 : decide ((j : Int) < (l.length : Int)) = false := decide_eq_false (by omega)
        have c1 : decide (j < l.length) = false := decide_eq_false hlt
        have HTT := Aside0.mk (show l.take j = l from List.take_of_length_le (by omega))
        rw [HTT.out] at HT
        have q0 := (blk_cell HT.out 0).trans (show _ = some (Value.string ((itemsP l).foldl addT ⟨#[]⟩)) from rfl)
        go_wp2_with fail
        go_ret
        exact ⟨rfl, HB.out⟩
end
section
open Go.RowKit Go.Proofs.YtdobblddnfalcaaDoorW.PrintWords Go.Proofs.YtdobblddnfalcaaDoorW.PrintLast Go.Proofs.YtdobblddnfalcaaDoorW.PrintMore Go.Proofs.YtdobblddnfalcaaDoor.PFnCapsWritten
set_option linter.unusedVariables false
set_option linter.unusedSimpArgs false
set_option maxHeartbeats 2000000
set_option maxRecDepth 100000
/-- With enough steps something is said, and if it is yes, Q holds. -/
def Says (f : Nat → Option Bool) (Q : Prop) : Prop := ∃ F b, (∀ k, F ≤ k → f k = some b) ∧ (b = true → Q)
theorem Says.const {Q : Prop} (b : Bool) (h : b = true → Q) : Says (fun _ => some b) Q := ⟨0, b, fun _ _ => rfl, h⟩
theorem Says.no {Q : Prop} : Says (fun _ => some false) Q := Says.const false (fun h => by cases h)
theorem Says.step {f g : Nat → Option Bool} {Q : Prop} (h : Says f Q) (e : ∀ k, g (k + 1) = f k) : Says g Q := by
  obtain ⟨F, b, h1, h2⟩ := h
  refine ⟨F + 1, b, fun k hk => ?_, h2⟩
  obtain ⟨k, rfl⟩ : ∃ m, k = m + 1 := ⟨k - 1, by omega⟩
  rw [e k, h1 k (by omega)]
theorem Says.ite {f g : Nat → Option Bool} {Q c : Prop} [Decidable c] (h1 : c → Says f Q) (h2 : ¬ c → Says g Q) : Says (fun k => if c then f k else g k) Q := by
  by_cases h : c
  · obtain ⟨F, b, h3, h4⟩ := h1 h
    exact ⟨F, b, fun k hk => by show (if c then f k else g k) = _; rw [if_pos h]; exact h3 k hk, h4⟩
  · obtain ⟨F, b, h3, h4⟩ := h2 h
    exact ⟨F, b, fun k hk => by show (if c then f k else g k) = _; rw [if_neg h]; exact h3 k hk, h4⟩
theorem Says.bind {f g : Nat → Option Bool} {P Q : Prop} (h1 : Says f P) (h2 : P → Says g Q) : Says (fun k => (f k).bind fun t => if t = true then g k else some false) Q := by
  obtain ⟨F, b, h3, h4⟩ := h1
  cases b with
  | false => exact ⟨F, false, (fun k hk => by show ((f k).bind fun t => if t = true then g k else some false) = _; rw [h3 k hk]; rfl), fun h => by cases h⟩
  | true =>
    obtain ⟨F2, b2, h5, h6⟩ := h2 (h4 rfl)
    exact ⟨F + F2, b2, (fun k hk => by show ((f k).bind fun t => if t = true then g k else some false) = _; rw [h3 k (by omega)]; exact h5 k (by omega)), h6⟩
theorem Says.mono {f : Nat → Option Bool} {P Q : Prop} (h : Says f P) (k : P → Q) : Says f Q := by
  obtain ⟨F, b, h1, h2⟩ := h
  exact ⟨F, b, h1, fun e => k (h2 e)⟩
def okB (c : Int) : Prop := 45 ≤ c ∧ c ≤ 122 ∧ c ≠ 61
structure WordOk (s : ByteArray) : Prop where
  pos : 1 ≤ s.size
  most : s.size ≤ 60
  ok : ∀ i : Nat, i < s.size → okB (bt s (i : Int))
theorem word_l0 (s : ByteArray) (hs : s.size ≤ 2147483647) : ∀ (d i : Nat), i + d = s.size → (∀ j : Nat, j < i → okB (bt s (j : Int))) → Says (fun k => spec_IsWord.l0 k s (s.size : Int) (i : Int)) (WordOk s) := by
  intro d
  induction d with
  | zero =>
    intro i hi hq
    refine Says.step (f := fun _ => if (s.size : Int) ≥ 1 then some (decide ((s.size : Int) ≤ 60)) else some false) ?_ (fun k => by rw [spec_IsWord.l0, if_neg (by omega)])
    refine Says.ite (fun h1 => Says.const _ (fun h2 => ?_)) (fun _ => Says.no)
    have h3 := of_decide_eq_true h2
    exact ⟨by omega, by omega, fun j hj => hq j (by omega)⟩
  | succ d ih =>
    intro i hi hq
    have IH : okB (bt s (i : Int)) → Says (fun k => spec_IsWord.l0 k s (s.size : Int) (wrap64 ((i : Int) + 1))) (WordOk s) := fun h => by
      rw [show wrap64 ((i : Int) + 1) = ((i + 1 : Nat) : Int) by unfold wrap64; omega]
      refine ih (i + 1) (by omega) (fun j hj => ?_)
      by_cases e : j = i
      · subst e; exact h
      · exact hq j (by omega)
    refine Says.step ?_ (fun k => by rw [spec_IsWord.l0, if_pos (by omega), if_pos (by omega), if_pos (by omega)])
    generalize bt s (i : Int) = c at IH
    repeat (first | exact Says.no | exact IH (by unfold okB; omega) | refine Says.ite (fun _ => ?_) (fun _ => ?_))
theorem word_says (s : ByteArray) (hs : s.size ≤ 2147483647) : Says (fun k => spec_IsWord.f k s) (WordOk s) := word_l0 s hs s.size 0 (by omega) (fun j hj => by omega)
def agentN : List UInt8 := [97, 103, 101, 110, 116]
def symrefN : List UInt8 := [115, 121, 109, 114, 101, 102]
def plainL : List (List UInt8) := [[109, 117, 108, 116, 105, 95, 97, 99, 107], [109, 117, 108, 116, 105, 95, 97, 99, 107, 95, 100, 101, 116, 97, 105, 108, 101, 100], [110, 111, 45, 100, 111, 110, 101], [116, 104, 105, 110, 45, 112, 97, 99, 107], [115, 105, 100, 101, 45, 98, 97, 110, 100], [115, 105, 100, 101, 45, 98, 97, 110, 100, 45, 54, 52, 107], [111, 102, 115, 45, 100, 101, 108, 116, 97], [115, 104, 97, 108, 108, 111, 119], [110, 111, 45, 112, 114, 111, 103, 114, 101, 115, 115], [105, 110, 99, 108, 117, 100, 101, 45, 116, 97, 103], [114, 101, 112, 111, 114, 116, 45, 115, 116, 97, 116, 117, 115], [100, 101, 108, 101, 116, 101, 45, 114, 101, 102, 115], [113, 117, 105, 101, 116], [97, 116, 111, 109, 105, 99], [97, 108, 108, 111, 119, 45, 116, 105, 112, 45, 115, 104, 97, 49, 45, 105, 110, 45, 119, 97, 110, 116], [97, 108, 108, 111, 119, 45, 114, 101, 97, 99, 104, 97, 98, 108, 101, 45, 115, 104, 97, 49, 45, 105, 110, 45, 119, 97, 110, 116]]
/-- A good capability. -/
structure Good (n : ByteArray) (vs : List ByteArray) : Prop where
  words : ∀ v ∈ vs, WordOk v
  kind : (n.data.toList = agentN ∧ vs.length = 1) ∨ (n.data.toList = symrefN ∧ 1 ≤ vs.length ∧ vs.length ≤ 60) ∨ (n.data.toList ∈ plainL ∧ vs.length = 0)
theorem rdOf_list (l : List ByteArray) (j : Nat) (hj : j < l.length) : rdOf ByteArray.empty l (j : Int) = l[j] := by
  unfold rdOf
  rw [Int.toNat_natCast, List.getD_eq_getElem?_getD, List.getElem?_eq_getElem hj]
  rfl
theorem plain_l1 (P : List ByteArray) (n : ByteArray) (vs : List ByteArray) (hP : P.length ≤ 1000) (hv : ∀ v ∈ vs, WordOk v) (hin : ∀ p ∈ P, p.data.toList ∈ plainL) : ∀ (d i : Nat), i + d = P.length → Says (fun k => spec_goodCap.l1 k P (P.length : Int) (i : Int) n vs) (Good n vs) := by
  intro d
  induction d with
  | zero =>
    intro i hi
    exact Says.step Says.no (fun k => by rw [spec_goodCap.l1, if_neg (by omega)])
  | succ d ih =>
    intro i hi
    have hlt : i < P.length := by omega
    refine Says.step (f := fun k => if n.toList = P[i].toList then some ((vs.length : Int) == 0) else spec_goodCap.l1 k P (P.length : Int) ((i + 1 : Nat) : Int) n vs) ?_ (fun k => by
      rw [spec_goodCap.l1, if_pos (by omega), if_pos (by omega), if_pos (by omega), rdOf_list P i hlt, show wrap64 ((i : Int) + 1) = ((i + 1 : Nat) : Int) by unfold wrap64; omega])
    refine Says.ite (fun h => Says.const _ (fun h2 => ⟨hv, .inr (.inr ⟨?_, ?_⟩)⟩)) (fun _ => ih (i + 1) (by omega))
    · rw [ByteArray.toList_eq, ByteArray.toList_eq] at h
      rw [h]
      exact hin _ (List.getElem_mem hlt)
    · have := beq_iff_eq.1 h2
      omega
theorem good_l0 (n : ByteArray) (vs : List ByteArray) (hl : vs.length ≤ 2147483647) (hs : ∀ v ∈ vs, v.size ≤ 2147483647) : ∀ (d i : Nat), i + d = vs.length → (∀ j (h : j < vs.length), j < i → WordOk vs[j]) → Says (fun k => spec_goodCap.l0 k vs (vs.length : Int) (i : Int) n vs) (Good n vs) := by
  intro d
  induction d with
  | zero =>
    intro i hi hq
    have hv : ∀ v ∈ vs, WordOk v := fun v hv => by
      obtain ⟨j, hj, rfl⟩ := List.getElem_of_mem hv
      exact hq j hj (by omega)
    refine Says.step ?_ (fun k => by rw [spec_goodCap.l0, if_neg (by omega)])
    refine Says.ite (fun h => Says.const _ (fun h2 => ⟨hv, .inl ⟨by rw [← ByteArray.toList_eq]; exact h, ?_⟩⟩)) (fun _ => ?_)
    · have := beq_iff_eq.1 h2
      omega
    refine Says.ite (fun h => Says.ite (fun h1 => Says.const _ (fun h2 => ⟨hv, .inr (.inl ⟨by rw [← ByteArray.toList_eq]; exact h, by omega, by have := of_decide_eq_true h2; omega⟩)⟩)) (fun _ => Says.no)) (fun _ => ?_)
    obtain ⟨P, hP, hPl, hPin⟩ : ∃ P, spec_plainCaps.f = some P ∧ P.length ≤ 1000 ∧ ∀ p ∈ P, p.data.toList ∈ plainL := ⟨_, rfl, by decide, by
      intro p hp
      have : p.data.toList ∈ List.map (fun q : ByteArray => q.data.toList) _ := List.mem_map.2 ⟨p, hp, rfl⟩
      exact this⟩
    rw [hP]
    exact plain_l1 P n vs hPl hv hPin P.length 0 (by omega)
  | succ d ih =>
    intro i hi hq
    have hlt : i < vs.length := by omega
    refine Says.step ?_ (fun k => by rw [spec_goodCap.l0, if_pos (by omega), if_pos (by omega), if_pos (by omega), rdOf_list vs i hlt, show wrap64 ((i : Int) + 1) = ((i + 1 : Nat) : Int) by unfold wrap64; omega])
    refine Says.bind (word_says vs[i] (hs _ (List.getElem_mem hlt))) (fun h => ih (i + 1) (by omega) (fun j hj hji => ?_))
    by_cases e : j = i
    · subst e; exact h
    · exact hq j hj (by omega)
theorem good_says (n : ByteArray) (vs : List ByteArray) (hl : vs.length ≤ 2147483647) (hs : ∀ v ∈ vs, v.size ≤ 2147483647) : Says (fun k => spec_goodCap.f k n vs) (Good n vs) := good_l0 n vs hl hs vs.length 0 (by omega) (fun j hj h => by omega)
structure Small (x : S30) : Prop where
  name : x.f0.size ≤ 2147483647
  most : x.f1.length ≤ 2147483647
  vals : ∀ v ∈ x.f1, v.size ≤ 2147483647
/-- Good capabilities, no two of one name. -/
structure Goods (l : List S30) : Prop where
  good : ∀ x ∈ l, Good x.f0 x.f1
  nd : (l.map (·.f0)).Nodup
  most : l.length ≤ 60
theorem nodup_snoc {l : List S30} {i : Nat} (hi : i < l.length) (h : ((l.take i).map (·.f0)).Nodup) (hn : ∀ j (hj : j < i), (l[j]'(by omega)).f0 ≠ l[i].f0) : ((l.take (i + 1)).map (·.f0)).Nodup := by
  rw [List.take_succ_eq_append_getElem hi, List.map_append]
  refine List.nodup_append.2 ⟨h, List.nodup_cons.2 ⟨List.not_mem_nil, List.nodup_nil⟩, fun a ha b hb e => ?_⟩
  rw [List.map_singleton, List.mem_singleton] at hb
  obtain ⟨x, hx, rfl⟩ := List.mem_map.1 ha
  obtain ⟨j, hj, rfl⟩ := List.getElem_of_mem hx
  rw [List.length_take] at hj
  rw [List.getElem_take] at e
  exact hn j (by omega) (e.trans hb)
theorem goods_l1 (l : List S30) (hl : l.length ≤ 2147483647) (i : Nat) (hi : i < l.length) (IH : (∀ j (hj : j < i), (l[j]'(by omega)).f0 ≠ l[i].f0) → Says (fun k => spec_GoodCaps.l0 k l l (l.length : Int) (wrap64 ((i : Int) + 1))) (Goods l)) :
    ∀ (d j : Nat), j + d = i → (∀ q (hq : q < j) (hi' : q < i), (l[q]'(by omega)).f0 ≠ l[i].f0) → Says (fun k => spec_GoodCaps.l1 k l l (l.length : Int) (i : Int) (l.take i) ((l.take i).length : Int) (j : Int) l[i].f0 l[i].f1) (Goods l) := by
  have hlen : (l.take i).length = i := by rw [List.length_take]; omega
  rw [hlen]
  intro d
  induction d with
  | zero =>
    intro j hj hq
    refine Says.step (IH (fun q hq' => hq q (by omega) hq')) (fun k => by rw [spec_GoodCaps.l1, if_neg (by omega)])
  | succ d ih =>
    intro j hj hq
    have hlt : j < (l.take i).length := by omega
    refine Says.step (f := fun k => if (l[j]'(by omega)).f0.toList = l[i].f0.toList then some false else spec_GoodCaps.l1 k l l (l.length : Int) (i : Int) (l.take i) (i : Int) ((j + 1 : Nat) : Int) l[i].f0 l[i].f1) ?_ (fun k => by
      rw [spec_GoodCaps.l1, if_pos (by omega), if_pos (by omega), if_pos (by omega), rd_list (l.take i) j hlt, List.getElem_take, show wrap64 ((j : Int) + 1) = ((j + 1 : Nat) : Int) by unfold wrap64; omega])
    refine Says.ite (fun _ => Says.no) (fun h => ih (j + 1) (by omega) (fun q hq1 hq2 => ?_))
    by_cases e : q = j
    · subst e
      intro e2
      exact h (by rw [e2])
    · exact hq q (by omega) hq2
theorem goods_l0 (l : List S30) (hl : l.length ≤ 2147483647) (hs : ∀ x ∈ l, Small x) : ∀ (d i : Nat), i + d = l.length → (∀ j (hj : j < l.length), j < i → Good l[j].f0 l[j].f1) → ((l.take i).map (·.f0)).Nodup → Says (fun k => spec_GoodCaps.l0 k l l (l.length : Int) (i : Int)) (Goods l) := by
  intro d
  induction d with
  | zero =>
    intro i hi hq hn
    refine Says.step (Says.const (decide ((l.length : Int) ≤ 60)) (fun h => ⟨fun x hx => ?_, ?_, by have := of_decide_eq_true h; omega⟩)) (fun k => by rw [spec_GoodCaps.l0, if_neg (by omega)])
    · obtain ⟨j, hj, rfl⟩ := List.getElem_of_mem hx
      exact hq j hj (by omega)
    · rwa [List.take_of_length_le (by omega)] at hn
  | succ d ih =>
    intro i hi hq hn
    have hlt : i < l.length := by omega
    have hsm := hs _ (List.getElem_mem hlt)
    refine Says.step (f := fun k => (spec_goodCap.f k l[i].f0 l[i].f1).bind fun t => if t = true then spec_GoodCaps.l1 k l l (l.length : Int) (i : Int) (l.take i) ((l.take i).length : Int) 0 l[i].f0 l[i].f1 else some false) ?_ (fun k => by
      rw [spec_GoodCaps.l0, if_pos (by omega), if_pos (by omega), if_pos (by omega), rd_list l i hlt]
      simp only [Option.bind_some, Int.toNat_natCast, if_pos (show (i : Int) ≤ (l.length : Int) by omega)])
    refine Says.bind (good_says _ _ hsm.most hsm.vals) (fun hg => ?_)
    refine goods_l1 l hl i hlt (fun hne => ?_) i 0 (by omega) (fun q hq => by omega)
    rw [show wrap64 ((i : Int) + 1) = ((i + 1 : Nat) : Int) by unfold wrap64; omega]
    refine ih (i + 1) (by omega) (fun j hj hji => ?_) (nodup_snoc hlt hn hne)
    by_cases e : j = i
    · subst e; exact hg
    · exact hq j hj (by omega)
theorem goods_says (l : List S30) (hl : l.length ≤ 2147483647) (hs : ∀ x ∈ l, Small x) : Says (fun k => spec_GoodCaps.f k l) (Goods l) := goods_l0 l hl hs l.length 0 (by omega) (fun j hj h => by omega) List.nodup_nil
theorem fits16_l0 (l : List ByteArray) (hl : l.length ≤ 2147483647) : ∀ (d i : Nat), i + d = l.length → (∀ j (hj : j < l.length), j < i → l[j].size ≤ 2147483647) → Says (fun k => laws_zzFits16.l0 k l (l.length : Int) (i : Int)) (∀ v ∈ l, v.size ≤ 2147483647) := by
  intro d
  induction d with
  | zero =>
    intro i hi hq
    refine Says.step (Says.const true (fun _ v hv => ?_)) (fun k => by rw [laws_zzFits16.l0, if_neg (by omega)])
    obtain ⟨j, hj, rfl⟩ := List.getElem_of_mem hv
    exact hq j hj (by omega)
  | succ d ih =>
    intro i hi hq
    have hlt : i < l.length := by omega
    refine Says.step (f := fun k => if (l[i].size : Int) > 2147483647 then some false else laws_zzFits16.l0 k l (l.length : Int) ((i + 1 : Nat) : Int)) ?_ (fun k => by
      rw [laws_zzFits16.l0, if_pos (by omega), if_pos (by omega), if_pos (by omega), rdOf_list l i hlt, show wrap64 ((i : Int) + 1) = ((i + 1 : Nat) : Int) by unfold wrap64; omega])
    refine Says.ite (fun _ => Says.no) (fun h => ih (i + 1) (by omega) (fun j hj hji => ?_))
    by_cases e : j = i
    · subst e; omega
    · exact hq j hj (by omega)
theorem fits30_says (n : ByteArray) (vs : List ByteArray) : Says (fun k => laws_zzFits30.f k n vs) (Small ⟨n, vs⟩) := by
  unfold laws_zzFits30.f laws_zzFits16.f
  refine Says.ite (fun _ => Says.no) (fun h1 => ?_)
  refine Says.bind (P := vs.length ≤ 2147483647 ∧ ∀ v ∈ vs, v.size ≤ 2147483647) ?_ (fun h => Says.const true (fun _ => ⟨by simp only; omega, h.1, h.2⟩))
  refine Says.ite (fun _ => Says.no) (fun h2 => ?_)
  exact (fits16_l0 vs (by omega) vs.length 0 (by omega) (fun j hj h => by omega)).mono (fun h => ⟨by omega, h⟩)
theorem fits29_l0 (l : List S30) (hl : l.length ≤ 2147483647) : ∀ (d i : Nat), i + d = l.length → (∀ j (hj : j < l.length), j < i → Small l[j]) → Says (fun k => laws_zzFits29.l0 k l (l.length : Int) (i : Int)) (∀ x ∈ l, Small x) := by
  intro d
  induction d with
  | zero =>
    intro i hi hq
    refine Says.step (Says.const true (fun _ v hv => ?_)) (fun k => by rw [laws_zzFits29.l0, if_neg (by omega)])
    obtain ⟨j, hj, rfl⟩ := List.getElem_of_mem hv
    exact hq j hj (by omega)
  | succ d ih =>
    intro i hi hq
    have hlt : i < l.length := by omega
    refine Says.step ?_ (fun k => by rw [laws_zzFits29.l0, if_pos (by omega), if_pos (by omega), if_pos (by omega), rd_list l i hlt, show wrap64 ((i : Int) + 1) = ((i + 1 : Nat) : Int) by unfold wrap64; omega])
    refine Says.bind (fits30_says _ _) (fun h => ih (i + 1) (by omega) (fun j hj hji => ?_))
    by_cases e : j = i
    · subst e; exact h
    · exact hq j hj (by omega)
theorem fits_says (l : List S30) : Says (fun k => laws_zzFits29.f k l) (l.length ≤ 2147483647 ∧ ∀ x ∈ l, Small x) := by
  unfold laws_zzFits29.f
  refine Says.ite (fun _ => Says.no) (fun h => ?_)
  exact (fits29_l0 l (by omega) l.length 0 (by omega) (fun j hj h => by omega)).mono (fun h2 => ⟨by omega, h2⟩)
theorem plain_ok : ∀ x ∈ plainL, decide (x ∈ knownL) = true ∧ decide (x ∈ requiresL) = false ∧ x.length ≤ 1000 ∧ 0 < x.length := by decide
theorem Good.args {n : ByteArray} {vs : List ByteArray} (h : Good n vs) : ArgsOk n vs := by
  have hw : ∀ s ∈ vs, s.size ≠ 0 := fun s hs => by have := (h.words s hs).pos; omega
  have hsz : n.size = n.data.toList.length := rfl
  rcases h.kind with ⟨e, h1⟩ | ⟨e, h1, h2⟩ | ⟨e, h1⟩
  · exact ⟨by rw [hsz, e]; decide, by rw [e]; decide, (fun _ e2 => by rw [e2] at h1; cases h1), (fun h3 => by rw [e] at h3; cases h3), (fun _ => by omega), hw, by omega⟩
  · exact ⟨by rw [hsz, e]; decide, by rw [e]; decide, (fun _ e2 => by rw [e2] at h1; simp at h1), (fun h3 => by rw [e] at h3; cases h3), (fun h3 => by rw [e] at h3; cases h3), hw, by omega⟩
  · obtain ⟨k1, k2, k3, k4⟩ := plain_ok _ e
    exact ⟨by rw [hsz]; exact k3, k1, (fun h3 => by rw [k2] at h3; cases h3), (fun _ => List.eq_nil_of_length_eq_zero h1), (fun _ => by omega), hw, by omega⟩
theorem Good.pos {n : ByteArray} {vs : List ByteArray} (h : Good n vs) : 0 < n.size := by
  have hsz : n.size = n.data.toList.length := rfl
  rcases h.kind with ⟨e, h1⟩ | ⟨e, h1, h2⟩ | ⟨e, h1⟩
  · rw [hsz, e]; decide
  · rw [hsz, e]; decide
  · obtain ⟨k1, k2, k3, k4⟩ := plain_ok _ e
    rw [hsz]; exact k4
theorem Goods.caps {l : List S30} (h : Goods l) : ∀ x ∈ l, CapOk x := fun x hx =>
  have ha := (h.good x hx).args
  ⟨ha.size, fun s hs => by have := ((h.good x hx).words s hs).most; omega, ha.most⟩
theorem Goods.full {l : List S30} (h : Goods l) : ∀ s ∈ itemsP l, 0 < s.size := by
  intro s hs
  obtain ⟨x, hx, hs⟩ := List.mem_flatMap.1 hs
  have hp := (h.good x hx).pos
  unfold items at hs
  split at hs
  · rw [List.mem_singleton.1 hs]; exact hp
  · obtain ⟨v, hv', rfl⟩ := List.mem_map.1 hs
    rw [ByteArray.size_append, ByteArray.size_append]
    omega
end
section
open Go.RowKit Go.Proofs.YtdobblddnfalcaaDoorW.PrintWords Go.Proofs.YtdobblddnfalcaaDoorW.PrintLast Go.Proofs.YtdobblddnfalcaaDoorW.PrintMore Go.Proofs.YtdobblddnfalcaaDoor.off Go.Proofs.YtdobblddnfalcaaDoor.mapq Go.Proofs.YtdobblddnfalcaaDoor.PFnCapsWritten Go.Proofs.YtdobblddnfalcaaDoor.pkt
set_option linter.unusedVariables false
set_option linter.unusedSimpArgs false
set_option maxHeartbeats 2000000
set_option maxRecDepth 100000
theorem sig_items {rows : List Row} {l : List S30} (h : sig rows = pairs l) : itemsOf rows = itemsP l := by
  have e1 : itemsOf rows = (sig rows).flatMap fun q => items q.1 q.2 := by
    unfold itemsOf sig
    rw [List.flatMap_map]
  have e2 : itemsP l = (pairs l).flatMap fun q => items q.1 q.2 := by
    unfold itemsP pairs
    rw [List.flatMap_map]
  rw [e1, e2, h]
theorem sig_rowOk {rows : List Row} {l : List S30} (h : sig rows = pairs l) (hl : ∀ x ∈ l, CapOk x) : ∀ r ∈ rows, RowOk r := by
  intro r hr
  have h1 : (r.name, r.vs) ∈ sig rows := List.mem_map.2 ⟨r, hr, rfl⟩
  rw [h] at h1
  obtain ⟨x, hx, e⟩ := List.mem_map.1 h1
  injection e with e1 e2
  have hx' := hl x hx
  exact ⟨by rw [← e1]; exact hx'.name, by rw [← e2]; exact hx'.vals, by rw [← e2]; exact hx'.most⟩
theorem implText_any (w : World) (A : Option Addr) (cc : Nat) (l : List S30) (hC : Kd.C k30 w A l.length l) (hg : Goods l) :
    Calls Tryd.prog 8 #[.slice A l.length cc] w fun e w' => e = .returned (.tuple #[.string (joinB (itemsP l)), .bool true]) ∧ Below w.heap.size w w' := by
  have HL := Aside0.mk (capList_any w A cc l hC (fun x hx => (hg.good x hx).args) hg.nd (by have := hg.most; omega))
  have HG := Aside0.mk hg
  clear hC hg
  go_enter Tryd.func8, Tryd.ntmps8
  go_wp2_with fail
  refine HL.out.mono ?_
  rintro e w1 ⟨gl, gm, sv, rows, rfl, hL, hs, hb⟩
  have HB1 := Aside0.mk hb
  have hi := sig_items hs
  have hm := HG.out.most
  have HS := Aside0.mk (listString_any w1 gl gm sv rows hL.s (by rw [sig_names hs]; exact HG.out.nd) (sig_rowOk hs HG.out.caps) (by rw [sig_len hs]; omega) (fun W A c hb h => by
    rw [hi] at h ⊢
    exact join_any _ (itemsP_size l HG.out.caps) (Nat.le_trans (itemsP_len l HG.out.caps) (by omega)) W A c h))
  rw [hi] at HS
  clear hb hL hs hi hm
  go_wp2_with fail
  refine HS.out.mono ?_
  rintro e w2 ⟨rfl, hb⟩
  have HB2 := Aside0.mk (below_step HB1.out hb)
  clear hb
  go_wp2_with fail
  go_ret2
  exact ⟨rfl, HB2.out⟩
theorem written_law (w : World) (A : Option Addr) (n cc : Nat) (l : List S30) (hC : Kd.C k30 w A l.length l) (hn : l.length = n) (hcc : n ≤ cc) (a1 a2 a3 : Addr) (hE : Errs w a1 a2 a3) :
    Calls Tryd.prog 3 #[.slice A n cc] w fun e w' => e = .returned (.bool true) ∧ Below w.heap.size w w' := by
  subst hn
  have HC := Aside0.mk hC
  have HW := Aside0.mk (fun W (hb : Below w.heap.size w W) => pktWorks_any W a1 a2 a3 (hE.below hb))
  obtain ⟨F0, b0, hf0, hq0⟩ := fits_says l
  have HF := Aside0.mk (laws_zzFits29.calls _ A cc l b0 w hC hcc (hf0 F0 (Nat.le_refl _)))
  clear hC hE hf0
  cases b0 with
  | false =>
    go_enter Tryd.func3, Tryd.ntmps3
    go_wp2_with fail
    refine HF.out.mono ?_
    rintro e w1 ⟨rfl, hb⟩
    have HB := Aside0.mk hb
    clear hb
    go_wp2_with fail
    go_ret
    exact ⟨rfl, HB.out⟩
  | true =>
    obtain ⟨hl, hsm⟩ := hq0 rfl
    obtain ⟨F1, b1, hf1, hq1⟩ := goods_says l hl hsm
    have HG := Aside0.mk (fun W (hb : Below w.heap.size w W) => spec_GoodCaps.calls _ A cc l b1 W (Kd.C_below HC.out hb) hcc (hf1 F1 (Nat.le_refl _)))
    clear hq0 hl hsm hf1 hcc
    cases b1 with
    | false =>
      clear hq1
      go_enter Tryd.func3, Tryd.ntmps3
      go_wp2_with fail
      refine HF.out.mono ?_
      rintro e w1 ⟨rfl, hb⟩
      have HB1 := Aside0.mk hb
      clear hb
      go_wp2_with fail
      refine (HG.out _ HB1.out).mono ?_
      rintro e w2 ⟨rfl, hb⟩
      have HB2 := Aside0.mk (below_step HB1.out hb)
      clear hb
      go_wp2_with fail
      refine (HW.out _ HB2.out).mono ?_
      rintro e w3 ⟨rfl, hb⟩
      have HB3 := Aside0.mk (below_step HB2.out hb)
      clear hb
      go_wp2_with fail
      go_ret
      exact ⟨rfl, HB3.out⟩
    | true =>
      have HGD := Aside0.mk (hq1 rfl)
      clear hq1
      have HI := Aside0.mk (fun W (hb : Below w.heap.size w W) => implText_any W A cc l (Kd.C_below HC.out hb) HGD.out)
      have HT := Aside0.mk (fun W (hb : Below w.heap.size w W) => capsText_any W A cc l (Kd.C_below HC.out hb) HGD.out.caps (by have := HGD.out.most; omega))
      rw [fold_join _ HGD.out.full] at HT
      generalize joinB (itemsP l) = s at HI HT
      have c0 : (s.toList == s.toList) = true := beq_self_eq_true _
      go_enter Tryd.func3, Tryd.ntmps3
      go_wp2_with fail
      refine HF.out.mono ?_
      rintro e w1 ⟨rfl, hb⟩
      have HB1 := Aside0.mk hb
      clear hb
      go_wp2_with fail
      refine (HG.out _ HB1.out).mono ?_
      rintro e w2 ⟨rfl, hb⟩
      have HB2 := Aside0.mk (below_step HB1.out hb)
      clear hb
      go_wp2_with fail
      refine (HI.out _ HB2.out).mono ?_
      rintro e w3 ⟨rfl, hb⟩
      have HB3 := Aside0.mk (below_step HB2.out hb)
      clear hb
      go_wp2_with fail
      refine (HT.out _ HB3.out).mono ?_
      rintro e w4 ⟨rfl, hb⟩
      have HB4 := Aside0.mk (below_step HB3.out hb)
      clear hb
      go_wp2_with fail
      refine (HW.out _ HB4.out).mono ?_
      rintro e w5 ⟨rfl, hb⟩
      have HB5 := Aside0.mk (below_step HB4.out hb)
      clear hb
      go_wp2_with fail
      go_ret
      exact ⟨rfl, HB5.out⟩
end
end Go.Proofs.YtdobblddnfalcaaDoor.cap
