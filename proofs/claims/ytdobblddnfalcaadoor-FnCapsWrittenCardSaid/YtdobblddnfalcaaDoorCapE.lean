/- Capabilities: a list of them out of what came in; its text. -/
import Derived.Test.YtdobblddnfalcaaDoorCapD
namespace Go.Proofs.YtdobblddnfalcaaDoor.cap
open Go.RowKit Go.Proofs.YtdobblddnfalcaaDoorW.PrintWords Go.Proofs.YtdobblddnfalcaaDoorW.PrintLast Go.Proofs.YtdobblddnfalcaaDoorW.PrintMore Go.Proofs.YtdobblddnfalcaaDoor.off Go.Proofs.YtdobblddnfalcaaDoor.mapq Go.Proofs.YtdobblddnfalcaaDoor.PFnCapsWritten
set_option linter.unusedVariables false
set_option linter.unusedSimpArgs false
set_option maxHeartbeats 2000000
set_option maxRecDepth 100000
theorem kstr_src {w : World} {A : Option Addr} {xs : List ByteArray} (h : Kd.string.C w A xs.length xs) : Src w A xs.length (strs xs) :=
  ⟨strs_len xs, fun j u hj => by
    have hlt : j < xs.length := by
      have := (List.getElem?_eq_some_iff.1 hj).1
      rwa [strs_len] at this
    obtain ⟨ad, c, e, _, hK, hc0⟩ := Kd.C_get h ByteArray.empty (j : Int) (by omega) (by omega)
    have hc : c = [.string (xs.getD (j : Int).toNat ByteArray.empty)] := hK
    have := hc0 0 _ (by rw [hc]; rfl)
    rw [strs_get xs j hlt] at hj
    injection hj with hj
    refine ⟨ad, e, ?_⟩
    rw [← hj]
    have e1 : xs.getD (j : Int).toNat ByteArray.empty = xs[j] := by rw [Int.toNat_natCast, List.getD_eq_getElem?_getD, List.getElem?_eq_getElem hlt]; rfl
    rw [e1, show (j : Int).toNat * Kd.string.sz + 0 = j from by show (j : Int).toNat * 1 + 0 = j; omega] at this
    exact this, str_one xs⟩
/-- One text more behind texts of one's own. -/
theorem push_str {base : Nat} {W : World} {v : Value} {xs : List ByteArray} (h : Slc W v (strs xs)) (hr : ∀ k, v.ownBlock = some k → base ≤ k) (hbase : base ≤ W.heap.size) (x : ByteArray) (hl : xs.length ≤ 100000000) :
    ∃ A1 c1 w2, (Builtin.append_ #[28, 28] 28 #[v, .slice (some ⟨W.heap.size, 0, none⟩) 1 1]).run Tryd.prog (W.alloc (.cells #[.string x] 9 (0, 0))) = .ok (.slice A1 (xs.length + 1) c1) w2 ∧
      Slc w2 (.slice A1 (xs.length + 1) c1) (strs (xs ++ [x])) ∧ (∀ k, (Value.slice A1 (xs.length + 1) c1).ownBlock = some k → base ≤ k) ∧ Below base W w2 := by
  have hal : Below W.heap.size W (W.alloc (.cells #[.string x] 9 (0, 0))) := below_alloc (Below.refl _ _) _
  have hs1 := h.keep hal.size (fun k hk => hal.block k (h.blk k hk))
  obtain ⟨v1, w2, hrun, hsl, hof, hfr⟩ := appendStr (c := 1) 28 hs1 (new_src W (.string x) 9 rfl) (by rw [strs_len]; omega)
  obtain ⟨A1, c1, hv1, hc1⟩ := Slc_shape hsl
  rw [List.length_append, strs_len, List.length_singleton] at hv1
  subst hv1
  have hs : (W.alloc (.cells #[.string x] 9 (0, 0))).heap.size = W.heap.size + 1 := by simp
  refine ⟨A1, c1, w2, hrun, by rw [strs, List.map_append]; exact hsl, fun k hk => ?_, ?_⟩
  · rcases hfr with hfr | ⟨q, hq, hlt⟩
    · exact hr k (by rw [← hfr]; exact hk)
    · rw [hq] at hk; cases hk; omega
  · have hb0 : Below base W (W.alloc (.cells #[.string x] 9 (0, 0))) := ⟨hal.os, hal.tape, hal.output, hal.size, fun k hk => hal.block k (by omega)⟩
    exact hb0.trans (hof.below (base := base) (by omega) (fun k hk => hr k hk))
def itemsOf (rows : List Row) : List ByteArray := rows.flatMap fun r => items r.name r.vs
/-- What is asked of a list's capabilities, for its text. -/
structure RowOk (r : Row) : Prop where
  name : r.name.size ≤ 1000
  vals : ∀ s ∈ r.vs, s.size ≤ 1000
  most : r.vs.length ≤ 1000
theorem items_len (c : ByteArray) (vs : List ByteArray) (h : vs.length ≤ 1000) : (items c vs).length ≤ 1000 := by
  unfold items
  split
  · simp
  · simpa using h
theorem itemsOf_len : ∀ (rows : List Row), (∀ r ∈ rows, RowOk r) → (itemsOf rows).length ≤ rows.length * 1000
  | [], _ => by simp [itemsOf]
  | r :: t, h => by
    have h1 := itemsOf_len t (fun q hq => h q (List.mem_cons_of_mem _ hq))
    have h2 := items_len r.name r.vs (h r List.mem_cons_self).most
    unfold itemsOf at h1 ⊢
    rw [List.flatMap_cons, List.length_append, List.length_cons]
    omega
theorem take_items (rows : List Row) (j : Nat) (hj : j < rows.length) : itemsOf (rows.take (j + 1)) = itemsOf (rows.take j) ++ items rows[j].name rows[j].vs := by
  unfold itemsOf
  rw [List.take_succ_eq_append_getElem hj, List.flatMap_append]
  simp
theorem name_mem {rows : List Row} {r : Row} (hr : r ∈ rows) (hnd : (rows.map (·.name)).Nodup) : find rows r.name = some r.ge := by
  unfold find
  induction rows with
  | nil => cases hr
  | cons q t ih =>
    rw [List.map_cons, List.nodup_cons] at hnd
    rw [List.find?_cons]
    rcases List.mem_cons.1 hr with rfl | hr
    · rw [name_eq.2 rfl]; rfl
    · have hne : (q.name.data.toList == r.name.data.toList) = false := by
        rw [← Bool.not_eq_true]
        intro h
        exact hnd.1 (by rw [name_eq.1 h]; exact List.mem_map.2 ⟨r, hr, rfl⟩)
      rw [hne]
      exact ih hr hnd.2
theorem listString_any (w : World) (gl gm : Nat) (sv : Value) (rows : List Row) (h : CapS w gl gm sv (rows.map (·.name)) rows) (hnd : (rows.map (·.name)).Nodup) (hok : ∀ r ∈ rows, RowOk r) (hn : rows.length ≤ 1000)
    (hJ : ∀ W A c, Below w.heap.size w W → Slc W (.slice A (itemsOf rows).length c) (strs (itemsOf rows)) → Calls Tryd.prog 32 #[.slice A (itemsOf rows).length c, .string ⟨#[32]⟩] W fun e w' => e = .returned (.string (joinB (itemsOf rows))) ∧ Below W.heap.size W w') :
    Calls Tryd.prog 17 #[.pointer (some ⟨gl, 0, none⟩)] w fun e w' => e = .returned (.string (joinB (itemsOf rows))) ∧ Below w.heap.size w w' := by
  obtain ⟨As, cs, hsv, _⟩ := Slc_shape h.sort
  rw [strs_len, List.length_map] at hsv
  subst hsv
  have HS := Aside0.mk h
  have HND := Aside0.mk hnd
  have HOK := Aside0.mk hok
  have HJ := Aside0.mk hJ
  have q1 := (blk_cell h.list 1).trans (show _ = some (Value.slice As rows.length cs) from rfl)
  clear h hnd hok hJ
  go_enter Tryd.func17, Tryd.ntmps17
  go_wp2_with fail
  go_loopg [3, 14] (rows.length + 1) (fun kq v3 v14 w' => ∃ (j : Nat) (ov : Value), ov = v3 ∧ v14 = .int .i64 (j : Int) ∧ j ≤ rows.length ∧ Aside0 (kq + j = rows.length + 1) ∧ Aside0 (Slc w' ov (strs (itemsOf (rows.take j)))) ∧ Aside0 (∀ k, ov.ownBlock = some k → w.heap.size ≤ k) ∧ Aside0 (Below w.heap.size w w'))
  case atStart => exact ⟨0, _, rfl, rfl, Nat.zero_le _, ⟨by omega⟩, ⟨.inl ⟨rfl, rfl⟩⟩, ⟨fun k hk => by cases hk⟩, ⟨Below.refl _ _⟩⟩
  case round =>
    clear q1
    obtain ⟨j, ov, hov, rfl, hj, HK, HO, HP, HB⟩ := hrel
    subst hov
    cases gk with
    | zero => exact absurd HK.out (by omega)
    | succ k1 =>
      obtain ⟨wo, hwo⟩ : ∃ wo : World, wo = wr := ⟨_, rfl⟩
      subst hwo
      by_cases hlt : j < rows.length
      · have p1 : 0 ≤ (j : Int) := by omega
        have q1 : (j : Int) < (rows.length : Int) := by omega
        have c0 : decide ((j : Int) < (rows.length : Int)) = true := decide_eq_true q1
        have c1 : decide (j < rows.length) = true := decide_eq_true hlt
        have w1 : wrap64 ((j : Int) + 1) = (j : Int) + 1 := off.w64 (by omega) (by omega)
        have HSr := Aside0.mk (HS.out.below HB.out)
        obtain ⟨ad, rfl, hc⟩ := (slc_src HSr.out.sort).rd j _ (strs_get _ j (by rw [List.length_map]; exact hlt))
        rw [List.getElem_map] at hc
        have HTI := Aside0.mk (take_items rows j hlt)
        have HLN := Aside0.mk (itemsOf_len (rows.take j) (fun r hr => HOK.out r (List.mem_of_mem_take hr)))
        have hmem := List.getElem_mem hlt
        have hro := HOK.out _ hmem
        have hRA := HSr.out.row _ hmem
        have hRW := HS.out.row _ hmem
        have hfd := name_mem hmem HND.out
        obtain ⟨r, hr⟩ : ∃ r, rows[j] = r := ⟨_, rfl⟩
        rw [hr] at hc HTI hro hRA hfd hRW
        obtain ⟨nm, ge, rv, vs⟩ := r
        obtain ⟨Av, cv, hrv, _⟩ := Slc_shape hRA.slc
        rw [strs_len] at hrv
        simp only at hrv
        subst hrv
        have q0 := (blk_cell HSr.out.list 0).trans (show _ = some (Value.map (some gm)) from rfl)
        have hl8 : (Instr.lookup 62 (.map (some gm)) (.string nm) false).run Tryd.prog wo = .ok (.pointer (some ⟨ge, 0, none⟩)) wo := by
          have := HSr.out.map.look1 Tryd.underlying50 Tryd.underlying62 (zeroPtr wo) nm (Nat.le_trans hro.name (by decide))
          rw [hfd] at this
          exact this
        have q2 := (blk_cell hRA.cells 1).trans (show _ = some (Value.slice Av vs.length cv) from rfl)
        have HRO := Aside0.mk hro
        have HRW := Aside0.mk hRW
        clear hr hmem hro hRA hfd hRW
        by_cases hv : vs.length = 0
        · obtain rfl : vs = [] := List.eq_nil_of_length_eq_zero hv
          have d0 : (((0 : Nat) : Int) == 0) = true := rfl
          obtain ⟨A4, c4, w4, hr4, hs4, ho4, hb4⟩ := push_str HO.out HP.out HB.out.size nm (by have := HLN.out; rw [List.length_take] at this; omega)
          have HR4 := Aside0.mk hr4
          have HS4 := Aside0.mk hs4
          have HP4 := Aside0.mk ho4
          have HB4 := Aside0.mk (HB.out.trans hb4)
          clear hr4 hs4 ho4 hb4 hv
          go_wp2_with (first | ((with_reducible refine gate_builtin (b := .append) (xs := #[.tmp 30, .tmp 32]) rfl ?_); at_builtin; go_must (refine wpList_append_run rfl (.tmp 30) (.tmp 32) 28 rfl _ _ rfl rfl HR4.out ?_)) | fail)
          go_roundg k1
          case measure => have := HK.out; omega
          case rel => exact ⟨j + 1, _, rfl, by go_num, hlt, ⟨by have := HK.out; omega⟩, ⟨by rw [HTI.out]; exact HS4.out⟩, HP4, HB4⟩
        · have d0 : ((vs.length : Int) == 0) = false := beq_eq_false_iff_ne.2 (by omega)
          have d1 : (vs.length == 0) = false := beq_eq_false_iff_ne.2 hv
          have HIT := Aside0.mk (show items nm vs = vs.map fun v => (nm ++ (⟨#[61]⟩ : ByteArray)) ++ v by unfold items; rw [if_neg (fun e => hv (by rw [e]; rfl))])
          have HO0 := Aside0.mk HO.out
          clear hv
          go_wp2_with fail
          clear q0 hl8 q2 hc
          go_loopg [3, 39] (vs.length + 1) (fun kq v3 v39 w' => ∃ (i : Nat) (ov : Value), ov = v3 ∧ v39 = .int .i64 (i : Int) ∧ i ≤ vs.length ∧ Aside0 (kq + i = vs.length + 1) ∧ Aside0 (Slc w' ov (strs (itemsOf (rows.take j) ++ (items nm vs).take i))) ∧ Aside0 (∀ k, ov.ownBlock = some k → w.heap.size ≤ k) ∧ Aside0 (Below w.heap.size w w'))
          case atStart => exact ⟨0, _, rfl, rfl, Nat.zero_le _, ⟨by omega⟩, ⟨by simpa using HO.out⟩, HP, HB⟩
          case round =>
            clear HO HP HO0 d0 d1 HSr
            obtain ⟨i, ov2, hov2, rfl, hi, HKi, HO, HP, HBw⟩ := hrel
            subst hov2
            cases gk with
            | zero => exact absurd HKi.out (by omega)
            | succ k2 =>
              by_cases hli : i < vs.length
              · have p2 : 0 ≤ (i : Int) := by omega
                have q2 : (i : Int) < (vs.length : Int) := by omega
                have d0 : decide ((i : Int) < (vs.length : Int)) = true := decide_eq_true q2
                have d1 : decide (i < vs.length) = true := decide_eq_true hli
                have w2 : wrap64 ((i : Int) + 1) = (i : Int) + 1 := off.w64 (by omega) (by have := HRO.out.most; simp only at this; omega)
                obtain ⟨av, rfl, hc2⟩ := (Src.below (slc_src HRW.out.slc) HBw.out).rd i _ (strs_get vs i hli)
                have hvs := HRO.out.vals _ (List.getElem_mem hli)
                have HTI2 := Aside0.mk (show (items nm vs).take (i + 1) = (items nm vs).take i ++ [(nm ++ (⟨#[61]⟩ : ByteArray)) ++ vs[i]] by
                  rw [HIT.out, ← List.map_take, ← List.map_take, List.take_succ_eq_append_getElem hli, List.map_append]
                  rfl)
                obtain ⟨x, hx⟩ : ∃ x, vs[i] = x := ⟨_, rfl⟩
                rw [hx] at hc2 HTI2 hvs
                have hnm : nm.size ≤ 1000 := HRO.out.name
                have s1 : (nm.size : Int) ≤ 1000 := by omega
                have s2 : (x.size : Int) ≤ 1000 := by omega
                obtain ⟨ys, hys⟩ : ∃ ys, itemsOf (rows.take j) ++ (items nm vs).take i = ys := ⟨_, rfl⟩
                have hyl : ys.length ≤ 10000000 := by
                  have := HLN.out
                  have := HRO.out.most
                  simp only at this
                  rw [← hys, List.length_append, HIT.out, List.length_take, List.length_map]
                  rw [List.length_take] at *
                  omega
                rw [hys] at HO
                have HTI3 := Aside0.mk (show itemsOf (rows.take j) ++ (items nm vs).take (i + 1) = ys ++ [(nm ++ (⟨#[61]⟩ : ByteArray)) ++ x] by rw [HTI2.out, ← List.append_assoc, hys])
                clear hys
                obtain ⟨A4, c4, w4, hr4, hs4, ho4, hb4⟩ := push_str HO.out HP.out HBw.out.size ((nm ++ (⟨#[61]⟩ : ByteArray)) ++ x) (by omega)
                have HR4 := Aside0.mk hr4
                have HS4 := Aside0.mk hs4
                have HP4 := Aside0.mk ho4
                have HB5 := Aside0.mk (HBw.out.trans hb4)
                clear hr4 hs4 ho4 hb4 hx
                go_wp2_with (first | ((with_reducible refine gate_builtin (b := .append) (xs := #[.tmp 43, .tmp 48]) rfl ?_); at_builtin; go_must (refine wpList_append_run rfl (.tmp 43) (.tmp 48) 28 rfl _ _ rfl rfl HR4.out ?_)) | fail)
                go_roundg k2
                case measure => have := HKi.out; omega
                case rel => exact ⟨i + 1, _, rfl, by go_num, hli, ⟨by have := HKi.out; omega⟩, ⟨by rw [HTI3.out]; exact HS4.out⟩, HP4, HB5⟩
              · have d0 : decide ((i : Int) < (vs.length : Int)) = false := decide_eq_false (by omega)
                have d1 : decide (i < vs.length) = false := decide_eq_false hli
                have HTA := Aside0.mk (show (items nm vs).take i = items nm vs from List.take_of_length_le (by rw [HIT.out, List.length_map]; omega))
                rw [HTA.out, ← HTI.out] at HO
                go_wp2_with fail
                go_roundg k1
                case measure => have := HK.out; omega
                case rel => exact ⟨j + 1, _, rfl, by go_num, hlt, ⟨by have := HK.out; omega⟩, HO, HP, HBw⟩
      · have c0 : decide ((j : Int) < (rows.length : Int)) = false := decide_eq_false (by omega)
        have c1 : decide (j < rows.length) = false := decide_eq_false hlt
        have HT := Aside0.mk (show rows.take j = rows from List.take_of_length_le (by omega))
        rw [HT.out] at HO
        obtain ⟨Ao, co, hov, _⟩ := Slc_shape HO.out
        rw [strs_len] at hov
        subst hov
        have HJ2 := Aside0.mk (HJ.out _ _ _ HB.out HO.out)
        go_wp2_with fail
        refine HJ2.out.mono ?_
        rintro e w2 ⟨rfl, hb⟩
        have HB2 := Aside0.mk (below_step HB.out hb)
        clear hb
        go_wp2_with fail
        go_ret
        exact ⟨rfl, HB2.out⟩
end Go.Proofs.YtdobblddnfalcaaDoor.cap
