/- Shallow lines: impl.textsOf, impl.ReadShallow. -/
import Derived.Test.YthjeihbnlfnkcaaDoorShD
import Derived.Deep.MidRow
namespace Go.Proofs.YthjeihbnlfnkcaaDoor.shal
open Go.RowKit Go.Lib Go.Proofs.YthjeihbnlfnkcaaDoorW.PrintWords Go.Proofs.YthjeihbnlfnkcaaDoorW.PrintLast Go.Proofs.YthjeihbnlfnkcaaDoorW.PrintMore Go.Proofs.YthjeihbnlfnkcaaDoor.PFnProtoShallowRead Go.Proofs.YthjeihbnlfnkcaaDoor.pkt Go.Proofs.YthjeihbnlfnkcaaDoor.hash
set_option linter.unusedVariables false
set_option linter.unusedSimpArgs false
set_option maxHeartbeats 2000000
set_option maxRecDepth 100000
theorem infoS : (Tryd.prog.info? 9).map (fun i => (i.zero, i.size, i.bytes)) = some (some (.string ⟨#[]⟩), 1, 16) := by kernel_rfl
theorem info20L {cs : List Value} (h : cs.length = 20) : (Tryd.prog.info? 85).map (·.size) = some cs.length := by
  have hi : (Tryd.prog.info? 85).map (·.size) = some 20 := by kernel_rfl
  rw [hi, h]
theorem str_raw {s : ByteArray} (h : name40 s = true) : (⟨(Hx.encode (raw s)).toArray⟩ : ByteArray) = s := by
  rw [(raw_says h).2.2]
theorem textsOf_any (w : World) (A : Option Addr) (c base : Nat) (l : List ByteArray) (hR : kH.R 85 w base (fun _ => True) (.slice A l.length c) l) (hl : l.length ≤ 1000) :
    Calls Tryd.prog 28 #[.slice A l.length c] w fun e w' => ∃ A' c', e = .returned (.slice A' l.length c') ∧ l.length ≤ c' ∧ Kd.string.C w' A' l.length l ∧ Below w.heap.size w w' := by
  have HR := Aside0.mk hR
  have HB0 := Aside0.mk (Below.refl w.heap.size w)
  clear hR
  go_enter Tryd.func28, Tryd.ntmps28
  go_wp2_with fail
  go_loopg [3, 8] (l.length + 1) (fun kq v3 v8 w' => ∃ (j : Nat) (ov : Value), ov = v3 ∧ v8 = .int .i64 (j : Int) ∧ j ≤ l.length ∧ Aside0 (kq + j = l.length + 1) ∧ Aside0 (Kd.string.R 9 w' w.heap.size (fun _ => True) ov (l.take j)) ∧ Aside0 (Below w.heap.size w w'))
  case atStart => exact ⟨0, _, rfl, rfl, Nat.zero_le _, ⟨by omega⟩, ⟨Kd.R_nil _ _ _ _ _⟩, HB0⟩
  case round =>
    clear HB0
    obtain ⟨j, ov, hov, rfl, hj, HK, HO, HB⟩ := hrel
    subst hov
    cases gk with
    | zero => exact absurd HK.out (by omega)
    | succ k1 =>
      by_cases hlt : j < l.length
      · have c0 : decide ((j : Int) < (l.length : Int)) = true := decide_eq_true (by omega)
        have c1 : decide (j < l.length) = true := decide_eq_true hlt
        have p1 : (0 : Int) ≤ (j : Int) := by omega
        have p2 : (j : Int) < (l.length : Int) := by omega
        have w1 : wrap64 ((j : Int) + 1) = (j : Int) + 1 := w64 (by omega) (by omega)
        obtain ⟨g, cap, hv, _, _, _⟩ := Kd.R_form HR.out (by omega)
        injection hv with hA _ hcap
        subst hA hcap
        obtain ⟨ad, cs, e, hcl, hK, hcc⟩ := Kd.C_get (Kd.C_below (Kd.R_reads' HR.out).2.2 HB.out) ByteArray.empty (j : Int) p1 p2
        injection e with e
        subst e
        obtain ⟨s, hs⟩ : ∃ s, l[j] = s := ⟨_, rfl⟩
        rw [Int.toNat_natCast, List.getD_eq_getElem?_getD, List.getElem?_eq_getElem hlt, hs] at hK
        obtain ⟨hn, rfl⟩ := hK
        have HN := Aside0.mk (show name40 s = true from hn)
        have HC20 := Aside0.mk (show (cells (raw s)).length = 20 from hcl)
        have HCC := Aside0.mk (show wr.rangeAt g (j * 20) (cells (raw s)) from fun k v hv => by
          have := hcc k v hv
          rw [Int.toNat_natCast] at this
          have h2 : wr.cell? ((⟨g, 0, none⟩ : Addr).add (j * 20 + k)) = some v := this
          simpa [Addr.add_lit] using h2)
        have HST := Aside0.mk (show l.take (j + 1) = l.take j ++ [s] from by rw [take_snoc hlt, hs])
        have hall : (cells (raw s)).toArray.all (·.oneCell') = true := by
          rw [Array.all_eq_true']
          intro v hv
          exact cells_one _ v (by simpa using hv)
        have HALL := Aside0.mk hall
        clear hs hcl hcc hn hall
        go_wp2_with (first | ((with_reducible show wpList _ _ _ (⟨some 11, _, _, _, _, _⟩ :: _) _ _); go_must (refine wpList_load_mid rfl 85 (.tmp 10) rfl g (j * 20) (by first | rfl | (simp [Act.eval, Act.put, Addr.add]; done)) (cells (raw s)) _ HCC.out Tryd.underlying85 rfl (info20L HC20.out) ?_)) | ((with_reducible show wpList _ _ _ (⟨none, .store _ _ _, _, _, _, _⟩ :: _) _ _); go_must (refine wpList_store_row rfl 85 (.tmp 5) (.tmp 11) rfl wr.heap.size (cells (raw s)).toArray rfl rfl 85 _ (heap_alloc_new wr _) (info20 (raw_says HN.out).2.1) (by have := HC20.out; simp [this]) HALL.out ?_)) | ((with_reducible show wpList _ _ _ (⟨some 13, _, _, _, _, _⟩ :: _) _ _); go_must (refine wpList_load_row rfl 85 (.tmp 5) rfl wr.heap.size rfl 85 (cells (raw s)).toArray (0, 0) _ (setRow_heap _ wr.heap.size _ _ _ _ (heap_alloc_new wr _)) Tryd.underlying85 rfl (info20 (raw_says HN.out).2.1) ?_)) | fail)
        generalize hW4 : World.setRow _ _ _ = w4
        have HB4 := Aside0.mk (show Below wr.heap.size wr w4 by rw [← hW4]; exact below_setRow ((Below.refl wr.heap.size wr).alloc (Nat.le_refl _) _) (Nat.le_refl _) _)
        clear hW4
        have HHS := Aside0.mk (hashString (raw s) w4 (raw_says HN.out).2.1)
        rw [str_raw HN.out] at HHS
        refine HHS.out.mono ?_
        rintro e w5 ⟨rfl, hb5⟩
        have HB5 := Aside0.mk (below_step HB.out (below_step HB4.out hb5))
        have HO5 := Aside0.mk (Kd.R_below HO.out (below_step HB4.out hb5))
        have HTL := Aside0.mk (show ((l.take j).length + 1) * 16 ≤ 140737488355328 by rw [List.length_take]; omega)
        clear hb5 HHS
        go_wp2_with (first | ((with_reducible refine gate_builtin (b := .append) (xs := #[.tmp 12, .tmp 15]) rfl ?_); at_builtin; go_must (refine Kd.R_append Kd.string (w0 := w) w.heap.size rfl (.tmp 12) (.tmp 15) 28 9 (.string ⟨#[]⟩) 16 rfl Tryd.underlying28 infoS rfl (by decide) (by omega) ov (l.take j) s [.string s] (fun _ => True) (fun _ => False) rfl (by first | (go_simp; done) | (go_simp; rfl)) rfl (fun _ hk => hk.elim) (fun _ _ => trivial) HO5.out HB5.out (below_size HB5.out) HTL.out ?_); intro v3 wc ho hb hg hat; go_must (rw [← HST.out] at ho); have HO6 := Aside0.mk ho; have HB6 := Aside0.mk hb; clear ho hb hg hat))
        go_roundg k1
        case measure => omega
        case rel => exact ⟨j + 1, _, rfl, by go_num, by omega, ⟨by have := HK.out; omega⟩, HO6, HB6⟩
      · have c0 : decide ((j : Int) < (l.length : Int)) = false := decide_eq_false (by omega)
        have c1 : decide (j < l.length) = false := decide_eq_false hlt
        have hT : l.take j = l := List.take_of_length_le (by omega)
        obtain ⟨A4, c4, e4, hl4, hC4⟩ := Kd.R_reads HO.out
        rw [hT] at e4 hl4 hC4
        subst e4
        go_wp2_with fail
        go_ret
        exact ⟨A4, c4, rfl, hl4, hC4, HB.out⟩
theorem readShallow_any (w : World) (A : Option Addr) (c : Nat) (l : List (Bool × ByteArray)) (xs : List Int) (hxs : plines (lines l) = xs) (a1 a2 a3 : Addr) (ev : Value) (hg : ∀ x ∈ l, name40 x.2 = true) (hll : l.length ≤ 2000)
    (hS : (Kd.int .u8).C w A xs.length xs) (hc : xs.length ≤ c) (hby : ∀ x ∈ xs, 0 ≤ x ∧ x < 256) (hx : xs.length ≤ 2147483647) (hE : Errs w a1 a2 a3) (hEL : w.cell? ⟨14, 0, none⟩ = some ev) (hT : Lib.TabIs Tryd.prog w "bytes.asciiSpace" .u8 Lib.asciiSpaceTab) (hk1 : (sel true l).length ≤ 1000) (hk2 : (sel false l).length ≤ 1000) :
    Calls Tryd.prog 13 #[.slice A xs.length c] w fun e w' => ∃ A1 c1 A2 c2, e = .returned (.tuple #[.slice A1 (sel true l).length c1, .slice A2 (sel false l).length c2, .bool true]) ∧ (sel true l).length ≤ c1 ∧ (sel false l).length ≤ c2 ∧
      Kd.string.C w' A1 (sel true l).length (sel true l) ∧ Kd.string.C w' A2 (sel false l).length (sel false l) ∧ Below w.heap.size w w' := by
  have HXS := Aside0.mk hxs
  have HG := Aside0.mk hg
  have HS := Aside0.mk hS
  have HBY := Aside0.mk hby
  have HE := Aside0.mk hE
  have HEL := Aside0.mk hEL
  have HT := Aside0.mk hT
  have HK1 := Aside0.mk hk1
  have HK2 := Aside0.mk hk2
  clear hxs hg hS hby hE hEL hT hk1 hk2
  have HU := Aside0.mk (blk_new w (.cells #[.slice none 0 0, .slice none 0 0] 53 (0, 0)))
  have HB0 := Aside0.mk ((Below.refl w.heap.size w).alloc (Nat.le_refl _) (.cells #[.slice none 0 0, .slice none 0 0] 53 (0, 0)))
  obtain ⟨W1, hW1⟩ : ∃ W1, w.alloc (.cells #[.slice none 0 0, .slice none 0 0] 53 (0, 0)) = W1 := ⟨_, rfl⟩
  rw [hW1] at HU HB0
  go_enter Tryd.func13, Tryd.ntmps13
  have HNR := Aside0.mk (newReader_any W1 A xs.length c)
  go_wp2_with fail
  refine HNR.out.mono ?_
  rintro e w2 ⟨gr, hgr, rfl, hrd, hb2⟩
  have HGR := Aside0.mk (Nat.le_trans HB0.out.size hgr)
  have HRD := Aside0.mk hrd
  have HB2 := Aside0.mk (below_step HB0.out (hb2.mono HB0.out.size |> fun h => hb2))
  have HU2 := Aside0.mk (blk_below HU.out hb2)
  clear hgr hrd hb2 HNR
  have HDE := Aside0.mk (decode_any w w2 A c l xs HXS.out w.heap.size gr a1 a2 a3 ev HG.out hll HS.out hc HBY.out hx HE.out HEL.out HT.out HB2.out (Nat.le_refl _) HGR.out HRD.out HU2.out HK1.out HK2.out)
  go_wp2_with fail
  refine HDE.out.mono ?_
  rintro e w3 ⟨rfl, ⟨A1, c1, A2, c2, hU3, hR1, hR2, hap⟩, hb3⟩
  have HU3 := Aside0.mk hU3
  have HR1 := Aside0.mk hR1
  have HR2 := Aside0.mk hR2
  have HB3 := Aside0.mk hb3
  clear hU3 hR1 hR2 hap hb3 HDE
  go_wp2_with fail
  refine start_ (n := 9) (S := fun w' => w'.cell? ⟨w.heap.size, 0, none⟩ = some (.slice A1 (sel true l).length c1) ∧ w'.cell? ⟨w.heap.size, 1, none⟩ = some (.slice A2 (sel false l).length c2)) (ds := []) #[false, false, false, false, false, false, false, false, false] (by kernel_rfl) rfl rfl ⟨(blk_cell (blk_drew HU3.out) 0).trans rfl, (blk_cell (blk_drew HU3.out) 1).trans rfl⟩ (fun hHeld => ?_)
  refine pure_ (i := 0) (N := some 11) (v := ?_) (a' := ?_) #[true, false, false, false, false, false, false, false, false] rfl rfl (by kernel_rfl) (fun _ _ _ h => h) (Or.inl ⟨by rfl, ?_⟩) ?_ ?_
  rotate_left
  · intro w'
    go_simp
    with_reducible rfl
  rotate_left
  · simp only [Act.put, List.setIfInBounds_toArray, List.set_cons_zero, List.set_cons_succ, i64_w, i32_w]
    rfl
  refine pure_ (i := 3) (N := some 14) (v := ?_) (a' := ?_) #[true, false, false, true, false, false, false, false, false] rfl rfl (by kernel_rfl) (fun _ _ _ h => h) (Or.inl ⟨by rfl, ?_⟩) ?_ ?_
  rotate_left
  · intro w'
    go_simp
    with_reducible rfl
  rotate_left
  · simp only [Act.put, List.setIfInBounds_toArray, List.set_cons_zero, List.set_cons_succ, i64_w, i32_w]
    rfl
  refine take_ (i := 1) (N := some 12) (v := ?_) (a' := ?_) #[true, true, false, true, false, false, false, false, false] rfl rfl (by kernel_rfl) (fun _ _ _ h => h) (Or.inl ⟨by rfl, ?_⟩) hHeld ?_ ?_
  rotate_left
  · rintro w' ⟨s0, s1⟩
    go_simp
    with_reducible rfl
  rotate_left
  · simp only [Act.put, List.setIfInBounds_toArray, List.set_cons_zero, List.set_cons_succ, i64_w, i32_w]
    rfl
  refine take_ (i := 4) (N := some 15) (v := ?_) (a' := ?_) #[true, true, false, true, true, false, false, false, false] rfl rfl (by kernel_rfl) (fun _ _ _ h => h) (Or.inl ⟨by rfl, ?_⟩) hHeld ?_ ?_
  rotate_left
  · rintro w' ⟨s0, s1⟩
    go_simp
    with_reducible rfl
  rotate_left
  · simp only [Act.put, List.setIfInBounds_toArray, List.set_cons_zero, List.set_cons_succ, i64_w, i32_w]
    rfl
  refine one_ (i := 2) (N := some 13) #[true, true, true, true, true, false, false, false, false] rfl rfl (by kernel_rfl) (by decide) (fun K hK => ?_)
  refine goes_ Tryd.func28 (by kernel_rfl) rfl #[.slice A1 (sel true l).length c1] (by rfl) rfl rfl (by simp only [List.map_toArray, List.map_cons, List.map_nil]; rfl) ?_
  with_reducible refine (textsOf_any _ A1 c1 w.heap.size (sel true l) (Kd.R_drew HR1.out) HK1.out).mono ?_
  rintro e w4 ⟨T1, d1, rfl, hd1, hC1, hb4⟩
  refine ⟨_, rfl, ?_⟩
  have HD1 := Aside0.mk hd1
  have HC1 := Aside0.mk hC1
  have HB4 := Aside0.mk (show Below w3.heap.size w3 w4 from below_step (below_drew1 (Below.refl _ _)) hb4)
  have HU4 := Aside0.mk (blk_below HU3.out HB4.out)
  clear hd1 hC1 hb4
  refine hK.out _ _ ⟨(blk_cell HU4.out 0).trans rfl, (blk_cell HU4.out 1).trans rfl⟩ (fun hHeld => ?_)
  clear hK K
  refine norm_ (a' := ?_) ?_ ?_
  rotate_left
  · show Act.put _ (some 13) _ = _
    simp only [Act.put, List.setIfInBounds_toArray, List.set_cons_zero, List.set_cons_succ, i64_w, i32_w]
    rfl
  refine one_ (i := 5) (N := some 16) #[true, true, true, true, true, true, false, false, false] rfl rfl (by kernel_rfl) (by decide) (fun K hK => ?_)
  refine goes_ Tryd.func28 (by kernel_rfl) rfl #[.slice A2 (sel false l).length c2] (by rfl) rfl rfl (by simp only [List.map_toArray, List.map_cons, List.map_nil]; rfl) ?_
  with_reducible refine (textsOf_any w4 A2 c2 w.heap.size (sel false l) (Kd.R_below HR2.out HB4.out) HK2.out).mono ?_
  rintro e w5 ⟨T2, d2, rfl, hd2, hC2, hb5⟩
  refine ⟨_, rfl, ?_⟩
  have HD2 := Aside0.mk hd2
  have HC2 := Aside0.mk hC2
  have HC1b := Aside0.mk (Kd.C_below HC1.out hb5)
  have HB5 := Aside0.mk (below_step HB4.out hb5)
  have HU5 := Aside0.mk (blk_below HU4.out hb5)
  clear hd2 hC2 hb5
  refine hK.out _ _ ⟨(blk_cell HU5.out 0).trans rfl, (blk_cell HU5.out 1).trans rfl⟩ (fun hHeld => ?_)
  clear hK K
  refine norm_ (a' := ?_) ?_ ?_
  rotate_left
  · show Act.put _ (some 16) _ = _
    simp only [Act.put, List.setIfInBounds_toArray, List.set_cons_zero, List.set_cons_succ, i64_w, i32_w]
    rfl
  refine pure_ (i := 6) (N := some 2) (v := ?_) (a' := ?_) #[true, true, true, true, true, true, true, false, false] rfl rfl (by kernel_rfl) (fun _ _ _ h => h) (Or.inl ⟨by rfl, ?_⟩) ?_ ?_
  rotate_left
  · intro w'
    go_simp
    with_reducible rfl
  rotate_left
  · simp only [Act.put, List.setIfInBounds_toArray, List.set_cons_zero, List.set_cons_succ, i64_w, i32_w]
    rfl
  refine pure_ (i := 7) (N := some 3) (v := ?_) (a' := ?_) #[true, true, true, true, true, true, true, true, false] rfl rfl (by kernel_rfl) (fun _ _ _ h => h) (Or.inl ⟨by rfl, ?_⟩) ?_ ?_
  rotate_left
  · intro w'
    go_simp
    with_reducible rfl
  rotate_left
  · simp only [Act.put, List.setIfInBounds_toArray, List.set_cons_zero, List.set_cons_succ, i64_w, i32_w]
    rfl
  refine pure_ (i := 8) (N := some 4) (v := ?_) (a' := ?_) #[true, true, true, true, true, true, true, true, true] rfl rfl (by kernel_rfl) (fun _ _ _ h => h) (Or.inl ⟨by rfl, ?_⟩) ?_ ?_
  rotate_left
  · intro w'
    go_simp
    with_reducible rfl
  rotate_left
  · simp only [Act.put, List.setIfInBounds_toArray, List.set_cons_zero, List.set_cons_succ, i64_w, i32_w]
    rfl
  refine done_ (by kernel_rfl) ?_
  go_wp2_with fail
  go_ret3
  exact ⟨T1, d1, T2, d2, rfl, HD1.out, HD2.out, HC1b.out, HC2.out, HB3.out.trans (HB5.out.mono HB3.out.size)⟩
end Go.Proofs.YthjeihbnlfnkcaaDoor.shal
