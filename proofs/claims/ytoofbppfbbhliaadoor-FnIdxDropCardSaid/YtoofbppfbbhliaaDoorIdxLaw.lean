/- laws.FnIdxDrop: the walk. -/
import Derived.Test.YtoofbppfbbhliaaDoorIdxE
import Derived.Test.YtoofbppfbbhliaaDoorIdxF
namespace Go.Proofs.YtoofbppfbbhliaaDoor.idx
open Go.RowKit Go.Lib Go.Proofs.YtoofbppfbbhliaaDoorW.PrintWords Go.Proofs.YtoofbppfbbhliaaDoorW.PrintLast Go.Proofs.YtoofbppfbbhliaaDoorW.PrintMore Go.Proofs.YtoofbppfbbhliaaDoor.PFnIdxDrop Go.Proofs.YtoofbppfbbhliaaDoor.ptr
set_option linter.unusedVariables false
set_option linter.unusedSimpArgs false
set_option maxHeartbeats 2000000
set_option maxRecDepth 100000
theorem snoc_others {l : List S35} {name : ByteArray} {j : Nat} (h : j < l.length) : others (l.take (j + 1)) name = if eqB l[j].f9 name = true then others (l.take j) name else others (l.take j) name ++ [l[j]] := by
  unfold others
  rw [take_snoc h, List.filter_append]
  cases hb : eqB l[j].f9 name <;> simp [hb]
theorem others_le {l : List S35} {name : ByteArray} {j n : Nat} (h : l.length ≤ n) : (others (l.take j) name).length ≤ n := Nat.le_trans (List.length_filter_le _ _) (by rw [List.length_take]; omega)
theorem drop_law (A0 : Option Addr) (c0 : Nat) (l : List S35) (name : ByteArray) (w : World) (hr0 : Kd.C k35 w A0 l.length l) (hc0 : l.length ≤ c0) (ev : Value) (hE : w.cell? ⟨4, 0, none⟩ = some ev) (τ : TypeId) (u : Value) (hE2 : w.cell? ⟨1, 0, none⟩ = some (.iface τ u)) :
    Calls Tryd.prog 5 #[.slice A0 l.length c0, .string name] w fun e w' => e = .returned (.bool true) ∧ Below w.heap.size w w' := by
  have hu35 := Tryd.underlying35
  obtain ⟨b1, hf1, hf2⟩ := fits17_says l
  obtain ⟨kf, hkf⟩ := hf1.rounds
  have HF := Aside0.mk (laws_zzFits17.calls kf A0 c0 l b1 w hr0 hc0 hkf)
  have HR0 := Aside0.mk hr0
  have HF2 := Aside0.mk hf2
  have HEV := Aside0.mk hE
  have HE2 := Aside0.mk hE2
  clear hr0 hf1 hf2 hkf hE hE2
  go_enter Tryd.func5, Tryd.ntmps5
  go_wp2_with fail
  refine HF.out.mono ?_
  clear HF
  rintro e w1 ⟨rfl, hb1⟩
  have HB1 := Aside0.mk hb1
  clear hb1
  cases b1 with
  | false =>
    go_wp2_with fail
    all_goals go_ret
    all_goals exact ⟨rfl, HB1.out⟩
  | true =>
    by_cases h1 : 2147483647 < name.size
    · have d1 : decide (2147483647 < (name.size : Int)) = true := decide_eq_true (by omega)
      go_wp2_with fail
      all_goals go_ret
      all_goals exact ⟨rfl, HB1.out⟩
    · have d1 : decide (2147483647 < (name.size : Int)) = false := decide_eq_false (by omega)
      have hff := HF2.out (by trivial)
      have HA := Aside0.mk (areFiles_any A0 c0 l w1 (Kd.C_below HR0.out HB1.out) hc0 hff)
      obtain ⟨b3, hn1, _⟩ := fname_says name (by omega)
      obtain ⟨kn, hkn⟩ := hn1.rounds
      have HN := Aside0.mk (show ∀ W, Calls Tryd.prog 21 #[.string name] W fun e w' => e = .returned (.bool b3) ∧ Drawn0 W w' from fun W => spec_IsFileName.calls kn name b3 W hkn)
      clear hff hn1 hkn HF2
      go_wp2_with fail
      refine HA.out.mono ?_
      clear HA
      rintro e w2 ⟨b2, rfl, himp, hb2⟩
      have HB2 := Aside0.mk (below_step HB1.out hb2)
      have HIMP := Aside0.mk himp
      clear hb2 himp
      cases b2 with
      | false =>
        go_wp2_with fail
        all_goals go_ret
        all_goals exact ⟨rfl, HB2.out⟩
      | true =>
        have hfl := HIMP.out (by trivial)
        go_wp2_with fail
        refine (HN.out _).mono ?_
        rintro e w3 ⟨rfl, hb3⟩
        have HB3 := Aside0.mk (below_step HB2.out hb3.below)
        clear hb3 HN HIMP
        cases b3 with
        | false =>
          go_wp2_with fail
          all_goals go_ret
          all_goals exact ⟨rfl, HB3.out⟩
        | true =>
          have hll := hfl.1
          have HFL := Aside0.mk hfl
          clear hfl d1 h1
          go_wp2_with fail
          go_loopg [5, 28] (l.length + 1) (fun kq v5 v28 w' => ∃ (j : Nat), v28 = .int .i64 (j : Int) ∧ j ≤ l.length ∧ Aside0 (kq + j = l.length + 1) ∧ Aside0 (Kd.R k35 35 w' w.heap.size (fun _ => True) v5 (others (l.take j) name)) ∧ Aside0 (Below w.heap.size w w'))
          case atStart => exact ⟨0, rfl, Nat.zero_le _, ⟨by omega⟩, ⟨Kd.R_nil _ _ _ _ _⟩, HB3⟩
          case round =>
            clear HB1 HB2 HB3
            obtain ⟨j, rfl, hj, HK, HR, HB⟩ := hrel
            cases gk with
            | zero => exact absurd HK.out (by omega)
            | succ k1 =>
              obtain ⟨wo, hwo⟩ : ∃ wo : World, wo = wr := ⟨_, rfl⟩
              subst hwo
              by_cases hlt : j < l.length
              · have p150 : 0 ≤ (j : Int) := by omega
                have q150 : (j : Int) < (l.length : Int) := by omega
                have c5b0 : decide ((j : Int) < (l.length : Int)) = true := decide_eq_true q150
                obtain ⟨ad, e0, y0, y1, y2, y3, y4, y5, y6, y7, y8, y9, y10, y11, y12, y13, y14⟩ := at_T35 HR0.out j p150 q150
                subst e0
                rw [rdF hlt] at y0 y1 y2 y3 y4 y5 y6 y7 y8 y9 y10 y11 y12 y13 y14
                rw [Int.toNat_natCast] at y0 y1 y2 y3 y4 y5 y6 y7 y8 y9 y10 y11 y12 y13 y14
                replace y0 := (HB.out.cell (World.block_lt_of_cell? w _ y0)).trans y0
                replace y1 := (HB.out.cell (World.block_lt_of_cell? w _ y1)).trans y1
                replace y2 := (HB.out.cell (World.block_lt_of_cell? w _ y2)).trans y2
                replace y3 := (HB.out.cell (World.block_lt_of_cell? w _ y3)).trans y3
                replace y4 := (HB.out.cell (World.block_lt_of_cell? w _ y4)).trans y4
                replace y5 := (HB.out.cell (World.block_lt_of_cell? w _ y5)).trans y5
                replace y6 := (HB.out.cell (World.block_lt_of_cell? w _ y6)).trans y6
                replace y7 := (HB.out.cell (World.block_lt_of_cell? w _ y7)).trans y7
                replace y8 := (HB.out.cell (World.block_lt_of_cell? w _ y8)).trans y8
                replace y9 := (HB.out.cell (World.block_lt_of_cell? w _ y9)).trans y9
                replace y10 := (HB.out.cell (World.block_lt_of_cell? w _ y10)).trans y10
                replace y11 := (HB.out.cell (World.block_lt_of_cell? w _ y11)).trans y11
                replace y12 := (HB.out.cell (World.block_lt_of_cell? w _ y12)).trans y12
                replace y13 := (HB.out.cell (World.block_lt_of_cell? w _ y13)).trans y13
                replace y14 := (HB.out.cell (World.block_lt_of_cell? w _ y14)).trans y14
                have HSF := Aside0.mk (snoc_others (name := name) hlt)
                have HYL := Aside0.mk (others_le (name := name) (j := j) hll)
                obtain ⟨x, hx⟩ : ∃ x, l[j] = x := ⟨_, rfl⟩
                rw [hx] at y0 y1 y2 y3 y4 y5 y6 y7 y8 y9 y10 y11 y12 y13 y14 HSF
                obtain ⟨b, hb⟩ : ∃ b, eqB x.f9 name = b := ⟨_, rfl⟩
                rw [hb] at HSF
                have e1 : (x.f9.toList == name.toList) = b := hb
                have e2 : (x.f9.toList != name.toList) = !b := by rw [bne, e1]
                have HI := Aside0.mk hlt
                obtain ⟨ys, hys⟩ : ∃ ys, others (l.take j) name = ys := ⟨_, rfl⟩
                rw [hys] at HR HSF HYL
                have HYl := HYL
                obtain ⟨A3, c3, e3⟩ := Kd.R_slice HR.out
                subst e3
                clear hx hb hys
                cases b with
                | true =>
                  simp only [Bool.not_true] at e2
                  go_wp2_with (first | ((with_reducible refine gate_dst (N := 7) rfl ?_); refine box_event ?hg (N := 7) ?hd (cs := #[.int .i64 0, .int .i64 0, .int .i64 0, .int .i64 0, .int .u32 0, .int .u32 0, .int .u32 0, .int .u32 0, .int .u32 0, .int .u32 0, .string (⟨#[]⟩ : ByteArray), .string (⟨#[]⟩ : ByteArray), .int .i64 0, .bool false, .bool false]) (t := 35) ?hr ?_; (case hd => rfl); (case hg => rfl); (case hr => first | (go_simp; done) | (go_simp; rfl)); intro gf hg1 wa hbox hb; have BFa := Aside0.mk hbox; have HBa := Aside0.mk (show Below wo.heap.size wo wa from hb); have GF := Aside0.mk (show wo.heap.size ≤ gf by rw [hg1]; exact Nat.le_refl _); clear hbox hb hg1) | (refine wpList_store_row rfl 35 _ _ rfl gf #[.int .i64 x.f0.f0, .int .i64 x.f0.f1, .int .i64 x.f1.f0, .int .i64 x.f1.f1, .int .u32 x.f2, .int .u32 x.f3, .int .u32 x.f4, .int .u32 x.f5, .int .u32 x.f6, .int .u32 x.f7, .string x.f8, .string x.f9, .int .i64 x.f10, .bool x.f11, .bool x.f12] ?hx ?hy 35 _ BFa.out (by kernel_rfl) rfl (file_one x) ?_; (case hx => rfl); (case hy => rfl); generalize hW : World.setRow _ _ _ = W2; have HBd := Aside0.mk (show Below wo.heap.size wo W2 by rw [← hW]; exact below_setRow HBa.out GF.out _); have BF2 := Aside0.mk (show W2.heap[gf]? = some (.cells #[.int .i64 x.f0.f0, .int .i64 x.f0.f1, .int .i64 x.f1.f0, .int .i64 x.f1.f1, .int .u32 x.f2, .int .u32 x.f3, .int .u32 x.f4, .int .u32 x.f5, .int .u32 x.f6, .int .u32 x.f7, .string x.f8, .string x.f9, .int .i64 x.f10, .bool x.f11, .bool x.f12] 35 (0, 0)) by rw [← hW]; exact setRow_heap _ _ _ _ _ _ BFa.out); clear hW BFa HBa y0 y1 y2 y3 y4 y5 y6 y7 y8 y9 y10 y11 y12 y13 y14; have HR2 := Aside0.mk (Kd.R_below HR.out HBd.out); have HB2 := Aside0.mk (below_step HB.out HBd.out); have z0 : W2.cell? ⟨gf, 0, none⟩ = some (.int .i64 x.f0.f0) := (blk_cell BF2.out 0).trans rfl; have z1 : W2.cell? ⟨gf, 1, none⟩ = some (.int .i64 x.f0.f1) := (blk_cell BF2.out 1).trans rfl; have z2 : W2.cell? ⟨gf, 2, none⟩ = some (.int .i64 x.f1.f0) := (blk_cell BF2.out 2).trans rfl; have z3 : W2.cell? ⟨gf, 3, none⟩ = some (.int .i64 x.f1.f1) := (blk_cell BF2.out 3).trans rfl; have z4 : W2.cell? ⟨gf, 4, none⟩ = some (.int .u32 x.f2) := (blk_cell BF2.out 4).trans rfl; have z5 : W2.cell? ⟨gf, 5, none⟩ = some (.int .u32 x.f3) := (blk_cell BF2.out 5).trans rfl; have z6 : W2.cell? ⟨gf, 6, none⟩ = some (.int .u32 x.f4) := (blk_cell BF2.out 6).trans rfl; have z7 : W2.cell? ⟨gf, 7, none⟩ = some (.int .u32 x.f5) := (blk_cell BF2.out 7).trans rfl; have z8 : W2.cell? ⟨gf, 8, none⟩ = some (.int .u32 x.f6) := (blk_cell BF2.out 8).trans rfl; have z9 : W2.cell? ⟨gf, 9, none⟩ = some (.int .u32 x.f7) := (blk_cell BF2.out 9).trans rfl; have z10 : W2.cell? ⟨gf, 10, none⟩ = some (.string x.f8) := (blk_cell BF2.out 10).trans rfl; have z11 : W2.cell? ⟨gf, 11, none⟩ = some (.string x.f9) := (blk_cell BF2.out 11).trans rfl; have z12 : W2.cell? ⟨gf, 12, none⟩ = some (.int .i64 x.f10) := (blk_cell BF2.out 12).trans rfl; have z13 : W2.cell? ⟨gf, 13, none⟩ = some (.bool x.f11) := (blk_cell BF2.out 13).trans rfl; have z14 : W2.cell? ⟨gf, 14, none⟩ = some (.bool x.f12) := (blk_cell BF2.out 14).trans rfl) | fail)
                  go_roundg k1
                  case measure => have := HK.out; omega
                  case rel => exact ⟨j + 1, by go_num, HI.out, ⟨by have := HK.out; omega⟩, ⟨by rw [HSF.out]; exact HR2.out⟩, HB2⟩
                | false =>
                  simp only [Bool.not_false] at e2
                  go_wp2_with (first | ((with_reducible refine gate_dst (N := 7) rfl ?_); refine box_event ?hg (N := 7) ?hd (cs := #[.int .i64 0, .int .i64 0, .int .i64 0, .int .i64 0, .int .u32 0, .int .u32 0, .int .u32 0, .int .u32 0, .int .u32 0, .int .u32 0, .string (⟨#[]⟩ : ByteArray), .string (⟨#[]⟩ : ByteArray), .int .i64 0, .bool false, .bool false]) (t := 35) ?hr ?_; (case hd => rfl); (case hg => rfl); (case hr => first | (go_simp; done) | (go_simp; rfl)); intro gf hg1 wa hbox hb; have BFa := Aside0.mk hbox; have HBa := Aside0.mk (show Below wo.heap.size wo wa from hb); have GF := Aside0.mk (show wo.heap.size ≤ gf by rw [hg1]; exact Nat.le_refl _); clear hbox hb hg1) | (refine wpList_store_row rfl 35 _ _ rfl gf #[.int .i64 x.f0.f0, .int .i64 x.f0.f1, .int .i64 x.f1.f0, .int .i64 x.f1.f1, .int .u32 x.f2, .int .u32 x.f3, .int .u32 x.f4, .int .u32 x.f5, .int .u32 x.f6, .int .u32 x.f7, .string x.f8, .string x.f9, .int .i64 x.f10, .bool x.f11, .bool x.f12] ?hx ?hy 35 _ BFa.out (by kernel_rfl) rfl (file_one x) ?_; (case hx => rfl); (case hy => rfl); generalize hW : World.setRow _ _ _ = W2; have HBd := Aside0.mk (show Below wo.heap.size wo W2 by rw [← hW]; exact below_setRow HBa.out GF.out _); have BF2 := Aside0.mk (show W2.heap[gf]? = some (.cells #[.int .i64 x.f0.f0, .int .i64 x.f0.f1, .int .i64 x.f1.f0, .int .i64 x.f1.f1, .int .u32 x.f2, .int .u32 x.f3, .int .u32 x.f4, .int .u32 x.f5, .int .u32 x.f6, .int .u32 x.f7, .string x.f8, .string x.f9, .int .i64 x.f10, .bool x.f11, .bool x.f12] 35 (0, 0)) by rw [← hW]; exact setRow_heap _ _ _ _ _ _ BFa.out); clear hW BFa HBa y0 y1 y2 y3 y4 y5 y6 y7 y8 y9 y10 y11 y12 y13 y14; have HR2 := Aside0.mk (Kd.R_below HR.out HBd.out); have HB2 := Aside0.mk (below_step HB.out HBd.out); have z0 : W2.cell? ⟨gf, 0, none⟩ = some (.int .i64 x.f0.f0) := (blk_cell BF2.out 0).trans rfl; have z1 : W2.cell? ⟨gf, 1, none⟩ = some (.int .i64 x.f0.f1) := (blk_cell BF2.out 1).trans rfl; have z2 : W2.cell? ⟨gf, 2, none⟩ = some (.int .i64 x.f1.f0) := (blk_cell BF2.out 2).trans rfl; have z3 : W2.cell? ⟨gf, 3, none⟩ = some (.int .i64 x.f1.f1) := (blk_cell BF2.out 3).trans rfl; have z4 : W2.cell? ⟨gf, 4, none⟩ = some (.int .u32 x.f2) := (blk_cell BF2.out 4).trans rfl; have z5 : W2.cell? ⟨gf, 5, none⟩ = some (.int .u32 x.f3) := (blk_cell BF2.out 5).trans rfl; have z6 : W2.cell? ⟨gf, 6, none⟩ = some (.int .u32 x.f4) := (blk_cell BF2.out 6).trans rfl; have z7 : W2.cell? ⟨gf, 7, none⟩ = some (.int .u32 x.f5) := (blk_cell BF2.out 7).trans rfl; have z8 : W2.cell? ⟨gf, 8, none⟩ = some (.int .u32 x.f6) := (blk_cell BF2.out 8).trans rfl; have z9 : W2.cell? ⟨gf, 9, none⟩ = some (.int .u32 x.f7) := (blk_cell BF2.out 9).trans rfl; have z10 : W2.cell? ⟨gf, 10, none⟩ = some (.string x.f8) := (blk_cell BF2.out 10).trans rfl; have z11 : W2.cell? ⟨gf, 11, none⟩ = some (.string x.f9) := (blk_cell BF2.out 11).trans rfl; have z12 : W2.cell? ⟨gf, 12, none⟩ = some (.int .i64 x.f10) := (blk_cell BF2.out 12).trans rfl; have z13 : W2.cell? ⟨gf, 13, none⟩ = some (.bool x.f11) := (blk_cell BF2.out 13).trans rfl; have z14 : W2.cell? ⟨gf, 14, none⟩ = some (.bool x.f12) := (blk_cell BF2.out 14).trans rfl) | ((with_reducible refine gate_builtin (b := .append) (xs := #[.tmp 36, .tmp 38]) rfl ?_); at_builtin; go_must (refine Kd.R_append k35 (w0 := w) w.heap.size rfl (.tmp 36) (.tmp 38) 29 35 (.agg #[.int .i64 0, .int .i64 0, .int .i64 0, .int .i64 0, .int .u32 0, .int .u32 0, .int .u32 0, .int .u32 0, .int .u32 0, .int .u32 0, .string ⟨#[]⟩, .string ⟨#[]⟩, .int .i64 0, .bool false, .bool false]) 104 rfl Tryd.underlying29 infoF rfl (show (0 : Nat) < 15 by decide) (by omega) (.slice A3 ys.length c3) ys x [.int .i64 x.f0.f0, .int .i64 x.f0.f1, .int .i64 x.f1.f0, .int .i64 x.f1.f1, .int .u32 x.f2, .int .u32 x.f3, .int .u32 x.f4, .int .u32 x.f5, .int .u32 x.f6, .int .u32 x.f7, .string x.f8, .string x.f9, .int .i64 x.f10, .bool x.f11, .bool x.f12] (fun _ => True) (fun _ => False) rfl (by first | (go_simp; done) | (go_simp; rfl)) (k35_mkM _ _ _ x) (fun _ h => h.elim) (fun _ _ => trivial) HR2.out HB2.out (below_size HB2.out) (file_room HYl.out) ?_); intro v7 w7 ho hb hg hat; have HR7 := Aside0.mk ho; have HB7 := Aside0.mk hb; clear ho hb hg hat) | fail)
                  go_roundg k1
                  case measure => have := HK.out; omega
                  case rel => exact ⟨j + 1, by go_num, HI.out, ⟨by have := HK.out; omega⟩, ⟨by rw [HSF.out]; exact HR7.out⟩, HB7⟩
              · have c5b0 : decide ((j : Int) < (l.length : Int)) = false := decide_eq_false (by omega)
                have HT := Aside0.mk (show l.take j = l from List.take_of_length_le (by omega))
                rw [HT.out] at HR
                have HD := Aside0.mk (dropFile_any A0 c0 l name wo (Kd.C_below HR0.out HB.out) hc0 hll (fun x hx => by obtain ⟨i, hi, rfl⟩ := List.getElem_of_mem hx; exact (HFL.out.2 i hi).1) ev ((HB.out.cell (World.block_lt_of_cell? w _ HEV.out)).trans HEV.out) τ u ((HB.out.cell (World.block_lt_of_cell? w _ HE2.out)).trans HE2.out))
                have HNO := Aside0.mk (show (∀ o ∈ l, eqB o.f9 name = false) → (others l name).length = l.length from fun h => congrArg List.length (none_filter (p := fun x : S35 => eqB x.f9 name) h))
                have HYES := Aside0.mk (show (∃ (j : Nat) (h : j < l.length), eqB l[j].f9 name = true ∧ (∀ o ∈ l.take j, eqB o.f9 name = false)) → (others l name).length < l.length from fun ⟨j, h, h1, _⟩ => some_filter (p := fun x : S35 => eqB x.f9 name) h h1)
                have HSAME := Aside0.mk (show ∀ (j : Nat) (h : j < l.length), eqB l[j].f9 name = true → (∀ o ∈ l.take j, eqB o.f9 name = false) → l.eraseIdx j = others l name from fun j h h1 h2 => by rw [List.eraseIdx_eq_take_drop_succ]; exact drop_others HFL.out h h1 h2)
                have HLEN := Aside0.mk (show (others l name).length ≤ 2147483647 from Nat.le_trans (List.length_filter_le _ _) (Nat.le_trans hll (by decide)))
                obtain ⟨L, hL⟩ : ∃ L, others l name = L := ⟨_, rfl⟩
                rw [hL] at HR HNO HYES HSAME HLEN
                obtain ⟨A5, c5, e5⟩ := Kd.R_slice HR.out
                subst e5
                clear hL
                go_wp2_with fail
                refine HD.out.mono ?_
                clear HD
                rintro e w7 ⟨v7, l2, b, rfl, hR7, ht, hf, hb7⟩
                cases b with
                | false =>
                  have hq := HNO.out (hf rfl)
                  have HB7 := Aside0.mk (below_step HB.out hb7)
                  have d1 : ((L.length : Int) == (l.length : Int)) = true := beq_iff_eq.mpr (by omega)
                  have d2 : (L.length == l.length) = true := beq_iff_eq.mpr hq
                  clear hR7 ht hf hb7 hq
                  go_wp2_with fail
                  all_goals go_ret
                  all_goals exact ⟨rfl, HB7.out⟩
                | true =>
                  obtain ⟨i, hi, hn, hno, rfl⟩ := ht rfl
                  have hq := HYES.out ⟨i, hi, hn, hno⟩
                  rw [HSAME.out i hi hn hno] at hR7
                  have d1 : ((L.length : Int) == (l.length : Int)) = false := beq_eq_false_iff_ne.mpr (by omega)
                  have d2 : (L.length == l.length) = false := beq_eq_false_iff_ne.mpr (by omega)
                  obtain ⟨A7, c7, e7, hc7, hC7⟩ := Kd.R_reads hR7
                  subst e7
                  obtain ⟨_, hc5, hC5⟩ := Kd.R_reads' HR.out
                  have HS := Aside0.mk (spec_SameFiles.calls _ A7 c7 L A5 c5 L true w7 hC7 hc7 (Kd.C_below hC5 hb7) hc5 (same_f L HLEN.out))
                  have HB7 := Aside0.mk (below_step HB.out hb7)
                  clear hR7 hf hb7 hq ht hn hno hC7 hC5
                  go_wp2_with fail
                  refine HS.out.mono ?_
                  clear HS
                  rintro e w8 ⟨rfl, hb8⟩
                  have HB8 := Aside0.mk (below_step HB7.out hb8.below)
                  clear hb8
                  go_wp2_with fail
                  all_goals go_ret
                  all_goals exact ⟨rfl, HB8.out⟩
end Go.Proofs.YtoofbppfbbhliaaDoor.idx
