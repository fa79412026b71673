/- config: the walks of spec.OptionsOf and FnConfGet. -/
import Derived.Test.YtoofbppfbbhliaaDoorPutH
namespace Go.Proofs.YtoofbppfbbhliaaDoor.confP
open Go.RowKit Go.Proofs.YtoofbppfbbhliaaDoorW.PrintWords Go.Proofs.YtoofbppfbbhliaaDoorW.PrintLast Go.Proofs.YtoofbppfbbhliaaDoorW.PrintMore Go.Proofs.YtoofbppfbbhliaaDoor.PFnConfAdd Go.Proofs.YtoofbppfbbhliaaDoor.ptr
set_option linter.unusedVariables false
set_option linter.unusedSimpArgs false
set_option maxHeartbeats 2000000
set_option maxRecDepth 100000
/-- Options that came in are handed back. -/
def Opts (w : World) (l : List S112) (e : Ending) (w' : World) : Prop := ∃ A c, e = .returned (.slice A l.length c) ∧ l.length ≤ c ∧ Kd.C k112 w' A l.length l ∧ Below w.heap.size w w'
theorem opts_cons {section_ sub : ByteArray} {s : S71} {r : List S71} : specOpts section_ sub (s :: r) = if eqB s.f0 section_ = true then (if sub.toList = [] then s.f1 else match s.f2.find? (fun x => eqB x.f0 sub) with | some x => x.f1 | none => specOpts section_ sub r) else specOpts section_ sub r := rfl
theorem find_none {u : List S115} {sub : ByteArray} (h : ∀ x ∈ u, eqB x.f0 sub = false) : u.find? (fun x => eqB x.f0 sub) = none := List.find?_eq_none.2 (fun x hx => by simp [h x hx])
theorem find_some {u : List S115} {sub : ByteArray} {i : Nat} (hi : i < u.length) (h : eqB u[i].f0 sub = true) (hn : ∀ x ∈ u.take i, eqB x.f0 sub = false) : u.find? (fun x => eqB x.f0 sub) = some u[i] := by
  rw [List.find?_eq_some_iff_getElem]
  refine ⟨h, i, hi, rfl, fun j hj => ?_⟩
  rw [hn _ (List.mem_take_iff_getElem.2 ⟨j, by omega, rfl⟩)]; rfl
theorem specOptions_any (A0 : Option Addr) (c0 : Nat) (l0 : List S71) (section_ sub : ByteArray) (w : World) (hr0 : Kd.C k71 w A0 l0.length l0) (hc0 : l0.length ≤ c0) (hl : Fits l0) :
    Calls Tryd.prog 40 #[.slice A0 l0.length c0, .string section_, .string sub] w (Opts w (specOpts section_ sub l0)) := by
  have hu71 := Tryd.underlying71
  have hu115 := Tryd.underlying115
  have HR0 := Aside0.mk hr0
  have HL := Aside0.mk hl
  have hb31 := hl.1
  obtain ⟨r, hr⟩ : ∃ r, specOpts section_ sub l0 = r := ⟨_, rfl⟩
  rw [hr]
  have HRR := Aside0.mk hr
  obtain ⟨bs, hbs⟩ : ∃ bs, (sub.toList == ([] : List UInt8)) = bs := ⟨_, rfl⟩
  have hbs2 : sub.toList.isEmpty = bs := by rw [← hbs]; cases sub.toList <;> rfl
  have HSB := Aside0.mk (show bs = true ↔ sub.toList = [] by rw [← hbs]; exact beq_iff_eq)
  clear hr0 hl hr
  go_enter Tryd.func40, Tryd.ntmps40
  go_wp2_with fail
  go_loopg [13] (l0.length + 1) (fun kq v13 w' => ∃ (j : Nat), v13 = .int .i64 (j : Int) ∧ j ≤ l0.length ∧ Aside0 (kq + j = l0.length + 1) ∧ Aside0 (specOpts section_ sub (l0.drop j) = r) ∧ Aside0 (Below w.heap.size w w'))
  case atStart => exact ⟨0, rfl, Nat.zero_le _, ⟨by omega⟩, ⟨by rw [List.drop_zero]; exact HRR.out⟩, ⟨Below.refl _ _⟩⟩
  case round =>
    obtain ⟨j, rfl, hj, HK, HD, HB⟩ := hrel
    cases gk with
    | zero => exact absurd HK.out (by omega)
    | succ k1 =>
      obtain ⟨wo, hwo⟩ : ∃ wo : World, wo = wr := ⟨_, rfl⟩
      subst hwo
      by_cases hlt : j < l0.length
      · have p150 : 0 ≤ (j : Int) := by omega
        have q150 : (j : Int) < (l0.length : Int) := by omega
        have c5b0 : decide ((j : Int) < (l0.length : Int)) = true := decide_eq_true q150
        obtain ⟨ad, A1, c1, A2, c2, e0, hx0, hx1, hx2, hl1, hC1, hl2, hC2⟩ := at_T71 HR0.out j p150 q150
        subst e0
        rw [rdS hlt] at hx0 hx1 hx2 hl1 hC1 hl2 hC2
        rw [Int.toNat_natCast] at hx0 hx1 hx2
        replace hx0 := (HB.out.cell (World.block_lt_of_cell? w _ hx0)).trans hx0
        replace hx1 := (HB.out.cell (World.block_lt_of_cell? w _ hx1)).trans hx1
        replace hx2 := (HB.out.cell (World.block_lt_of_cell? w _ hx2)).trans hx2
        have HF := Aside0.mk (HL.out.2 _ (List.getElem_mem hlt))
        have hb32 := HF.out.2.1
        have HD2 := HD.out
        rw [List.drop_eq_getElem_cons hlt, opts_cons] at HD2
        obtain ⟨s, hs⟩ : ∃ s, l0[j] = s := ⟨_, rfl⟩
        rw [hs] at hx0 hx1 hx2 hl1 hC1 hl2 hC2 HF hb32 HD2
        have HDD := Aside0.mk HD2
        have HC1 := Aside0.mk (Kd.C_below hC1 HB.out)
        have HC2 := Aside0.mk (Kd.C_below hC2 HB.out)
        have HL1 := Aside0.mk hl1
        have HI := Aside0.mk hlt
        obtain ⟨b, hb⟩ : ∃ b, eqB s.f0 section_ = b := ⟨_, rfl⟩
        have HBE := Aside0.mk hb
        have hb1 : (s.f0.toList == section_.toList) = b := hb
        have hb2 : (s.f0.toList != section_.toList) = !b := by rw [bne, hb1]
        clear hC1 hC2 hl1 hl2 hs hb HD2 HD
        cases b with
        | false =>
          have HD3 := Aside0.mk (show specOpts section_ sub (l0.drop (j + 1)) = r by have := HDD.out; rwa [HBE.out, if_neg (by decide)] at this)
          simp only [Bool.not_false] at hb2
          go_wp2_with (first | ((with_reducible refine gate_dst (N := 8) rfl ?_); refine box_event ?hg (N := 8) ?hd (cs := #[.string (⟨#[]⟩ : ByteArray), .slice none 0 0, .slice none 0 0]) (t := 71) ?hr ?_; (case hd => rfl); (case hg => rfl); (case hr => first | (go_simp; done) | (go_simp; rfl)); intro g1 hg1 wa hbox hb; have HBa := Aside0.mk hb; have GE2 := Aside0.mk (show wo.heap.size ≤ g1 by rw [hg1]; exact Nat.le_refl _); have GE1 := Aside0.mk (show w.heap.size ≤ g1 by rw [hg1]; exact HB.out.size); have BK1 := Aside0.mk hbox; clear hbox hb hg1; have hz0 : wa.cell? ⟨g1, 0, none⟩ = some (.string (⟨#[]⟩ : ByteArray)) := (blk_cell BK1.out 0).trans rfl; have hz1 : wa.cell? ⟨g1, 1, none⟩ = some (.slice none 0 0) := (blk_cell BK1.out 1).trans rfl; have hz2 : wa.cell? ⟨g1, 2, none⟩ = some (.slice none 0 0) := (blk_cell BK1.out 2).trans rfl; have hf0 := blk_frozen BK1.out 0; have hf1 := blk_frozen BK1.out 1; have hf2 := blk_frozen BK1.out 2) | fail)
          go_roundg k1
          case measure => have := HK.out; omega
          case rel => exact ⟨j + 1, by go_num, HI.out, ⟨by have := HK.out; omega⟩, HD3, ⟨below_set (below_set (below_set (below_step HB.out HBa.out) GE1.out) GE1.out) GE1.out⟩⟩
        | true =>
          have HD3 := Aside0.mk (show (if sub.toList = [] then s.f1 else match s.f2.find? (fun x => eqB x.f0 sub) with | some x => x.f1 | none => specOpts section_ sub (l0.drop (j + 1))) = r by have := HDD.out; rwa [HBE.out, if_pos rfl] at this)
          simp only [Bool.not_true] at hb2
          cases bs with
          | true =>
            have HD4 := Aside0.mk (show s.f1 = r by have := HD3.out; rwa [if_pos (HSB.out.1 rfl)] at this)
            go_wp2_with (first | ((with_reducible refine gate_dst (N := 8) rfl ?_); refine box_event ?hg (N := 8) ?hd (cs := #[.string (⟨#[]⟩ : ByteArray), .slice none 0 0, .slice none 0 0]) (t := 71) ?hr ?_; (case hd => rfl); (case hg => rfl); (case hr => first | (go_simp; done) | (go_simp; rfl)); intro g1 hg1 wa hbox hb; have HBa := Aside0.mk hb; have GE2 := Aside0.mk (show wo.heap.size ≤ g1 by rw [hg1]; exact Nat.le_refl _); have GE1 := Aside0.mk (show w.heap.size ≤ g1 by rw [hg1]; exact HB.out.size); have BK1 := Aside0.mk hbox; clear hbox hb hg1; have hz0 : wa.cell? ⟨g1, 0, none⟩ = some (.string (⟨#[]⟩ : ByteArray)) := (blk_cell BK1.out 0).trans rfl; have hz1 : wa.cell? ⟨g1, 1, none⟩ = some (.slice none 0 0) := (blk_cell BK1.out 1).trans rfl; have hz2 : wa.cell? ⟨g1, 2, none⟩ = some (.slice none 0 0) := (blk_cell BK1.out 2).trans rfl; have hf0 := blk_frozen BK1.out 0; have hf1 := blk_frozen BK1.out 1; have hf2 := blk_frozen BK1.out 2) | fail)
            go_ret
            rw [← HD4.out]
            exact ⟨A1, c1, rfl, HL1.out, Kd.C_below HC1.out (below_set (below_set (below_set HBa.out GE2.out) GE2.out) GE2.out), below_set (below_set (below_set (below_step HB.out HBa.out) GE1.out) GE1.out) GE1.out⟩
          | false =>
            have HD4 := Aside0.mk (show (match s.f2.find? (fun x => eqB x.f0 sub) with | some x => x.f1 | none => specOpts section_ sub (l0.drop (j + 1))) = r by have := HD3.out; rwa [if_neg (fun h => by have := HSB.out.2 h; cases this)] at this)
            go_wp2_with (first | ((with_reducible refine gate_dst (N := 8) rfl ?_); refine box_event ?hg (N := 8) ?hd (cs := #[.string (⟨#[]⟩ : ByteArray), .slice none 0 0, .slice none 0 0]) (t := 71) ?hr ?_; (case hd => rfl); (case hg => rfl); (case hr => first | (go_simp; done) | (go_simp; rfl)); intro g1 hg1 wa hbox hb; have HBa := Aside0.mk hb; have GE2 := Aside0.mk (show wo.heap.size ≤ g1 by rw [hg1]; exact Nat.le_refl _); have GE1 := Aside0.mk (show w.heap.size ≤ g1 by rw [hg1]; exact HB.out.size); have BK1 := Aside0.mk hbox; clear hbox hb hg1; have hz0 : wa.cell? ⟨g1, 0, none⟩ = some (.string (⟨#[]⟩ : ByteArray)) := (blk_cell BK1.out 0).trans rfl; have hz1 : wa.cell? ⟨g1, 1, none⟩ = some (.slice none 0 0) := (blk_cell BK1.out 1).trans rfl; have hz2 : wa.cell? ⟨g1, 2, none⟩ = some (.slice none 0 0) := (blk_cell BK1.out 2).trans rfl; have hf0 := blk_frozen BK1.out 0; have hf1 := blk_frozen BK1.out 1; have hf2 := blk_frozen BK1.out 2) | fail)
            go_loopg [28] (s.f2.length + 1) (fun kq v28 w' => ∃ (i : Nat), v28 = .int .i64 (i : Int) ∧ i ≤ s.f2.length ∧ Aside0 (kq + i = s.f2.length + 1) ∧ Aside0 (∀ x ∈ s.f2.take i, eqB x.f0 sub = false) ∧ Aside0 (Below wo.heap.size wo w'))
            case atStart => exact ⟨0, rfl, Nat.zero_le _, ⟨by omega⟩, ⟨fun x hx => by simp at hx⟩, ⟨below_set (below_set (below_set HBa.out GE2.out) GE2.out) GE2.out⟩⟩
            case round =>
              clear hz0 hz1 hz2 hf0 hf1 hf2 HBa BK1
              obtain ⟨i, rfl, hi, HKi, HN, HBi⟩ := hrel
              cases gk with
              | zero => exact absurd HKi.out (by omega)
              | succ k2 =>
                by_cases hlu : i < s.f2.length
                · have p250 : 0 ≤ (i : Int) := by omega
                  have q250 : (i : Int) < (s.f2.length : Int) := by omega
                  have c6b0 : decide ((i : Int) < (s.f2.length : Int)) = true := decide_eq_true q250
                  obtain ⟨ad2, A4, c4, e2, hy0, hy1, hl4, hC4⟩ := at_T115 HC2.out i p250 q250
                  subst e2
                  rw [rdU hlu] at hy0 hy1 hl4 hC4
                  rw [Int.toNat_natCast] at hy0 hy1
                  replace hy0 := (HBi.out.cell (World.block_lt_of_cell? wo _ hy0)).trans hy0
                  replace hy1 := (HBi.out.cell (World.block_lt_of_cell? wo _ hy1)).trans hy1
                  have hsm := find_some (sub := sub) hlu
                  have htk := take_snoc hlu
                  obtain ⟨x, hx⟩ : ∃ x, s.f2[i] = x := ⟨_, rfl⟩
                  rw [hx] at hy0 hy1 hl4 hC4 hsm htk
                  obtain ⟨b2, hbx⟩ : ∃ b2, eqB x.f0 sub = b2 := ⟨_, rfl⟩
                  have HBX := Aside0.mk hbx
                  have HSMx := Aside0.mk (fun h => hsm h HN.out)
                  have HTK := Aside0.mk htk
                  have HC4 := Aside0.mk (Kd.C_below hC4 HBi.out)
                  have HL4 := Aside0.mk hl4
                  have HIu := Aside0.mk hlu
                  have hbx1 : (x.f0.toList == sub.toList) = b2 := hbx
                  clear hx hsm htk hC4 hl4 hbx
                  cases b2 with
                  | true =>
                    have HD5 := Aside0.mk (show x.f1 = r by have := HD4.out; rwa [HSMx.out HBX.out] at this)
                    go_wp2_with (first | ((with_reducible refine gate_dst (N := 10) rfl ?_); refine box_event ?hg8 (N := 10) ?hd8 (cs := #[.string (⟨#[]⟩ : ByteArray), .slice none 0 0]) (t := 115) ?hr8 ?_; (case hd8 => rfl); (case hg8 => rfl); (case hr8 => first | (go_simp; done) | (go_simp; rfl)); intro g3 hg3 wb hbox hb; have HBc := Aside0.mk hb; have GE3 := Aside0.mk (show wr.heap.size ≤ g3 by rw [hg3]; exact Nat.le_refl _); have GE4 := Aside0.mk (show w.heap.size ≤ g3 by rw [hg3]; exact Nat.le_trans HB.out.size HBi.out.size); have GE5 := Aside0.mk (show wo.heap.size ≤ g3 by rw [hg3]; exact HBi.out.size); have BK3 := Aside0.mk hbox; clear hbox hb hg3; have hz0 : wb.cell? ⟨g3, 0, none⟩ = some (.string (⟨#[]⟩ : ByteArray)) := (blk_cell BK3.out 0).trans rfl; have hz1 : wb.cell? ⟨g3, 1, none⟩ = some (.slice none 0 0) := (blk_cell BK3.out 1).trans rfl; have hf0 := blk_frozen BK3.out 0; have hf1 := blk_frozen BK3.out 1) | fail)
                    go_ret
                    rw [← HD5.out]
                    exact ⟨A4, c4, rfl, HL4.out, Kd.C_below HC4.out (below_set (below_set HBc.out GE3.out) GE3.out), below_set (below_set (below_step (below_step HB.out HBi.out) HBc.out) GE4.out) GE4.out⟩
                  | false =>
                    go_wp2_with (first | ((with_reducible refine gate_dst (N := 10) rfl ?_); refine box_event ?hg8 (N := 10) ?hd8 (cs := #[.string (⟨#[]⟩ : ByteArray), .slice none 0 0]) (t := 115) ?hr8 ?_; (case hd8 => rfl); (case hg8 => rfl); (case hr8 => first | (go_simp; done) | (go_simp; rfl)); intro g3 hg3 wb hbox hb; have HBc := Aside0.mk hb; have GE3 := Aside0.mk (show wr.heap.size ≤ g3 by rw [hg3]; exact Nat.le_refl _); have GE4 := Aside0.mk (show w.heap.size ≤ g3 by rw [hg3]; exact Nat.le_trans HB.out.size HBi.out.size); have GE5 := Aside0.mk (show wo.heap.size ≤ g3 by rw [hg3]; exact HBi.out.size); have BK3 := Aside0.mk hbox; clear hbox hb hg3; have hz0 : wb.cell? ⟨g3, 0, none⟩ = some (.string (⟨#[]⟩ : ByteArray)) := (blk_cell BK3.out 0).trans rfl; have hz1 : wb.cell? ⟨g3, 1, none⟩ = some (.slice none 0 0) := (blk_cell BK3.out 1).trans rfl; have hf0 := blk_frozen BK3.out 0; have hf1 := blk_frozen BK3.out 1) | fail)
                    go_roundg k2
                    case measure => have := HKi.out; omega
                    case rel => exact ⟨i + 1, by go_num, HIu.out, ⟨by have := HKi.out; omega⟩, ⟨fun y hy => by
                      rw [HTK.out] at hy
                      rcases List.mem_append.1 hy with hy | hy
                      · exact HN.out y hy
                      · rw [List.mem_singleton.1 hy]; exact HBX.out⟩, ⟨below_set (below_set (below_step HBi.out HBc.out) GE5.out) GE5.out⟩⟩
                · have c6b0 : decide ((i : Int) < (s.f2.length : Int)) = false := decide_eq_false (by omega)
                  have HD5 := Aside0.mk (show specOpts section_ sub (l0.drop (j + 1)) = r by
                    have h1 := HN.out
                    rw [List.take_of_length_le (by omega)] at h1
                    have := HD4.out
                    rwa [find_none h1] at this)
                  go_wp2_with fail
                  go_roundg k1
                  case measure => have := HK.out; omega
                  case rel => exact ⟨j + 1, by go_num, HI.out, ⟨by have := HK.out; omega⟩, HD5, ⟨below_step HB.out HBi.out⟩⟩
      · have c5b0 : decide ((j : Int) < (l0.length : Int)) = false := decide_eq_false (by omega)
        have HD2 := Aside0.mk (show ([] : List S112) = r by have := HD.out; rwa [List.drop_of_length_le (by omega)] at this)
        go_wp2
        go_ret
        rw [← HD2.out]
        exact ⟨none, 0, rfl, Nat.le_refl _, Kd.C_nil _ _, HB.out⟩
end Go.Proofs.YtoofbppfbbhliaaDoor.confP
