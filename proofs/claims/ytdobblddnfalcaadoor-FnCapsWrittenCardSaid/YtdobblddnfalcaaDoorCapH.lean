/- Capabilities: spec.CapsText, impl.CapsText. -/
import Derived.Test.YtdobblddnfalcaaDoorCapG
namespace Go.Proofs.YtdobblddnfalcaaDoor.cap
open Go.RowKit Go.Proofs.YtdobblddnfalcaaDoorW.PrintWords Go.Proofs.YtdobblddnfalcaaDoorW.PrintLast Go.Proofs.YtdobblddnfalcaaDoorW.PrintMore Go.Proofs.YtdobblddnfalcaaDoor.off Go.Proofs.YtdobblddnfalcaaDoor.mapq Go.Proofs.YtdobblddnfalcaaDoor.PFnCapsWritten
set_option linter.unusedVariables false
set_option linter.unusedSimpArgs false
set_option maxHeartbeats 2000000
set_option maxRecDepth 100000
def itemsP (l : List S30) : List ByteArray := l.flatMap fun x => items x.f0 x.f1
/-- What is asked of a capability that came in, for its text. -/
structure CapOk (x : S30) : Prop where
  name : x.f0.size ≤ 1000
  vals : ∀ s ∈ x.f1, s.size ≤ 1000
  most : x.f1.length ≤ 1000
theorem itemsP_snoc (l : List S30) (j : Nat) (hj : j < l.length) : itemsP (l.take (j + 1)) = itemsP (l.take j) ++ items l[j].f0 l[j].f1 := by
  unfold itemsP
  rw [List.take_succ_eq_append_getElem hj, List.flatMap_append]
  simp
theorem itemsP_len : ∀ (l : List S30), (∀ x ∈ l, CapOk x) → (itemsP l).length ≤ l.length * 1000
  | [], _ => by simp [itemsP]
  | r :: t, h => by
    have h1 := itemsP_len t (fun q hq => h q (List.mem_cons_of_mem _ hq))
    have h2 := items_len r.f0 r.f1 (h r List.mem_cons_self).most
    unfold itemsP at h1 ⊢
    rw [List.flatMap_cons, List.length_append, List.length_cons]
    omega
theorem items_size {c : ByteArray} {vs : List ByteArray} (hc : c.size ≤ 1000) (hv : ∀ s ∈ vs, s.size ≤ 1000) : ∀ s ∈ items c vs, s.size ≤ 3000 := by
  intro s hs
  unfold items at hs
  split at hs
  · rw [List.mem_singleton.1 hs]; omega
  · obtain ⟨v, hv', rfl⟩ := List.mem_map.1 hs
    have := hv v hv'
    rw [ByteArray.size_append, ByteArray.size_append]
    have e : (⟨#[61]⟩ : ByteArray).size = 1 := rfl
    omega
theorem itemsP_size (l : List S30) (h : ∀ x ∈ l, CapOk x) : ∀ s ∈ itemsP l, s.size ≤ 3000 := by
  intro s hs
  obtain ⟨x, hx, hs⟩ := List.mem_flatMap.1 hs
  exact items_size (h x hx).name (h x hx).vals s hs
theorem foldP_size (l : List S30) (h : ∀ x ∈ l, CapOk x) (hn : l.length ≤ 100) : ((itemsP l).foldl addT ⟨#[]⟩).size ≤ 400000000 := by
  have h1 := fold_size 3000 (itemsP l) ⟨#[]⟩ (itemsP_size l h)
  have h2 := itemsP_len l h
  have e : (⟨#[]⟩ : ByteArray).size = 0 := rfl
  rw [e] at h1
  have h3 : (itemsP l).length * (3000 + 1) ≤ 100000 * 3001 := Nat.mul_le_mul_right _ (by omega)
  omega
theorem capsText_any (w : World) (A : Option Addr) (cc : Nat) (l : List S30) (hC : Kd.C k30 w A l.length l) (hok : ∀ x ∈ l, CapOk x) (hn : l.length ≤ 100) :
    Calls Tryd.prog 9 #[.slice A l.length cc] w fun e w' => e = .returned (.string ((itemsP l).foldl addT ⟨#[]⟩)) ∧ Below w.heap.size w w' := by
  have HC := Aside0.mk hC
  have HOK := Aside0.mk hok
  have hmf : ∀ (fn : Fn) (first cap : Array Value) (w : World), (Instr.makeFunc fn first cap).run Tryd.prog w = .ok (.func fn first cap) w := fun _ _ _ _ => rfl
  clear hC hok
  go_enter Tryd.func9, Tryd.ntmps9
  go_wp2_with (first | ((with_reducible refine gate_dst (N := 3) rfl ?_); refine box_event ?hg (N := 3) ?hd (cs := #[.string (⟨#[]⟩ : ByteArray)]) (t := 9) ?hr ?_; (case hd => rfl); (case hg => rfl); (case hr => first | (go_simp; done) | (go_simp; rfl)); intro gt hgt w1 hbox hb; have BT := Aside0.mk hbox; have HB1 := Aside0.mk (show Below w.heap.size w w1 from hb); have GT := Aside0.mk (show w.heap.size ≤ gt by rw [hgt]; exact Nat.le_refl _); have z0 := (blk_cell hbox 0).trans (show _ = some (Value.string ⟨#[]⟩) from rfl); have f0 := blk_frozen hbox 0; clear hbox hb hgt) | fail)
  have BT2 := Aside0.mk (blk_put (cs := #[.string (⟨#[]⟩ : ByteArray)]) BT.out 0 (.string (⟨#[]⟩ : ByteArray)) rfl)
  have HB2 := Aside0.mk (below_set (j := 0) (v := .string (⟨#[]⟩ : ByteArray)) HB1.out GT.out)
  generalize w1.setCell ⟨gt, 0, none⟩ (.string (⟨#[]⟩ : ByteArray)) = W2 at BT2 HB2 ⊢
  clear BT HB1 z0 f0 hmf
  go_loopg [12] (l.length + 1) (fun kq v12 w' => ∃ j : Nat, v12 = .int .i64 (j : Int) ∧ j ≤ l.length ∧ Aside0 (kq + j = l.length + 1) ∧ Aside0 (w'.heap[gt]? = some (.cells #[.string ((itemsP (l.take j)).foldl addT ⟨#[]⟩)] 9 (0, 0))) ∧ Aside0 (Below w.heap.size w w'))
  case atStart => exact ⟨0, rfl, Nat.zero_le _, ⟨by omega⟩, BT2, HB2⟩
  case round =>
    clear BT2 HB2
    obtain ⟨j, rfl, hj, HK, HT, HB⟩ := hrel
    cases gk with
    | zero => exact absurd HK.out (by omega)
    | succ k1 =>
      obtain ⟨wo, hwo⟩ : ∃ wo : World, wo = wr := ⟨_, rfl⟩
      subst hwo
      by_cases hlt : j < l.length
      · have p1 : 0 ≤ (j : Int) := by omega
        have q1 : (j : Int) < (l.length : Int) := by omega
        have c0 : decide ((j : Int) < (l.length : Int)) = true := decide_eq_true q1
        have c1 : decide (j < l.length) = true := decide_eq_true hlt
        have w1 : wrap64 ((j : Int) + 1) = (j : Int) + 1 := off.w64 (by omega) (by omega)
        obtain ⟨ad, A1, c1', e0, y0, y1, y2, y3⟩ := at_T30 HC.out (j : Int) p1 q1
        subst e0
        rw [rd_list l j hlt] at y0 y1 y2 y3
        rw [Int.toNat_natCast] at y0 y1
        have HTK := Aside0.mk (itemsP_snoc l j hlt)
        have HSZ := Aside0.mk (foldP_size (l.take j) (fun x hx => HOK.out x (List.mem_of_mem_take hx)) (by rw [List.length_take]; omega))
        have HCO := Aside0.mk (HOK.out _ (List.getElem_mem hlt))
        obtain ⟨T, hTT⟩ : ∃ T, (itemsP (l.take j)).foldl addT ⟨#[]⟩ = T := ⟨_, rfl⟩
        have HTK2 := Aside0.mk (show (itemsP (l.take (j + 1))).foldl addT ⟨#[]⟩ = (items l[j].f0 l[j].f1).foldl addT T by rw [HTK.out, fold_append, hTT])
        rw [hTT] at HT HSZ
        obtain ⟨x, hx⟩ : ∃ x, l[j] = x := ⟨_, rfl⟩
        rw [hx] at y0 y1 y2 y3 HTK2 HCO
        replace y0 := (HB.out.cell (World.block_lt_of_cell? w _ y0)).trans y0
        replace y1 := (HB.out.cell (World.block_lt_of_cell? w _ y1)).trans y1
        have HYW := Aside0.mk (kstr_src y3)
        clear hx y3 hTT HTK
        obtain ⟨nm, vs⟩ := x
        simp only at y0 y1 y2 HYW HTK2
        by_cases hv : vs.length = 0
        · obtain rfl : vs = [] := List.eq_nil_of_length_eq_zero hv
          go_wp2_with (first | ((with_reducible refine gate_dst (N := 6) rfl ?_); refine box_event ?hg (N := 6) ?hd (cs := #[.string (⟨#[]⟩ : ByteArray), .slice none 0 0]) (t := 30) ?hr ?_; (case hd => rfl); (case hg => rfl); (case hr => first | (go_simp; done) | (go_simp; rfl)); intro gf hgf wa hbox hb; have BFa := Aside0.mk hbox; have HBa := Aside0.mk (show Below wo.heap.size wo wa from hb); have GF := Aside0.mk (show wo.heap.size ≤ gf by rw [hgf]; exact Nat.le_refl _); have z0 := (blk_cell hbox 0).trans (show _ = some (Value.string ⟨#[]⟩) from rfl); have z1 := (blk_cell hbox 1).trans (show _ = some (Value.slice none 0 0) from rfl); have f0 := blk_frozen hbox 0; have f1 := blk_frozen hbox 1; replace y0 := (hb.cell (World.block_lt_of_cell? wo _ y0)).trans y0; replace y1 := (hb.cell (World.block_lt_of_cell? wo _ y1)).trans y1; clear hbox hb hgf) | fail)
          have BF1 := Aside0.mk (blk_put (cs := #[.string nm, .slice none 0 0]) (blk_put (cs := #[.string (⟨#[]⟩ : ByteArray), .slice none 0 0]) BFa.out 0 (.string nm) rfl) 1 (.slice A1 0 c1') rfl)
          have HBe := Aside0.mk (below_set (j := 1) (v := .slice A1 0 c1') (below_set (j := 0) (v := .string nm) HBa.out GF.out) GF.out)
          clear y0 y1 z0 z1 f0 f1 BFa HBa
          generalize hW : World.setCell (World.setCell _ _ _) _ _ = W2
          rw [hW] at BF1 HBe
          have HT2 := Aside0.mk (blk_below HT.out HBe.out)
          have HB2 := Aside0.mk (below_step HB.out HBe.out)
          have q0 := (blk_cell BF1.out 0).trans (show _ = some (Value.string nm) from rfl)
          have q2 := (blk_cell BF1.out 1).trans (show _ = some (Value.slice A1 0 c1') from rfl)
          have HNE := Aside0.mk (show gt ≠ gf by have := blk_lt HT.out; have := GF.out; omega)
          have HT0 := Aside0.mk GT.out
          clear hW HT HBe HC
          have HADD := Aside0.mk (addC_any W2 gt T nm HT2.out (by have := HSZ.out; omega) (by have := HCO.out.name; simp only at this; omega))
          clear hv HT2
          refine HADD.out.mono ?_
          rintro e w5 ⟨rfl, ht5, ho5⟩
          have HT5 := Aside0.mk ht5
          have BF5 := Aside0.mk (ho5.blk BF1.out (by simp [In]; exact fun e => HNE.out e.symm))
          have q5 := (blk_cell BF5.out 1).trans (show _ = some (Value.slice A1 0 c1') from rfl)
          have HB5 := Aside0.mk (HB2.out.trans (ho5.below (base := w.heap.size) HB2.out.size (fun k hk => by simp [In] at hk; rw [hk]; exact HT0.out)))
          clear ht5 ho5 HADD
          go_wp2_with fail
          clear q5
          go_loopg [27] 1 (fun kq v27 w' => v27 = .int .i64 0 ∧ Aside0 (kq = 1) ∧ w5 = w')
          case atStart => exact ⟨rfl, ⟨rfl⟩, rfl⟩
          case round =>
            obtain ⟨rfl, HK2, rfl⟩ := hrel
            cases gk with
            | zero => exact absurd HK2.out (by omega)
            | succ k2 =>
              go_wp2_with fail
              go_roundg k1
              case measure => have := HK.out; omega
              case rel => exact ⟨j + 1, by go_num, hlt, ⟨by have := HK.out; omega⟩, ⟨by rw [HTK2.out]; exact HT5.out⟩, HB5⟩
        · have d0 : ((vs.length : Int) == 0) = false := beq_eq_false_iff_ne.2 (by omega)
          have d1 : (vs.length == 0) = false := beq_eq_false_iff_ne.2 hv
          have HIT := Aside0.mk (show items nm vs = vs.map fun v => (nm ++ (⟨#[61]⟩ : ByteArray)) ++ v by unfold items; rw [if_neg (fun e => hv (by rw [e]; rfl))])
          clear hv
          go_wp2_with (first | ((with_reducible refine gate_dst (N := 6) rfl ?_); refine box_event ?hg (N := 6) ?hd (cs := #[.string (⟨#[]⟩ : ByteArray), .slice none 0 0]) (t := 30) ?hr ?_; (case hd => rfl); (case hg => rfl); (case hr => first | (go_simp; done) | (go_simp; rfl)); intro gf hgf wa hbox hb; have BFa := Aside0.mk hbox; have HBa := Aside0.mk (show Below wo.heap.size wo wa from hb); have GF := Aside0.mk (show wo.heap.size ≤ gf by rw [hgf]; exact Nat.le_refl _); have z0 := (blk_cell hbox 0).trans (show _ = some (Value.string ⟨#[]⟩) from rfl); have z1 := (blk_cell hbox 1).trans (show _ = some (Value.slice none 0 0) from rfl); have f0 := blk_frozen hbox 0; have f1 := blk_frozen hbox 1; replace y0 := (hb.cell (World.block_lt_of_cell? wo _ y0)).trans y0; replace y1 := (hb.cell (World.block_lt_of_cell? wo _ y1)).trans y1; clear hbox hb hgf) | fail)
          have BF1 := Aside0.mk (blk_put (cs := #[.string nm, .slice none 0 0]) (blk_put (cs := #[.string (⟨#[]⟩ : ByteArray), .slice none 0 0]) BFa.out 0 (.string nm) rfl) 1 (.slice A1 vs.length c1') rfl)
          have HBe := Aside0.mk (below_set (j := 1) (v := .slice A1 vs.length c1') (below_set (j := 0) (v := .string nm) HBa.out GF.out) GF.out)
          clear y0 y1 z0 z1 f0 f1 BFa HBa
          generalize hW : World.setCell (World.setCell _ _ _) _ _ = W2
          rw [hW] at BF1 HBe
          have HT2 := Aside0.mk (blk_below HT.out HBe.out)
          have HB2 := Aside0.mk (below_step HB.out HBe.out)
          have q0 := (blk_cell BF1.out 0).trans (show _ = some (Value.string nm) from rfl)
          have q2 := (blk_cell BF1.out 1).trans (show _ = some (Value.slice A1 vs.length c1') from rfl)
          have HNE := Aside0.mk (show gt ≠ gf by have := blk_lt HT.out; have := GF.out; omega)
          have HT0 := Aside0.mk GT.out
          clear hW HT HBe HC
          clear q0 q2 d0 d1
          go_loopg [27] (vs.length + 1) (fun kq v27 w' => ∃ (i : Nat) (T2 : ByteArray), v27 = .int .i64 (i : Int) ∧ i ≤ vs.length ∧ Aside0 (kq + i = vs.length + 1) ∧ Aside0 (T2 = ((items nm vs).take i).foldl addT T) ∧ Aside0 (w'.heap[gt]? = some (.cells #[.string T2] 9 (0, 0))) ∧ Aside0 (Off (In [gt]) W2 w'))
          case atStart => exact ⟨0, T, rfl, Nat.zero_le _, ⟨by omega⟩, ⟨rfl⟩, HT2, ⟨Off.refl _ _⟩⟩
          case round =>
            clear HT2
            obtain ⟨i, T2, rfl, hi, HKi, HT2e, HT3, HO3⟩ := hrel
            have HB3 := Aside0.mk (HB2.out.trans (HO3.out.below (base := w.heap.size) HB2.out.size (fun k hk => by simp [In] at hk; rw [hk]; exact HT0.out)))
            cases gk with
            | zero => exact absurd HKi.out (by omega)
            | succ k2 =>
              by_cases hli : i < vs.length
              · have p2 : 0 ≤ (i : Int) := by omega
                have q2 : (i : Int) < (vs.length : Int) := by omega
                have d0 : decide ((i : Int) < (vs.length : Int)) = true := decide_eq_true q2
                have d1 : decide (i < vs.length) = true := decide_eq_true hli
                have w2 : wrap64 ((i : Int) + 1) = (i : Int) + 1 := off.w64 (by omega) (by have := HCO.out.most; simp only at this; omega)
                have BF3 := Aside0.mk (HO3.out.blk BF1.out (by simp [In]; exact fun e => HNE.out e.symm))
                have q0 := (blk_cell BF3.out 0).trans (show _ = some (Value.string nm) from rfl)
                obtain ⟨av, rfl, hc2⟩ := (Src.below HYW.out HB3.out).rd i _ (strs_get vs i hli)
                have hvs := HCO.out.vals _ (List.getElem_mem hli)
                have HTI2 := Aside0.mk (show ((items nm vs).take (i + 1)).foldl addT T = addT T2 ((nm ++ (⟨#[61]⟩ : ByteArray)) ++ vs[i]) by
                  rw [HT2e.out, HIT.out, ← List.map_take, ← List.map_take, List.take_succ_eq_append_getElem hli, List.map_append, fold_append]
                  rfl)
                have hT2s : T2.size ≤ 500000000 := by
                  have h1 := fold_size 3000 ((items nm vs).take i) T (fun s hs => items_size HCO.out.name HCO.out.vals s (List.mem_of_mem_take hs))
                  have h2 := HSZ.out
                  have h3 := HCO.out.most
                  simp only at h3
                  rw [← HT2e.out, List.length_take] at h1
                  have h4 : min i (items nm vs).length * (3000 + 1) ≤ 1000 * 3001 := Nat.mul_le_mul_right _ (by omega)
                  omega
                obtain ⟨x, hx⟩ : ∃ x, vs[i] = x := ⟨_, rfl⟩
                rw [hx] at hc2 HTI2 hvs
                have hnm : nm.size ≤ 1000 := HCO.out.name
                have s1 : (nm.size : Int) ≤ 1000 := by omega
                have s2 : (x.size : Int) ≤ 1000 := by omega
                have HADD := Aside0.mk (addC_any wr gt T2 ((nm ++ (⟨#[61]⟩ : ByteArray)) ++ x) HT3.out (by omega) (by rw [ByteArray.size_append, ByteArray.size_append]; have e : (⟨#[61]⟩ : ByteArray).size = 1 := rfl; omega))
                clear hx hvs hT2s
                go_wp2_with fail
                refine HADD.out.mono ?_
                rintro e w5 ⟨rfl, ht5, ho5⟩
                have HT5 := Aside0.mk ht5
                have HO5 := Aside0.mk (HO3.out.trans ho5)
                clear ht5 ho5 HADD
                go_wp2_with fail
                go_roundg k2
                case measure => have := HKi.out; omega
                case rel => exact ⟨i + 1, _, by go_num, hli, ⟨by have := HKi.out; omega⟩, ⟨HTI2.out.symm⟩, HT5, HO5⟩
              · have d0 : decide ((i : Int) < (vs.length : Int)) = false := decide_eq_false (by omega)
                have d1 : decide (i < vs.length) = false := decide_eq_false hli
                have HTA := Aside0.mk (show (items nm vs).take i = items nm vs from List.take_of_length_le (by rw [HIT.out, List.length_map]; omega))
                have HTE := Aside0.mk (show (itemsP (l.take (j + 1))).foldl addT ⟨#[]⟩ = T2 by rw [HTK2.out, HT2e.out, HTA.out])
                go_wp2_with fail
                go_roundg k1
                case measure => have := HK.out; omega
                case rel => exact ⟨j + 1, by go_num, hlt, ⟨by have := HK.out; omega⟩, ⟨by rw [HTE.out]; exact HT3.out⟩, HB3⟩
      · have c0 : decide ((j : Int) < (l.length : Int)) = false := decide_eq_false (by omega)
        have c1 : decide (j < l.length) = false := decide_eq_false hlt
        have HTT := Aside0.mk (show l.take j = l from List.take_of_length_le (by omega))
        rw [HTT.out] at HT
        have q0 := (blk_cell HT.out 0).trans (show _ = some (Value.string ((itemsP l).foldl addT ⟨#[]⟩)) from rfl)
        go_wp2_with fail
        go_ret
        exact ⟨rfl, HB.out⟩
end Go.Proofs.YtdobblddnfalcaaDoor.cap
