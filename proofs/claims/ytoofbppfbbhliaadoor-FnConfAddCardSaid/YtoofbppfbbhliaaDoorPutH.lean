/- config: the walks of cfGets, spec.OptionsOf and FnConfGet. -/
import Derived.Test.YtoofbppfbbhliaaDoorPutG
namespace Go.Proofs.YtoofbppfbbhliaaDoor.confP
open Go.RowKit Go.Proofs.YtoofbppfbbhliaaDoorW.PrintWords Go.Proofs.YtoofbppfbbhliaaDoorW.PrintLast Go.Proofs.YtoofbppfbbhliaaDoorW.PrintMore Go.Proofs.YtoofbppfbbhliaaDoor.PFnConfAdd Go.Proofs.YtoofbppfbbhliaaDoor.ptr
set_option linter.unusedVariables false
set_option linter.unusedSimpArgs false
set_option maxHeartbeats 2000000
set_option maxRecDepth 100000
theorem C_one {α : Type} {d : Kd α} {w : World} {g : Nat} {cells : Array Value} {t : TypeId} {fr : Nat × Nat} {x : α} (h : w.heap[g]? = some (.cells cells t fr)) (hK : d.K w x cells.toList) : d.C w (some ⟨g, 0, none⟩) 1 [x] := by
  refine ⟨rfl, by decide, fun _ => ⟨_, rfl, fun j p hj => ?_⟩⟩
  match j, hj with
  | 0, hj =>
    cases hj
    refine ⟨cells.toList, d.K_len hK, hK, fun i u hu => ?_⟩
    rw [Nat.zero_mul, Nat.zero_add, Lib.addr_add, Nat.zero_add, Lib.cell_of_heap h]
    simpa using hu
def oneOpt : S112 := ⟨⟨#[97]⟩, ⟨#[98]⟩⟩
def oneSec : S71 := ⟨⟨#[120]⟩, [oneOpt], []⟩
theorem word_x : Word ⟨#[120]⟩ := ⟨fun j b h => by
  match j, h with
  | 0, h => cases h; decide
  | j + 1, h => simp at h, by decide⟩
theorem word_a : Word ⟨#[97]⟩ := ⟨fun j b h => by
  match j, h with
  | 0, h => cases h; decide
  | j + 1, h => simp at h, by decide⟩
theorem one_fits : Fits [oneSec] := ⟨by decide, fun s hs => by rw [List.mem_singleton.1 hs]; exact ⟨by decide, by decide, fun x hx => (List.not_mem_nil hx).elim⟩⟩
theorem one_words : Words [oneSec] := fun s hs => by
  rw [List.mem_singleton.1 hs]
  exact ⟨word_x, fun o ho => by rw [List.mem_singleton.1 ho]; exact word_a, fun x hx => (List.not_mem_nil hx).elim⟩
theorem one_opts : optsOf [oneSec] ⟨#[120]⟩ ⟨#[]⟩ = [oneOpt] := by
  have e : secOf [oneSec] ⟨#[120]⟩ = oneSec := lastD_at (p := fun s : S71 => eqB s.f0 ⟨#[120]⟩) (l := [oneSec]) (j := 0) (by decide) (eqB_iff.2 rfl) (fun o ho => by simp at ho)
  rw [optsOf, if_pos (by rw [ByteArray.toList_eq]), e]; rfl
theorem one_val : lastVal [oneOpt] ⟨#[97]⟩ = ⟨#[98]⟩ := lastVal_at (l := [oneOpt]) (j := 0) (by decide) (eqB_iff.2 rfl) (fun o ho => by simp at ho)
theorem one_C {w : World} {g1 g2 : Nat} (h1 : w.heap[g1]? = some (.cells #[.string ⟨#[97]⟩, .string ⟨#[98]⟩] 112 (0, 0))) (h2 : w.heap[g2]? = some (.cells #[.string ⟨#[120]⟩, .slice (some ⟨g1, 0, none⟩) 1 1, .slice none 0 0] 71 (0, 0))) : Kd.C k71 w (some ⟨g2, 0, none⟩) 1 [oneSec] :=
  C_one h2 (k71_mk w oneSec (A1 := some ⟨g1, 0, none⟩) (c1 := 1) (A2 := none) (c2 := 0) (Nat.le_refl _) (C_one h1 (k112_mk w oneOpt)) (Nat.le_refl _) (Kd.C_nil _ _))
theorem getLast_at (l : List ByteArray) (h : 0 < l.length) : (l.getLast?).getD ⟨#[]⟩ = l[l.length - 1]'(by omega) := by
  rw [List.getLast?_eq_getElem?, List.getElem?_eq_getElem (by omega)]; rfl
theorem blk_new1 (w : World) (o o' : Obj) : ((w.alloc o).alloc o').heap[w.heap.size + 1]? = some o' := by
  have := blk_new (w.alloc o) o'
  rwa [show (w.alloc o).heap.size = w.heap.size + 1 by simp] at this
theorem cfGets_any (A0 Aw : Option Addr) (c0 cw : Nat) (l0 : List S71) (section_ sub key : ByteArray) (w : World) (hr0 : Kd.C k71 w A0 l0.length l0) (hc0 : l0.length ≤ c0) (hl : Fits l0) (hw : Words l0) (hs : Word section_) (hk : Word key)
    (hrw : Kd.C Kd.string w Aw (allVals (optsOf l0 section_ sub) key).length (allVals (optsOf l0 section_ sub) key)) (hcw : (allVals (optsOf l0 section_ sub) key).length ≤ cw) (hlw : (allVals (optsOf l0 section_ sub) key).length ≤ 4294967295) :
    Calls Tryd.prog 38 #[.slice A0 l0.length c0, .string section_, .string sub, .string key, .slice Aw (allVals (optsOf l0 section_ sub) key).length cw] w fun e w' => e = .returned (.bool true) ∧ Below w.heap.size w w' := by
  have HG := Aside0.mk (getOption_any A0 c0 l0 section_ sub key w hr0 hc0 hl hw hs hk)
  have HLV := Aside0.mk (lastVal_of (optsOf l0 section_ sub) key)
  have HSM := Aside0.mk (same_f (allVals (optsOf l0 section_ sub) key) hlw)
  obtain ⟨o, ho⟩ : ∃ o, optsOf l0 section_ sub = o := ⟨_, rfl⟩
  rw [ho] at HG HLV HSM hrw hcw hlw
  rw [ho]
  obtain ⟨lv, hlv⟩ : ∃ lv, lastVal o key = lv := ⟨_, rfl⟩
  rw [hlv] at HLV
  obtain ⟨vs, hvs⟩ : ∃ vs, allVals o key = vs := ⟨_, rfl⟩
  rw [hvs] at HLV HSM hrw hcw hlw
  rw [hvs]
  have HRW := Aside0.mk hrw
  have HV := Aside0.mk hvs
  have HLO := Aside0.mk hlv
  clear hr0 hl hw hs hk hrw ho hvs hlv
  go_enter Tryd.func38, Tryd.ntmps38
  go_wp2_with fail
  refine HG.out.mono ?_
  clear HG
  rintro e w1 ⟨v1, rfl, hR1, hb1⟩
  rw [HLO.out]
  rw [HV.out] at hR1
  obtain ⟨A1, c1, e1⟩ := Kd.R_slice hR1
  subst e1
  obtain ⟨_, hc1, hC1⟩ := Kd.R_reads' hR1
  have HC1 := Aside0.mk hC1
  have HB1 := Aside0.mk hb1
  clear hR1 hb1 hC1
  by_cases hz : 0 < vs.length
  · have hz1 : decide (0 < (vs.length : Int)) = true := decide_eq_true (by omega)
    have hrd := Kd.at_string HRW.out ((vs.length : Int) - 1) (by omega) (by omega)
    obtain ⟨ad, ea, hcell⟩ := hrd
    subst ea
    replace hcell := (HB1.out.cell (World.block_lt_of_cell? w _ hcell)).trans hcell
    have ei : ((vs.length : Int) - 1).toNat = vs.length - 1 := by omega
    have hlast : rdOf ByteArray.empty vs ((vs.length : Int) - 1) = lv := by
      rw [HLV.out, getLast_at vs hz]
      unfold rdOf
      rw [ei, List.getD_eq_getElem?_getD, List.getElem?_eq_getElem (by omega)]; rfl
    rw [hlast, ei] at hcell
    have hw0 : wrap64 ((vs.length : Int) - 1) = (vs.length : Int) - 1 := w64 (by omega) (by omega)
    clear hlast
    go_wp2_with fail
    refine (getOption_any (some ⟨w1.heap.size + 1, 0, none⟩) 1 [oneSec] ⟨#[120]⟩ ⟨#[]⟩ ⟨#[97]⟩ _ (one_C (blk_alloc (blk_new w1 _) _) (blk_new1 w1 _ _)) (Nat.le_refl _) one_fits one_words word_x word_a).mono ?_
    rintro e w2 ⟨v2, rfl, _, hb2⟩
    rw [one_opts, one_val]
    have HB2 := Aside0.mk (below_step (below_alloc (below_alloc HB1.out _) _) hb2)
    have HB12 := Aside0.mk (below_step (below_alloc (below_alloc (Below.refl w1.heap.size w1) _) _) hb2)
    have HS := Aside0.mk (spec_SameValues.calls _ A1 c1 vs _ cw vs true w2 (Kd.C_below HC1.out HB12.out) hc1 (Kd.C_below HRW.out HB2.out) hcw HSM.out)
    clear hb2
    go_wp2_with fail
    refine HS.out.mono ?_
    clear HS
    rintro e w3 ⟨rfl, hb3⟩
    have HB3 := Aside0.mk (below_step HB2.out hb3.below)
    clear hb3
    go_wp2
    go_ret
    exact ⟨rfl, HB3.out⟩
  · have hv0 : vs = [] := List.length_eq_zero_iff.1 (by omega)
    subst hv0
    have hl0 : lv = ⟨#[]⟩ := HLV.out
    subst hl0
    go_wp2_with fail
    refine (getOption_any (some ⟨w1.heap.size + 1, 0, none⟩) 1 [oneSec] ⟨#[120]⟩ ⟨#[]⟩ ⟨#[97]⟩ _ (one_C (blk_alloc (blk_new w1 _) _) (blk_new1 w1 _ _)) (Nat.le_refl _) one_fits one_words word_x word_a).mono ?_
    rintro e w2 ⟨v2, rfl, _, hb2⟩
    rw [one_opts, one_val]
    have HB2 := Aside0.mk (below_step (below_alloc (below_alloc HB1.out _) _) hb2)
    have HB12 := Aside0.mk (below_step (below_alloc (below_alloc (Below.refl w1.heap.size w1) _) _) hb2)
    have HS := Aside0.mk (spec_SameValues.calls _ A1 c1 [] _ cw [] true w2 (Kd.C_below HC1.out HB12.out) hc1 (Kd.C_below HRW.out HB2.out) hcw HSM.out)
    clear hb2
    go_wp2_with fail
    refine HS.out.mono ?_
    clear HS
    rintro e w3 ⟨rfl, hb3⟩
    have HB3 := Aside0.mk (below_step HB2.out hb3.below)
    clear hb3
    go_wp2
    go_ret
    exact ⟨rfl, HB3.out⟩
end Go.Proofs.YtoofbppfbbhliaaDoor.confP
