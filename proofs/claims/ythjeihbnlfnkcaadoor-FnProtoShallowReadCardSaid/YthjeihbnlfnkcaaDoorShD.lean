/- Shallow lines: ShallowUpdate.Decode. -/
import Derived.Test.YthjeihbnlfnkcaaDoorShC
namespace Go.Proofs.YthjeihbnlfnkcaaDoor.shal
open Go.RowKit Go.Lib Go.Proofs.YthjeihbnlfnkcaaDoorW.PrintWords Go.Proofs.YthjeihbnlfnkcaaDoorW.PrintLast Go.Proofs.YthjeihbnlfnkcaaDoorW.PrintMore Go.Proofs.YthjeihbnlfnkcaaDoor.PFnProtoShallowRead Go.Proofs.YthjeihbnlfnkcaaDoor.pkt Go.Proofs.YthjeihbnlfnkcaaDoor.hash
set_option linter.unusedVariables false
set_option linter.unusedSimpArgs false
set_option maxHeartbeats 2000000
set_option maxRecDepth 100000
/-- The names of one kind, in their order. -/
def sel (b : Bool) (l : List (Bool × ByteArray)) : List ByteArray := (l.filter fun x => x.1 == b).map (·.2)
theorem sel_snoc (b : Bool) (l : List (Bool × ByteArray)) (x : Bool × ByteArray) : sel b (l ++ [x]) = if x.1 = b then sel b l ++ [x.2] else sel b l := by
  unfold sel
  rw [List.filter_append, List.filter_cons]
  by_cases h : x.1 = b
  · simp [h]
  · simp [h]
theorem sel_len (b : Bool) (l : List (Bool × ByteArray)) : (sel b l).length ≤ l.length := by
  unfold sel
  rw [List.length_map]
  exact List.length_filter_le _ _
theorem sel_mono (b : Bool) (l : List (Bool × ByteArray)) (j : Nat) : (sel b (l.take j)).length ≤ (sel b l).length := by
  unfold sel
  rw [List.length_map, List.length_map]
  conv => rhs; rw [← List.take_append_drop j l, List.filter_append, List.length_append]
  omega
theorem stp_line_at {l : List (Bool × ByteArray)} (h : ∀ x ∈ l, name40 x.2 = true) {j : Nat} (hj : j < l.length) : stp (plines (lines (l.drop j))) = .line (line l[j]) (plines (lines (l.drop (j + 1)))) := by
  rw [List.drop_eq_getElem_cons hj]
  show stp (pline (line l[j]) ++ plines (lines (l.drop (j + 1)))) = _
  exact stp_pline (line_good (h _ (List.getElem_mem hj)))
theorem stp_last {l : List (Bool × ByteArray)} {j : Nat} (hj : l.length ≤ j) : stp (plines (lines (l.drop j))) = .line [] [] := by
  rw [List.drop_of_length_le hj]
  have := stp_pline (p := []) (r := []) ⟨by decide, by decide⟩
  exact this
theorem calm_at {l : List (Bool × ByteArray)} (h : ∀ x ∈ l, name40 x.2 = true) (j : Nat) : ¬ errAt (plines (lines (l.drop j))) :=
  (calm_plines 1 (lines (l.drop j)) (lines_good (fun x hx => h x (List.mem_of_mem_drop hx)))).1
/-- What Decode leaves in the box of its receiver. -/
def Got (w0 w : World) (ub : Nat) (a b : List ByteArray) : Prop := ∃ A1 c1 A2 c2, w.heap[ub]? = some (.cells #[.slice A1 a.length c1, .slice A2 b.length c2] 53 (0, 0)) ∧
  kH.R 85 w w0.heap.size (fun _ => True) (.slice A1 a.length c1) a ∧ kH.R 85 w w0.heap.size (fun _ => True) (.slice A2 b.length c2) b ∧
  (∀ k, Value.ownBlock (.slice A1 a.length c1) = some k → Value.ownBlock (.slice A2 b.length c2) ≠ some k)
theorem tab_below {n : String} {g : Nat} {k : IntKind} {zs : List Int} {w w' : World} (hg : Tryd.prog.globalNamed n = some g) (h : Lib.TabIs Tryd.prog w n k zs) (hb : Below w.heap.size w w') : Lib.TabIs Tryd.prog w' n k zs := by
  unfold Lib.TabIs World.var? at h ⊢
  rw [hg] at h ⊢
  simp only [Option.bind_some] at h ⊢
  cases hh : w.heap[g]? with
  | none => rw [hh] at h; simp at h
  | some o =>
    have hlt : g < w.heap.size := (Array.getElem?_eq_some_iff.1 hh).1
    rw [hb.block g hlt]
    exact h
theorem take_snoc {α : Type} {l : List α} {j : Nat} (h : j < l.length) : l.take (j + 1) = l.take j ++ [l[j]] := List.take_succ_eq_append_getElem h
/-- A block of another type is as it was. -/
theorem far_block {w w' : World} {ub g base : Nat} {t : TypeId} {cs cu : Array Value} {v : Value} {l : List ByteArray} (h : w.heap[g]? = some (.cells cs t (0, 0))) (h1 : t ≠ 53) (h2 : t ≠ 85) (hn : Near3 w w' ub ub (Value.ownBlock v))
    (hU : w.heap[ub]? = some (.cells cu 53 (0, 0))) (hR : kH.R 85 w base (fun _ => True) v l) : w'.heap[g]? = some (.cells cs t (0, 0)) := by
  have hne : g ≠ ub := blk_ne h hU h1
  refine (hn.block g (blk_lt h) hne hne (fun e => ?_)).trans h
  obtain ⟨c2, hc⟩ := Kd.R_typed hR g e.symm
  exact blk_ne h hc h2 rfl
theorem kH_other {w w' : World} {ub base : Nat} {cu : Array Value} {v u : Value} {m : List ByteArray} (h : kH.R 85 w base (fun _ => True) u m) (hn : Near3 w w' ub ub (Value.ownBlock v))
    (hU : w.heap[ub]? = some (.cells cu 53 (0, 0))) (ha : ∀ k, Value.ownBlock u = some k → Value.ownBlock v = some k → False) : kH.R 85 w' base (fun _ => True) u m := by
  refine kH_same h fun k hk => ?_
  obtain ⟨cs, hc⟩ := Kd.R_typed h k hk
  have hne : k ≠ ub := blk_ne hc hU (by decide)
  exact hn.block k (blk_lt hc) hne hne (fun e => ha k hk e.symm)
theorem decode_any (w0 w : World) (A : Option Addr) (c : Nat) (l : List (Bool × ByteArray)) (xs : List Int) (hxs : plines (lines l) = xs) (ub gr : Nat) (a1 a2 a3 : Addr) (ev : Value) (hg : ∀ x ∈ l, name40 x.2 = true) (hll : l.length ≤ 2000)
    (hS : (Kd.int .u8).C w0 A xs.length xs) (hc : xs.length ≤ c) (hby : ∀ x ∈ xs, 0 ≤ x ∧ x < 256) (hx : xs.length ≤ 2147483647) (hE : Errs w0 a1 a2 a3) (hEL : w0.cell? ⟨14, 0, none⟩ = some ev) (hT : Lib.TabIs Tryd.prog w0 "bytes.asciiSpace" .u8 Lib.asciiSpaceTab)
    (hB : Below w0.heap.size w0 w) (hub : w0.heap.size ≤ ub) (hgr : w0.heap.size ≤ gr) (hR : AtRd w gr A xs.length c 0) (hU : w.heap[ub]? = some (.cells #[.slice none 0 0, .slice none 0 0] 53 (0, 0))) (hk1 : (sel true l).length ≤ 1000) (hk2 : (sel false l).length ≤ 1000) :
    Calls Tryd.prog 26 #[.pointer (some ⟨ub, 0, none⟩), .iface 57 (.pointer (some ⟨gr, 0, none⟩))] w fun e w' => e = .returned .nilIface ∧ Got w0 w' ub (sel true l) (sel false l) ∧ Below w0.heap.size w0 w' := by
  have HXS := Aside0.mk hxs
  have HG := Aside0.mk hg
  have HS := Aside0.mk hS
  have HBY := Aside0.mk hby
  have HE := Aside0.mk hE
  have HEL := Aside0.mk hEL
  have HT := Aside0.mk hT
  have HB0 := Aside0.mk hB
  have HRD0 := Aside0.mk hR
  have HU0 := Aside0.mk hU
  have HK1 := Aside0.mk hk1
  have HK2 := Aside0.mk hk2
  clear hxs hg hS hby hE hEL hT hB hR hU hk1 hk2
  go_enter Tryd.func26, Tryd.ntmps26
  have HNS := Aside0.mk (newScanner_any w gr)
  go_wp2_with fail
  refine HNS.out.mono ?_
  rintro e w2 ⟨gs, hgs, rfl, hsc, hb2⟩
  have HGS := Aside0.mk (Nat.le_trans HB0.out.size hgs)
  have HNE := Aside0.mk (show gs ≠ gr from by obtain ⟨pr, h⟩ := HRD0.out; have := blk_lt h; omega)
  have HRD := Aside0.mk (HRD0.out.below hb2)
  have HSC := Aside0.mk hsc
  have HB2 := Aside0.mk (HB0.out.trans (hb2.mono HB0.out.size))
  have HU2 := Aside0.mk (blk_below HU0.out hb2)
  clear hgs hsc hb2 HRD0 HB0 HNS HU0
  go_wp2_with fail
  go_loopg [6] (l.length + 1) (fun kq v6 w' => ∃ (u6 : Value) (j i : Nat) (pv : Value) (lx : List Int), u6 = v6 ∧ j ≤ l.length ∧ i ≤ xs.length ∧ Aside0 (kq + j = l.length + 1) ∧ Aside0 (xs.drop i = plines (lines (l.drop j))) ∧ Aside0 (lx.length = 4) ∧ Aside0 (AtSc w' gs gr .nilIface pv lx) ∧ Aside0 (AtRd w' gr A xs.length c i) ∧ Aside0 (PayOk w' w0.heap.size pv) ∧ Aside0 (Below w0.heap.size w0 w') ∧ Aside0 (Got w0 w' ub (sel true (l.take j)) (sel false (l.take j))))
  case atStart =>
    refine ⟨_, 0, 0, .slice none 0 0, [0, 0, 0, 0], rfl, Nat.zero_le _, Nat.zero_le _, ⟨by omega⟩, ⟨by rw [List.drop_zero, List.drop_zero]; exact HXS.out.symm⟩, ⟨rfl⟩, HSC, HRD, ⟨.inl rfl⟩, HB2, ⟨?_⟩⟩
    exact ⟨none, 0, none, 0, HU2.out, Kd.R_nil _ _ _ _ _, Kd.R_nil _ _ _ _ _, fun k hk => by cases hk⟩
  case round =>
    clear HSC HRD HB2 HU2
    obtain ⟨u6, j, i, pv, lx, hu6, hj, hi, HKQ, HD, HL, HSC, HRD, HP, HB, HGT⟩ := hrel
    subst hu6
    have HSN := Aside0.mk (scan_any w0 wr A c xs gs gr i .nilIface pv lx a1 a2 a3 HS.out hc HBY.out HB.out HRD.out HSC.out HL.out HNE.out hgr HGS.out hi hx HE.out HP.out (fun he => absurd (show errAt (plines (lines (l.drop j))) from HD.out ▸ he) (calm_at HG.out j)))
    obtain ⟨A1, c1, A2, c2, hU, hR1, hR2, hap⟩ := HGT.out
    have HU := Aside0.mk hU
    have HR1 := Aside0.mk hR1
    have HR2 := Aside0.mk hR2
    have HAP := Aside0.mk hap
    have HPN := Aside0.mk (show ∀ k, pv.ownBlock = some k → ∀ cs, wr.heap[k]? ≠ some (.cells cs 85 (0, 0)) from fun k hk cs he => HP.out.ne he (by decide) k hk rfl)
    have HUP := Aside0.mk (show some ub ≠ pv.ownBlock from fun e => HP.out.ne HU.out (by decide) ub e.symm rfl)
    clear hU hR1 hR2 hap HGT
    cases gk with
    | zero => exact absurd HKQ.out (by omega)
    | succ k1 =>
      by_cases hlt : j < l.length
      · have hst := stp_line_at HG.out hlt
        rw [← HD.out] at hst
        obtain ⟨hip, hdr, hpl⟩ := stp_drop hst
        rw [hst] at HSN
        unfold ScanPost at HSN
        have HD2 := Aside0.mk hdr.symm
        have HNX := Aside0.mk (HG.out _ (List.getElem_mem hlt))
        obtain ⟨x, hx0⟩ : ∃ x, l[j] = x := ⟨_, rfl⟩
        have HX := Aside0.mk hx0
        rw [hx0] at hst hip hdr hpl HSN HD2 HNX
        clear hst hdr hpl hx0
        go_wp2_with fail
        refine HSN.out.mono ?_
        rintro e w3 ⟨err', pv', l', hn3, hl', hsc3, hp3, hown3, hb3, rfl, rfl, hrd3, A', cp, rfl, hcp, hC3⟩
        have HLN := Aside0.mk (show (line x).length = (bare x).length + 1 from by unfold line; rw [List.length_append]; rfl)
        have HM0 := Aside0.mk (line_len HNX.out).1
        have hp3' := hp3
        rcases hp3 with hp3 | ⟨gp, n, cp2, cur, hpv, hpg, hpc, hpn, hpb⟩
        · injection hp3 with _ h2 _
          have := HLN.out
          omega
        injection hpv with h1 h2 h3
        subst h1 h3
        have HPG := Aside0.mk hpg
        have HPC1 := Aside0.mk hpc
        have HPB := Aside0.mk hpb
        have HCP := Aside0.mk hcp
        have HC3 := Aside0.mk hC3
        have HSC3 := Aside0.mk hsc3
        have HRD3 := Aside0.mk hrd3
        have HL3 := Aside0.mk hl'
        have HB3 := Aside0.mk hb3
        have HU3 := Aside0.mk ((hn3.block ub (blk_lt HU.out) (blk_ne HU.out HSC.out (by decide)) (by obtain ⟨pr, h⟩ := HRD.out; exact blk_ne HU.out h (by decide)) HUP.out).trans HU.out)
        have HR13 := Aside0.mk (show kH.R 85 w3 w0.heap.size (fun _ => True) (.slice A1 (sel true (l.take j)).length c1) (sel true (l.take j)) from by obtain ⟨pr, h⟩ := HRD.out; exact kH_near HR1.out hn3 HSC.out (by decide) h (by decide) HPN.out)
        have HR23 := Aside0.mk (show kH.R 85 w3 w0.heap.size (fun _ => True) (.slice A2 (sel false (l.take j)).length c2) (sel false (l.take j)) from by obtain ⟨pr, h⟩ := HRD.out; exact kH_near HR2.out hn3 HSC.out (by decide) h (by decide) HPN.out)
        have hcell := (blk_cell hsc3 2).trans (show _ = some (Value.slice (some ⟨gp, 0, none⟩) (line x).length cp) from rfl)
        have HBY2 := Aside0.mk (bytes_any _ gs _ _ _ _ rfl hcell)
        clear hn3 hl' hsc3 hp3' hown3 hb3 hrd3 hcp hC3 hpg hpc hpn hpb h2 hcell HSN
        obtain ⟨tf, s⟩ := x
        have HKA := Aside0.mk (show (sel true (l.take j)).length ≤ 1000 from Nat.le_trans (sel_mono true l j) HK1.out)
        have HKB := Aside0.mk (show (sel false (l.take j)).length ≤ 1000 from Nat.le_trans (sel_mono false l j) HK2.out)
        clear HK1 HK2
        have HK1 := HKA
        have HK2 := HKB
        clear HKA HKB
        cases tf
        · have HM := Aside0.mk (show (bare (false, s)).length = 50 from HM0.out)
          have HTR := Aside0.mk (trim_line w3 gp cp (line (false, s)).length 50 (false, s) HNX.out rfl HM.out HC3.out HCP.out (tab_below (g := 2) (by kernel_rfl) HT.out HB3.out))
          go_wp2_with fail
          refine HBY2.out.mono ?_
          rintro e w4 ⟨rfl, rfl⟩
          clear HBY2
          go_wp2_with fail
          refine HTR.out.mono ?_
          rintro e w4 ⟨rfl, rfl⟩
          clear HTR
          have HSW := Aside0.mk (shallow_any w4)
          go_wp2_with fail
          refine HSW.out.mono ?_
          rintro e w5 ⟨Ap, cpp, rfl, hcp5, hC5, hb5⟩
          have HB5 := Aside0.mk hb5
          have HPX := Aside0.mk (prefix_any (false, s) HNX.out true false rfl w5 (some ⟨gp, 0, none⟩) Ap 50 cp cpp HM.out (Kd.C_below (C_bare HC3.out) hb5) (by have := HCP.out; have := HLN.out; have := HM.out; omega) hC5 hcp5)
          clear HSW hb5 hC5
          go_wp2_with fail
          refine HPX.out.mono ?_
          rintro e w6 ⟨rfl, hd6⟩
          have HB6 := Aside0.mk (below_step HB5.out hd6.below)
          clear HPX hd6
          have HSW2 := Aside0.mk (unshallow_any w6)
          go_wp2_with fail
          refine HSW2.out.mono ?_
          rintro e w7 ⟨Ap2, cpp2, rfl, hcp7, hC7, hb7⟩
          have HB7 := Aside0.mk (below_step HB6.out hb7)
          have HPX2 := Aside0.mk (prefix_any (false, s) HNX.out false true rfl w7 (some ⟨gp, 0, none⟩) Ap2 50 cp cpp2 HM.out (Kd.C_below (C_bare HC3.out) HB7.out) (by have := HCP.out; have := HLN.out; have := HM.out; omega) hC7 hcp7)
          clear HSW2 hb7 hC7
          go_wp2_with fail
          refine HPX2.out.mono ?_
          rintro e w8 ⟨rfl, hd8⟩
          have HB8 := Aside0.mk (below_step HB7.out hd8.below)
          clear HPX2 hd8
          have HBW := Aside0.mk (HB3.out.trans (HB8.out.mono HB3.out.size))
          have HUW := Aside0.mk (blk_below HU3.out HB8.out)
          have HR1W := Aside0.mk (Kd.R_below HR13.out HB8.out)
          have HR2W := Aside0.mk (Kd.R_below HR23.out HB8.out)
          have HEV := Aside0.mk ((HBW.out.cell (World.block_lt_of_cell? _ _ HEL.out)).trans HEL.out)
          have HDC := Aside0.mk (decodeUnshallowLine_any w0 w8 ub A2 (some ⟨gp, 0, none⟩) c2 cp (.slice A1 (sel true (l.take j)).length c1) (sel false (l.take j)) s ev HEV.out HNX.out (Kd.C_below (C_bare HC3.out) HB8.out) (by have := HCP.out; have := HLN.out; have := HM.out; omega) HUW.out HR2W.out HBW.out hub (by have := HK2.out; omega))
          go_wp2_with fail
          refine HDC.out.mono ?_
          rintro e w9 ⟨A9, c9, rfl, hU9, hR9, hn9, ho9, hb9⟩
          have HSC9 := Aside0.mk (far_block (blk_below HSC3.out HB8.out) (by decide) (by decide) hn9 HUW.out HR2W.out)
          have HPG9 := Aside0.mk (far_block (blk_below HPG.out HB8.out) (by decide) (by decide) hn9 HUW.out HR2W.out)
          have HRD9 := Aside0.mk (show AtRd w9 gr A xs.length c (i + 4 + (line (false, s)).length) from by obtain ⟨pr, h⟩ := HRD3.out; exact ⟨pr, far_block (blk_below h HB8.out) (by decide) (by decide) hn9 HUW.out HR2W.out⟩)
          have HAPW := Aside0.mk (show ∀ k, Value.ownBlock (.slice A1 (sel true (l.take j)).length c1) = some k → Value.ownBlock (.slice A2 (sel false (l.take j)).length c2) ≠ some k from HAP.out)
          have HRO := Aside0.mk (kH_other HR1W.out hn9 HUW.out (fun k h1 h2 => HAP.out k h1 h2))
          have HU9 := Aside0.mk hU9
          have HR9 := Aside0.mk hR9
          have HO9 := Aside0.mk ho9
          have HB9 := Aside0.mk hb9
          clear hU9 hR9 hn9 ho9 hb9 HDC
          go_wp2_with fail
          go_roundg k1
          case measure => omega
          case rel =>
            refine ⟨_, j + 1, i + 4 + (line (false, s)).length, .slice (some ⟨gp, 0, none⟩) (line (false, s)).length cp, l', rfl, by omega, hip, ⟨by have := HKQ.out; omega⟩, ⟨HD2.out⟩, HL3, HSC9, HRD9, ⟨.inr ⟨gp, _, cp, cur, rfl, HPG9.out, HPC1.out, HCP.out, HPB.out⟩⟩, HB9, ⟨?_⟩⟩
            have e1 : sel true (l.take (j + 1)) = sel true (l.take j) := by rw [take_snoc hlt, HX.out, sel_snoc]; rfl
            have e2 : sel false (l.take (j + 1)) = sel false (l.take j) ++ [s] := by rw [take_snoc hlt, HX.out, sel_snoc]; rfl
            rw [e1, e2]
            have e3 : (sel false (l.take j) ++ [s]).length = (sel false (l.take j)).length + 1 := by rw [List.length_append, List.length_singleton]
            refine ⟨A1, c1, A9, c9, by rw [e3]; exact HU9.out, HRO.out, by rw [e3]; exact HR9.out, fun k hk => ?_⟩
            rw [e3]
            rcases HO9.out with h | ⟨b, h, hle⟩
            · rw [h]; exact HAP.out k hk
            · intro he
              have := Kd.R_lt HR1W.out k hk
              rw [h] at he; injection he with he; omega
        · have HM := Aside0.mk (show (bare (true, s)).length = 48 from HM0.out)
          have HTR := Aside0.mk (trim_line w3 gp cp (line (true, s)).length 48 (true, s) HNX.out rfl HM.out HC3.out HCP.out (tab_below (g := 2) (by kernel_rfl) HT.out HB3.out))
          go_wp2_with fail
          refine HBY2.out.mono ?_
          rintro e w4 ⟨rfl, rfl⟩
          clear HBY2
          go_wp2_with fail
          refine HTR.out.mono ?_
          rintro e w4 ⟨rfl, rfl⟩
          clear HTR
          have HSW := Aside0.mk (shallow_any w4)
          go_wp2_with fail
          refine HSW.out.mono ?_
          rintro e w5 ⟨Ap, cpp, rfl, hcp5, hC5, hb5⟩
          have HB5 := Aside0.mk hb5
          have HPX := Aside0.mk (prefix_any (true, s) HNX.out true true rfl w5 (some ⟨gp, 0, none⟩) Ap 48 cp cpp HM.out (Kd.C_below (C_bare HC3.out) hb5) (by have := HCP.out; have := HLN.out; have := HM.out; omega) hC5 hcp5)
          clear HSW hb5 hC5
          go_wp2_with fail
          refine HPX.out.mono ?_
          rintro e w6 ⟨rfl, hd6⟩
          have HB6 := Aside0.mk (below_step HB5.out hd6.below)
          clear HPX hd6
          have HBW := Aside0.mk (HB3.out.trans (HB6.out.mono HB3.out.size))
          have HUW := Aside0.mk (blk_below HU3.out HB6.out)
          have HR1W := Aside0.mk (Kd.R_below HR13.out HB6.out)
          have HR2W := Aside0.mk (Kd.R_below HR23.out HB6.out)
          have HEV := Aside0.mk ((HBW.out.cell (World.block_lt_of_cell? _ _ HEL.out)).trans HEL.out)
          have HDC := Aside0.mk (decodeShallowLine_any w0 w6 ub A1 (some ⟨gp, 0, none⟩) c1 cp (.slice A2 (sel false (l.take j)).length c2) (sel true (l.take j)) s ev HEV.out HNX.out (Kd.C_below (C_bare HC3.out) HB6.out) (by have := HCP.out; have := HLN.out; have := HM.out; omega) HUW.out HR1W.out HBW.out hub (by have := HK1.out; omega))
          go_wp2_with fail
          refine HDC.out.mono ?_
          rintro e w9 ⟨A9, c9, rfl, hU9, hR9, hn9, ho9, hb9⟩
          have HSC9 := Aside0.mk (far_block (blk_below HSC3.out HB6.out) (by decide) (by decide) hn9 HUW.out HR1W.out)
          have HPG9 := Aside0.mk (far_block (blk_below HPG.out HB6.out) (by decide) (by decide) hn9 HUW.out HR1W.out)
          have HRD9 := Aside0.mk (show AtRd w9 gr A xs.length c (i + 4 + (line (true, s)).length) from by obtain ⟨pr, h⟩ := HRD3.out; exact ⟨pr, far_block (blk_below h HB6.out) (by decide) (by decide) hn9 HUW.out HR1W.out⟩)
          have HAPW := Aside0.mk (show ∀ k, Value.ownBlock (.slice A1 (sel true (l.take j)).length c1) = some k → Value.ownBlock (.slice A2 (sel false (l.take j)).length c2) ≠ some k from HAP.out)
          have HRO := Aside0.mk (kH_other HR2W.out hn9 HUW.out (fun k h1 h2 => HAP.out k h2 h1))
          have HU9 := Aside0.mk hU9
          have HR9 := Aside0.mk hR9
          have HO9 := Aside0.mk ho9
          have HB9 := Aside0.mk hb9
          clear hU9 hR9 hn9 ho9 hb9 HDC
          go_wp2_with fail
          go_roundg k1
          case measure => omega
          case rel =>
            refine ⟨_, j + 1, i + 4 + (line (true, s)).length, .slice (some ⟨gp, 0, none⟩) (line (true, s)).length cp, l', rfl, by omega, hip, ⟨by have := HKQ.out; omega⟩, ⟨HD2.out⟩, HL3, HSC9, HRD9, ⟨.inr ⟨gp, _, cp, cur, rfl, HPG9.out, HPC1.out, HCP.out, HPB.out⟩⟩, HB9, ⟨?_⟩⟩
            have e1 : sel true (l.take (j + 1)) = sel true (l.take j) ++ [s] := by rw [take_snoc hlt, HX.out, sel_snoc]; rfl
            have e2 : sel false (l.take (j + 1)) = sel false (l.take j) := by rw [take_snoc hlt, HX.out, sel_snoc]; rfl
            rw [e1, e2]
            have e3 : (sel true (l.take j) ++ [s]).length = (sel true (l.take j)).length + 1 := by rw [List.length_append, List.length_singleton]
            refine ⟨A9, c9, A2, c2, by rw [e3]; exact HU9.out, by rw [e3]; exact HR9.out, HRO.out, fun k hk => ?_⟩
            rw [e3] at hk
            rcases HO9.out with h | ⟨b, h, hle⟩
            · exact HAP.out k (by rw [← h]; exact hk)
            · intro he
              have := Kd.R_lt HR2W.out k he
              rw [h] at hk; injection hk with hk; omega
      · have hst := stp_last (l := l) (j := j) (by omega)
        rw [← HD.out] at hst
        rw [hst] at HSN
        unfold ScanPost at HSN
        obtain rfl : j = l.length := by omega
        clear hst
        go_wp2_with fail
        refine HSN.out.mono ?_
        rintro e w3 ⟨err', pv', l', hn3, hl', hsc3, hp3, hown3, hb3, rfl, rfl, hrd3, A', cp, rfl, hcp, hC3⟩
        have HB3 := Aside0.mk hb3
        have HU3 := Aside0.mk ((hn3.block ub (blk_lt HU.out) (blk_ne HU.out HSC.out (by decide)) (by obtain ⟨pr, h⟩ := HRD.out; exact blk_ne HU.out h (by decide)) HUP.out).trans HU.out)
        have HR13 := Aside0.mk (show kH.R 85 w3 w0.heap.size (fun _ => True) (.slice A1 (sel true (l.take l.length)).length c1) (sel true (l.take l.length)) from by obtain ⟨pr, h⟩ := HRD.out; exact kH_near HR1.out hn3 HSC.out (by decide) h (by decide) HPN.out)
        have HR23 := Aside0.mk (show kH.R 85 w3 w0.heap.size (fun _ => True) (.slice A2 (sel false (l.take l.length)).length c2) (sel false (l.take l.length)) from by obtain ⟨pr, h⟩ := HRD.out; exact kH_near HR2.out hn3 HSC.out (by decide) h (by decide) HPN.out)
        have hcell := (blk_cell hsc3 2).trans (show _ = some (Value.slice A' 0 cp) from rfl)
        have HBY2 := Aside0.mk (bytes_any _ gs _ _ _ _ rfl hcell)
        have HTR := Aside0.mk (trim_none w3 A' cp (by
          rcases hp3 with hp3 | ⟨gp, n, cp2, cur, hpv, _⟩
          · injection hp3 with h1 _ h3; exact .inl ⟨h1, h3⟩
          · injection hpv with h1 _ h3; exact .inr ⟨gp, h1⟩) (tab_below (g := 2) (by kernel_rfl) HT.out hb3))
        clear hn3 hl' hsc3 hp3 hown3 hb3 hrd3 hcp hC3 hcell HSN
        go_wp2_with fail
        refine HBY2.out.mono ?_
        rintro e w4 ⟨rfl, rfl⟩
        clear HBY2
        go_wp2_with fail
        refine HTR.out.mono ?_
        rintro e w4 ⟨rfl, rfl⟩
        clear HTR
        have HSW := Aside0.mk (shallow_any w4)
        go_wp2_with fail
        refine HSW.out.mono ?_
        rintro e w5 ⟨Ap, cpp, rfl, hcp5, hC5, hb5⟩
        have HB5 := Aside0.mk hb5
        have HPX := Aside0.mk (prefix_none true w5 Ap cpp hC5 hcp5)
        clear HSW hb5 hC5
        go_wp2_with fail
        refine HPX.out.mono ?_
        rintro e w6 ⟨rfl, hd6⟩
        have HB6 := Aside0.mk (below_step HB5.out hd6.below)
        clear HPX hd6
        have HSW2 := Aside0.mk (unshallow_any w6)
        go_wp2_with fail
        refine HSW2.out.mono ?_
        rintro e w7 ⟨Ap2, cpp2, rfl, hcp7, hC7, hb7⟩
        have HB7 := Aside0.mk (below_step HB6.out hb7)
        have HPX2 := Aside0.mk (prefix_none false w7 Ap2 cpp2 hC7 hcp7)
        clear HSW2 hb7 hC7
        go_wp2_with fail
        refine HPX2.out.mono ?_
        rintro e w8 ⟨rfl, hd8⟩
        have HB8 := Aside0.mk (below_step HB7.out hd8.below)
        clear HPX2 hd8
        go_wp2_with fail
        go_ret
        have hbw := HB3.out.trans (HB8.out.mono HB3.out.size)
        have hU3 := HU3.out
        have hR13 := HR13.out
        have hR23 := HR23.out
        have hap := HAP.out
        simp only [List.take_length] at hU3 hR13 hR23 hap
        refine ⟨rfl, ?_, by first | exact hbw | exact below_drew1 hbw⟩
        exact ⟨A1, c1, A2, c2, blk_below hU3 HB8.out, Kd.R_below hR13 HB8.out, Kd.R_below hR23 HB8.out, hap⟩
end Go.Proofs.YthjeihbnlfnkcaaDoor.shal
