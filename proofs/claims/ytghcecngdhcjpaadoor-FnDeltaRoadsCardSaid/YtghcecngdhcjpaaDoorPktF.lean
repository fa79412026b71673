/- Packet lines: impl.ReadLines. -/
import Derived.Test.YtghcecngdhcjpaaDoorPktE
import Derived.BigQuiet
namespace Go.Proofs.YtghcecngdhcjpaaDoor.pkt
open Go.RowKit Go.Proofs.YtghcecngdhcjpaaDoorW.PrintWords Go.Proofs.YtghcecngdhcjpaaDoorW.PrintLast Go.Proofs.YtghcecngdhcjpaaDoorW.PrintMore Go.Proofs.YtghcecngdhcjpaaDoor.PFnSideBack
set_option linter.unusedVariables false
set_option linter.unusedSimpArgs false
set_option maxHeartbeats 2000000
set_option maxRecDepth 100000
theorem newReader_any (w : World) (A : Option Addr) (n c : Nat) : Calls Tryd.prog 25 #[.slice A n c] w fun e w' => ∃ gr, w.heap.size ≤ gr ∧ e = .returned (.pointer (some ⟨gr, 0, none⟩)) ∧ AtRd w' gr A n c 0 ∧ Below w.heap.size w w' := by
  go_enter Tryd.func25, Tryd.ntmps25
  go_wp2_with (first | ((with_reducible refine gate_dst (N := 5) rfl ?_); refine box_event ?hg (N := 5) ?hd (cs := rdCells A n c 0 (-1)) (t := 95) ?hr ?_; (case hd => rfl); (case hg => rfl); (case hr => first | (go_simp; done) | (go_simp; rfl)); intro gr hgr w1 hbox hb1; have HBX := Aside0.mk hbox; have HB1 := Aside0.mk (below_step (Below.refl w.heap.size w) hb1); have HGR := Aside0.mk (show w.heap.size ≤ gr from by rw [hgr]; exact Nat.le_refl _); clear hbox hb1 hgr) | fail)
  go_ret
  exact ⟨gr, HGR.out, rfl, ⟨-1, HBX.out⟩, HB1.out⟩
theorem newScanner_any (w : World) (gr : Nat) : Calls Tryd.prog 34 #[.iface 63 (.pointer (some ⟨gr, 0, none⟩))] w fun e w' => ∃ gs, w.heap.size ≤ gs ∧ e = .returned (.pointer (some ⟨gs, 0, none⟩)) ∧ AtSc w' gs gr .nilIface (.slice none 0 0) [0, 0, 0, 0] ∧ Below w.heap.size w w' := by
  go_enter Tryd.func34, Tryd.ntmps34
  go_wp2_with (first | ((with_reducible refine gate_dst (N := 5) rfl ?_); refine box_event ?hg (N := 5) ?hd (cs := (scL gr .nilIface (.slice none 0 0) [0, 0, 0, 0]).toArray) (t := 126) ?hr ?_; (case hd => rfl); (case hg => rfl); (case hr => first | (go_simp; done) | (go_simp; rfl)); intro gs hgs w1 hbox hb1; have HBX := Aside0.mk hbox; have HB1 := Aside0.mk (below_step (Below.refl w.heap.size w) hb1); have HGR := Aside0.mk (show w.heap.size ≤ gs from by rw [hgs]; exact Nat.le_refl _); clear hbox hb1 hgs) | fail)
  go_ret
  exact ⟨gs, HGR.out, rfl, HBX.out, HB1.out⟩
theorem bytes_any (w : World) (gs : Nat) (v : Value) (A : Option Addr) (n c : Nat) (hv : v = .slice A n c) (h : w.cell? ⟨gs, 2, none⟩ = some v) : Calls Tryd.prog 36 #[.pointer (some ⟨gs, 0, none⟩)] w fun e w' => e = .returned v ∧ w = w' := by
  subst hv
  go_enter Tryd.func36, Tryd.ntmps36
  go_wp2
  go_ret
  exact ⟨rfl, rfl⟩
theorem err_any (w : World) (gs : Nat) (v : Value) (hv : v = .nilIface ∨ ∃ τ u, v = .iface τ u) (h : w.cell? ⟨gs, 1, none⟩ = some v) : Calls Tryd.prog 37 #[.pointer (some ⟨gs, 0, none⟩)] w fun e w' => e = .returned v ∧ w' = w := by
  rcases hv with rfl | ⟨τ, u, rfl⟩
  · go_enter Tryd.func37, Tryd.ntmps37
    go_wp2
    go_ret
    exact ⟨rfl, rfl⟩
  · go_enter Tryd.func37, Tryd.ntmps37
    go_wp2
    go_ret
    exact ⟨rfl, rfl⟩
/-- No line of an error is met. -/
def Calm : Nat → List Int → Prop
  | 0, _ => True
  | k + 1, bs => ¬ errAt bs ∧ ∀ p r, stp bs = .line p r → Calm k r
theorem stp_drop {xs : List Int} {i : Nat} {p r : List Int} (h : stp (xs.drop i) = .line p r) : i + 4 + p.length ≤ xs.length ∧ r = xs.drop (i + 4 + p.length) ∧ p.length ≤ 65520 := by
  obtain ⟨h1, h2, h3⟩ := stp_line h
  rw [List.length_drop] at h1
  refine ⟨by omega, ?_, h3⟩
  have h4 : (xs.drop i).drop (4 + p.length) = r := by
    have hl : (((xs.drop i).take 4) ++ p).length = 4 + p.length := by rw [List.length_append, List.length_take, List.length_drop]; omega
    rw [h2, ← hl, List.drop_left]
  rw [← h4, List.drop_drop]
  congr 1
  omega
abbrev kL : Kd (List Int) := Kd.slice 5 (Kd.int .u8)
theorem info22 : (Tryd.prog.info? 25).map (fun i => (i.zero, i.size, i.bytes)) = some (some (.slice none 0 0), 1, 24) := by kernel_rfl
/-- The empty literal's row. -/
theorem R_emptyL (w : World) (base : Nat) (h : base ≤ w.heap.size) : (Kd.int .u8).R 5 (w.alloc (.cells #[] 5 (0, 0))) base (fun _ => True) (.slice (some ⟨w.heap.size, 0, none⟩) 0 0) [] :=
  Kd.R_of_own ⟨rfl, .inr ⟨w.heap.size, 0, #[], rfl, h, blk_new w _, Nat.le_refl _, Nat.zero_le _, rfl, rfl⟩⟩ (fun _ _ => trivial)
def okp (gs gr : Nat) (pv : Value) (k : Nat) : Prop := k ≠ gs ∧ k ≠ gr ∧ some k ≠ pv.ownBlock
theorem PayOk.own_lt {w : World} {base : Nat} {pv : Value} (h : PayOk w base pv) : ∀ k, pv.ownBlock = some k → k < w.heap.size := by
  rintro k hk
  rcases h with rfl | ⟨gp, n, cp, cur, rfl, hg, _⟩
  · cases hk
  · injection hk with hk
    subst hk
    exact blk_lt hg
theorem okp_move {w w' : World} {gs gr e base : Nat} {pv pv' v : Value} {dn : List (List Int)} (h : kL.R e w base (okp gs gr pv) v dn) (hn : Near3 w w' gs gr pv.ownBlock) (ho : ∀ k, pv'.ownBlock = some k → pv.ownBlock = some k ∨ w.heap.size ≤ k) : kL.R e w' base (okp gs gr pv') v dn :=
  Kd.R_mono (Kd.R_move (Kd.R_bound h) (fun k hk => hn.block k hk.2.2.1 hk.1.1 hk.1.2.1 hk.1.2.2)) (fun k hk => ⟨hk.1.1, hk.1.2.1, fun he => by
    rcases ho k he.symm with h | h
    · exact hk.1.2.2 h.symm
    · have := hk.2.2.1; omega⟩)
def LinesPost (w : World) (xs : List Int) (e : Ending) (w' : World) : Prop := ∃ A' c', e = .returned (.tuple #[.slice A' (run (xs.length + 1) xs).1.length c', .bool (run (xs.length + 1) xs).2]) ∧ (run (xs.length + 1) xs).1.length ≤ c' ∧ (run (xs.length + 1) xs).1.length ≤ xs.length ∧ kL.C w' A' (run (xs.length + 1) xs).1.length (run (xs.length + 1) xs).1 ∧ Below w.heap.size w w'
theorem readLines_any (w : World) (A : Option Addr) (c : Nat) (xs : List Int) (a1 a2 a3 : Addr) (hS : (Kd.int .u8).C w A xs.length xs) (hc : xs.length ≤ c) (hby : ∀ x ∈ xs, 0 ≤ x ∧ x < 256) (hx : xs.length ≤ 2147483647) (hE : Errs w a1 a2 a3) (hT : Calm (xs.length + 1) xs ∨ TrimOK w) :
    Calls Tryd.prog 18 #[.slice A xs.length c] w (LinesPost w xs) := by
  have HS := Aside0.mk hS
  have HE := Aside0.mk hE
  have HT := Aside0.mk hT
  have HBY := Aside0.mk hby
  obtain ⟨res, hres⟩ : ∃ res, run (xs.length + 1) xs = res := ⟨_, rfl⟩
  have HRS := Aside0.mk hres
  unfold LinesPost
  rw [hres]
  obtain ⟨rl, rb⟩ := res
  clear hS hE hT hby hres
  go_enter Tryd.func18, Tryd.ntmps18
  have HNR := Aside0.mk (newReader_any w A xs.length c)
  go_wp2_with fail
  refine HNR.out.mono ?_
  rintro e w1 ⟨gr, hgr, rfl, hrd, hb1⟩
  have HGR := Aside0.mk hgr
  have HRD := Aside0.mk hrd
  have HB1 := Aside0.mk hb1
  clear hgr hrd hb1
  have HNS := Aside0.mk (newScanner_any w1 gr)
  clear HNR
  go_wp2_with fail
  refine HNS.out.mono ?_
  rintro e w2 ⟨gs, hgs, rfl, hsc, hb2⟩
  have HGS := Aside0.mk (Nat.le_trans HB1.out.size hgs)
  have HNE := Aside0.mk (show gs ≠ gr from by obtain ⟨pr, h⟩ := HRD.out; have := blk_lt h; omega)
  have HRD2 := Aside0.mk (HRD.out.below hb2)
  have HSC := Aside0.mk hsc
  have HB2 := Aside0.mk (below_step HB1.out hb2)
  clear hgs hsc hb2 HRD HB1 HNS
  go_wp2_with fail
  go_loopg [5] (xs.length + 1) (fun kq v5 w' => ∃ (i : Nat) (dn : List (List Int)) (pv : Value) (l : List Int) (lv : Value), lv = v5 ∧ i ≤ xs.length ∧ Aside0 (dn.length ≤ i) ∧ Aside0 ((xs.drop i).length < kq) ∧ Aside0 ((rl, rb) = (dn ++ (run kq (xs.drop i)).1, (run kq (xs.drop i)).2)) ∧ Aside0 (Calm kq (xs.drop i) ∨ TrimOK w) ∧ Aside0 (l.length = 4) ∧ Aside0 (AtSc w' gs gr .nilIface pv l) ∧ Aside0 (AtRd w' gr A xs.length c i) ∧ Aside0 (PayOk w' w.heap.size pv) ∧ Aside0 (Below w.heap.size w w') ∧ Aside0 (kL.R 25 w' w.heap.size (okp gs gr pv) lv dn))
  case atStart => exact ⟨0, [], .slice none 0 0, [0, 0, 0, 0], _, rfl, by omega, ⟨by simp⟩, ⟨by simp⟩, ⟨by rw [List.nil_append, List.drop_zero]; exact HRS.out.symm⟩, ⟨by simpa using HT.out⟩, ⟨rfl⟩, HSC, HRD2, ⟨.inl rfl⟩, HB2, ⟨Kd.R_nil _ _ _ _ _⟩⟩
  case round =>
    clear HRS HT HSC HRD2 HB2
    obtain ⟨i, dn, pv, l, lv, hlv, hi, HDN, HK, HRS, HT, HL, HSC, HRD, HP, HB, HO⟩ := hrel
    subst hlv
    cases gk with
    | zero => exact absurd HK.out (by omega)
    | succ k1 =>
      have HSN := Aside0.mk (scan_any w wr A c xs gs gr i .nilIface pv l a1 a2 a3 HS.out hc HBY.out HB.out HRD.out HSC.out HL.out HNE.out HGR.out HGS.out hi hx HE.out HP.out (HT.out.elim (fun h he => absurd he h.1) (fun h _ => h)))
      cases hst : stp (xs.drop i) with
      | done =>
        have hr := HRS.out
        rw [run, hst] at hr
        simp only [List.append_nil] at hr
        injection hr with h1 h2
        subst h1 h2
        rw [hst] at HSN
        unfold ScanPost at HSN
        clear hst HRS HT
        go_wp2_with fail
        refine HSN.out.mono ?_
        rintro e w3 ⟨err', pv', l', hn3, hl', hsc3, hp3, hown3, hb3, rfl, rfl⟩
        have HO3 := Aside0.mk (okp_move HO.out hn3 hown3)
        have HB3 := Aside0.mk hb3
        have HSC3 := Aside0.mk hsc3
        have hcell := (blk_cell hsc3 1).trans (show _ = some Value.nilIface from rfl)
        clear HSN HO HB HSC HRD HP hn3 hl' hsc3 hp3 hown3 hb3
        obtain ⟨Al, cl, hvl, hcl, hCl⟩ := Kd.R_reads HO3.out
        subst hvl
        have HCL := Aside0.mk hCl
        clear hCl HO3
        go_wp2_with fail
        go_quiet ((go_at_call 37; exact Calls.quiet_of_same (err_any _ gs _ (.inl rfl) hcell)))
        all_goals go_wp2
        all_goals go_ret2
        all_goals exact ⟨Al, cl, rfl, hcl, by have := HDN.out; omega, Kd.C_below HCL.out (pw_below_drewN (Below.refl _ _) _), pw_below_drewN HB3.out _⟩
      | bad =>
        have hr := HRS.out
        rw [run, hst] at hr
        simp only [List.append_nil] at hr
        injection hr with h1 h2
        subst h1 h2
        rw [hst] at HSN
        unfold ScanPost at HSN
        clear hst HRS HT
        go_wp2_with fail
        refine HSN.out.mono ?_
        rintro e w3 ⟨err', pv', l', hn3, hl', hsc3, hp3, hown3, hb3, rfl, τe, ue, rfl⟩
        have HO3 := Aside0.mk (okp_move HO.out hn3 hown3)
        have HB3 := Aside0.mk hb3
        have HSC3 := Aside0.mk hsc3
        have hcell := (blk_cell hsc3 1).trans (show _ = some (Value.iface τe ue) from rfl)
        clear HSN HO HB HSC HRD HP hn3 hl' hsc3 hp3 hown3 hb3
        obtain ⟨Al, cl, hvl, hcl, hCl⟩ := Kd.R_reads HO3.out
        subst hvl
        have HCL := Aside0.mk hCl
        clear hCl HO3
        go_wp2_with fail
        go_quiet ((go_at_call 37; exact Calls.quiet_of_same (err_any _ gs _ (.inr ⟨_, _, rfl⟩) hcell)))
        all_goals go_wp2
        all_goals go_ret2
        all_goals exact ⟨Al, cl, rfl, hcl, by have := HDN.out; omega, Kd.C_below HCL.out (pw_below_drewN (Below.refl _ _) _), pw_below_drewN HB3.out _⟩
      | line p r =>
        obtain ⟨hip, hr, hpl⟩ := stp_drop hst
        subst hr
        rw [hst] at HSN
        unfold ScanPost at HSN
        have HRS2 := HRS.out
        rw [run, hst] at HRS2
        have HT2 := Aside0.mk (HT.out.imp (fun h => h.2 _ _ hst) id)
        have HRS2 := Aside0.mk HRS2
        clear hst HRS HT
        go_wp2_with fail
        refine HSN.out.mono ?_
        rintro e w3 ⟨err', pv', l', hn3, hl', hsc3, hp3, hown3, hb3, rfl, rfl, hrd3, A', cp, rfl, hcp, hC3⟩
        have HO3 := Aside0.mk (okp_move HO.out hn3 hown3)
        have HB3 := Aside0.mk hb3
        have HSC3 := Aside0.mk hsc3
        have HP3 := Aside0.mk hp3
        have HL3 := Aside0.mk hl'
        have HR3 := Aside0.mk hrd3
        have HC3 := Aside0.mk hC3
        have hcell := (blk_cell (blk_alloc hsc3 (.cells #[] 5 (0, 0))) 2).trans (show _ = some (Value.slice A' p.length cp) from rfl)
        have HBY2 := Aside0.mk (bytes_any _ gs (.slice A' p.length cp) A' p.length cp rfl hcell)
        clear HSN HO HB HSC HRD HP hn3 hl' hsc3 hp3 hown3 hb3 hrd3 hC3 hcell
        go_wp2_with fail
        refine HBY2.out.mono ?_
        rintro e w4 ⟨rfl, rfl⟩
        clear HBY2
        have HOKP := Aside0.mk (show ∀ k, w3.heap.size ≤ k → okp gs gr (.slice A' p.length cp) k ∧ some k ≠ lv.ownBlock from fun k hk => ⟨⟨by have := blk_lt HSC3.out; omega, by obtain ⟨pr, h⟩ := HR3.out; have := blk_lt h; omega, fun he => by have := HP3.out.own_lt k he.symm; omega⟩, Kd.fresh' (Kd.R_lt HO3.out) k hk⟩)
        have HBD := Aside0.mk (show (dn.length + 1) * 24 ≤ 140737488355328 by have := HDN.out; omega)
        go_wp2_with (first | ((with_reducible refine gate_builtin (b := .append) (xs := #[.tmp 13, .tmp 15]) rfl ?_); at_builtin; refine Kd.R_append_row (Value.int .u8) 0 (w0 := w3) w3.heap.size rfl (.tmp 13) (.tmp 15) 25 5 (.int .u8 0) 1 rfl Tryd.underlying25 info5 rfl (by decide) _ [] p A' p.length cp (fun _ => True) rfl rfl (fun _ _ => trivial) (R_emptyL w3 _ (Nat.le_refl _)) (Kd.C_alloc HC3.out _) (below_alloc (Below.refl _ _) _) (by simp) (by simp; omega) ?_; intro v4 w4 hR4 hB4 _ _; have HR4 := Aside0.mk hR4; have HB4 := Aside0.mk hB4; have HBX4 := Aside0.mk (below_step HB3.out hB4); have HO4 := Aside0.mk (Kd.R_below HO3.out hB4); have HIN := Aside0.mk (Kd.R_lower (Kd.R_mono (Kd.R_bound hR4) (fun k hk => hk.2.1) : (Kd.int .u8).R 5 w4 _ (fun k => w3.heap.size ≤ k) _ _) HB3.out.size); have HFR := Aside0.mk (show ∀ k, w4.heap.size ≤ k → okp gs gr (.slice A' p.length cp) k from fun k hk => (HOKP.out k (Nat.le_trans hB4.size hk)).1); have HSC4 := Aside0.mk ((hB4.block gs (blk_lt HSC3.out)).trans HSC3.out); have HR5 := Aside0.mk (HR3.out.below hB4); have HP4 := Aside0.mk (HP3.out.far (fun k hk hlt => hB4.block k hlt)); obtain ⟨A4, c4, rfl⟩ := Kd.R_slice hR4; clear hR4 hB4) | ((with_reducible refine gate_builtin (b := .append) (xs := #[.tmp 12, .tmp 17]) rfl ?_); at_builtin; go_must (refine Kd.R_append kL (w0 := w) w.heap.size rfl (.tmp 12) (.tmp 17) 41 25 (.slice none 0 0) 24 rfl Tryd.underlying41 info22 rfl (by decide) (by omega) _ dn p [_] (okp gs gr (.slice A' p.length cp)) (fun k => w3.heap.size ≤ k) rfl rfl (Kd.M_row HIN.out) HOKP.out HFR.out HO4.out HBX4.out (below_size HBX4.out) HBD.out ?_); intro v7 w7 ho hb hg hat; go_must (have HO7 := Aside0.mk ho; have HB7 := Aside0.mk hb; have HG7 := Aside0.mk hg; clear ho hb hg hat)) | fail)
        have HOK4 := Aside0.mk (show ∀ k, lv.ownBlock = some k → okp gs gr (.slice A' p.length cp) k from HO4.out.1)
        go_roundg k1
        case measure => omega
        case rel => exact ⟨i + 4 + p.length, dn ++ [p], .slice A' p.length cp, l', _, rfl, hip, ⟨by rw [List.length_append, List.length_singleton]; have := HDN.out; omega⟩, ⟨by have := HK.out; rw [List.length_drop] at this ⊢; omega⟩, ⟨by rw [List.append_assoc]; exact HRS2.out⟩, HT2, HL3, ⟨(HG7.out.block gs (blk_lt HSC4.out) (fun he => (HOK4.out gs he.symm).1 rfl)).trans HSC4.out⟩, ⟨by obtain ⟨pr, h⟩ := HR5.out; exact ⟨pr, (HG7.out.block gr (blk_lt h) (fun he => (HOK4.out gr he.symm).2.1 rfl)).trans h⟩⟩, ⟨HP4.out.far (fun k hk hlt => HG7.out.block k hlt (fun he => (HOK4.out k he.symm).2.2 hk.symm))⟩, HB7, HO7⟩
end Go.Proofs.YtghcecngdhcjpaaDoor.pkt
