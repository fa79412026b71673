/- Capabilities: impl.CapsText; the law FnCapsWritten. -/
import Derived.Test.YtdobblddnfalcaaDoorCapP
import Derived.Test.YtdobblddnfalcaaDoorPktG
namespace Go.Proofs.YtdobblddnfalcaaDoor.cap
open Go.RowKit Go.Proofs.YtdobblddnfalcaaDoorW.PrintWords Go.Proofs.YtdobblddnfalcaaDoorW.PrintLast Go.Proofs.YtdobblddnfalcaaDoorW.PrintMore Go.Proofs.YtdobblddnfalcaaDoor.off Go.Proofs.YtdobblddnfalcaaDoor.mapq Go.Proofs.YtdobblddnfalcaaDoor.PFnCapsWritten Go.Proofs.YtdobblddnfalcaaDoor.pkt
set_option linter.unusedVariables false
set_option linter.unusedSimpArgs false
set_option maxHeartbeats 2000000
set_option maxRecDepth 100000
theorem sig_items {rows : List Row} {l : List S30} (h : sig rows = pairs l) : itemsOf rows = itemsP l := by
  have e1 : itemsOf rows = (sig rows).flatMap fun q => items q.1 q.2 := by
    unfold itemsOf sig
    rw [List.flatMap_map]
  have e2 : itemsP l = (pairs l).flatMap fun q => items q.1 q.2 := by
    unfold itemsP pairs
    rw [List.flatMap_map]
  rw [e1, e2, h]
theorem sig_rowOk {rows : List Row} {l : List S30} (h : sig rows = pairs l) (hl : ∀ x ∈ l, CapOk x) : ∀ r ∈ rows, RowOk r := by
  intro r hr
  have h1 : (r.name, r.vs) ∈ sig rows := List.mem_map.2 ⟨r, hr, rfl⟩
  rw [h] at h1
  obtain ⟨x, hx, e⟩ := List.mem_map.1 h1
  injection e with e1 e2
  have hx' := hl x hx
  exact ⟨by rw [← e1]; exact hx'.name, by rw [← e2]; exact hx'.vals, by rw [← e2]; exact hx'.most⟩
theorem implText_any (w : World) (A : Option Addr) (cc : Nat) (l : List S30) (hC : Kd.C k30 w A l.length l) (hg : Goods l) :
    Calls Tryd.prog 8 #[.slice A l.length cc] w fun e w' => e = .returned (.tuple #[.string (joinB (itemsP l)), .bool true]) ∧ Below w.heap.size w w' := by
  have HL := Aside0.mk (capList_any w A cc l hC (fun x hx => (hg.good x hx).args) hg.nd (by have := hg.most; omega))
  have HG := Aside0.mk hg
  clear hC hg
  go_enter Tryd.func8, Tryd.ntmps8
  go_wp2_with fail
  refine HL.out.mono ?_
  rintro e w1 ⟨gl, gm, sv, rows, rfl, hL, hs, hb⟩
  have HB1 := Aside0.mk hb
  have hi := sig_items hs
  have hm := HG.out.most
  have HS := Aside0.mk (listString_any w1 gl gm sv rows hL.s (by rw [sig_names hs]; exact HG.out.nd) (sig_rowOk hs HG.out.caps) (by rw [sig_len hs]; omega) (fun W A c hb h => by
    rw [hi] at h ⊢
    exact join_any _ (itemsP_size l HG.out.caps) (Nat.le_trans (itemsP_len l HG.out.caps) (by omega)) W A c h))
  rw [hi] at HS
  clear hb hL hs hi hm
  go_wp2_with fail
  refine HS.out.mono ?_
  rintro e w2 ⟨rfl, hb⟩
  have HB2 := Aside0.mk (below_step HB1.out hb)
  clear hb
  go_wp2_with fail
  go_ret2
  exact ⟨rfl, HB2.out⟩
theorem written_law (w : World) (A : Option Addr) (n cc : Nat) (l : List S30) (hC : Kd.C k30 w A l.length l) (hn : l.length = n) (hcc : n ≤ cc) (a1 a2 a3 : Addr) (hE : Errs w a1 a2 a3) :
    Calls Tryd.prog 3 #[.slice A n cc] w fun e w' => e = .returned (.bool true) ∧ Below w.heap.size w w' := by
  subst hn
  have HC := Aside0.mk hC
  have HW := Aside0.mk (fun W (hb : Below w.heap.size w W) => pktWorks_any W a1 a2 a3 (hE.below hb))
  obtain ⟨F0, b0, hf0, hq0⟩ := fits_says l
  have HF := Aside0.mk (laws_zzFits29.calls _ A cc l b0 w hC hcc (hf0 F0 (Nat.le_refl _)))
  clear hC hE hf0
  cases b0 with
  | false =>
    go_enter Tryd.func3, Tryd.ntmps3
    go_wp2_with fail
    refine HF.out.mono ?_
    rintro e w1 ⟨rfl, hb⟩
    have HB := Aside0.mk hb
    clear hb
    go_wp2_with fail
    go_ret
    exact ⟨rfl, HB.out⟩
  | true =>
    obtain ⟨hl, hsm⟩ := hq0 rfl
    obtain ⟨F1, b1, hf1, hq1⟩ := goods_says l hl hsm
    have HG := Aside0.mk (fun W (hb : Below w.heap.size w W) => spec_GoodCaps.calls _ A cc l b1 W (Kd.C_below HC.out hb) hcc (hf1 F1 (Nat.le_refl _)))
    clear hq0 hl hsm hf1 hcc
    cases b1 with
    | false =>
      clear hq1
      go_enter Tryd.func3, Tryd.ntmps3
      go_wp2_with fail
      refine HF.out.mono ?_
      rintro e w1 ⟨rfl, hb⟩
      have HB1 := Aside0.mk hb
      clear hb
      go_wp2_with fail
      refine (HG.out _ HB1.out).mono ?_
      rintro e w2 ⟨rfl, hb⟩
      have HB2 := Aside0.mk (below_step HB1.out hb)
      clear hb
      go_wp2_with fail
      refine (HW.out _ HB2.out).mono ?_
      rintro e w3 ⟨rfl, hb⟩
      have HB3 := Aside0.mk (below_step HB2.out hb)
      clear hb
      go_wp2_with fail
      go_ret
      exact ⟨rfl, HB3.out⟩
    | true =>
      have HGD := Aside0.mk (hq1 rfl)
      clear hq1
      have HI := Aside0.mk (fun W (hb : Below w.heap.size w W) => implText_any W A cc l (Kd.C_below HC.out hb) HGD.out)
      have HT := Aside0.mk (fun W (hb : Below w.heap.size w W) => capsText_any W A cc l (Kd.C_below HC.out hb) HGD.out.caps (by have := HGD.out.most; omega))
      rw [fold_join _ HGD.out.full] at HT
      generalize joinB (itemsP l) = s at HI HT
      have c0 : (s.toList == s.toList) = true := beq_self_eq_true _
      go_enter Tryd.func3, Tryd.ntmps3
      go_wp2_with fail
      refine HF.out.mono ?_
      rintro e w1 ⟨rfl, hb⟩
      have HB1 := Aside0.mk hb
      clear hb
      go_wp2_with fail
      refine (HG.out _ HB1.out).mono ?_
      rintro e w2 ⟨rfl, hb⟩
      have HB2 := Aside0.mk (below_step HB1.out hb)
      clear hb
      go_wp2_with fail
      refine (HI.out _ HB2.out).mono ?_
      rintro e w3 ⟨rfl, hb⟩
      have HB3 := Aside0.mk (below_step HB2.out hb)
      clear hb
      go_wp2_with fail
      refine (HT.out _ HB3.out).mono ?_
      rintro e w4 ⟨rfl, hb⟩
      have HB4 := Aside0.mk (below_step HB3.out hb)
      clear hb
      go_wp2_with fail
      refine (HW.out _ HB4.out).mono ?_
      rintro e w5 ⟨rfl, hb⟩
      have HB5 := Aside0.mk (below_step HB4.out hb)
      clear hb
      go_wp2_with fail
      go_ret
      exact ⟨rfl, HB5.out⟩
end Go.Proofs.YtdobblddnfalcaaDoor.cap
