/- A report: the law FnProtoReportWritten. -/
import Derived.Test.YtfjhgmnmadobjaaDoorRepC
import Derived.Test.YtfjhgmnmadobjaaDoorRepD
import Derived.Test.YtfjhgmnmadobjaaDoorPktI
namespace Go.Proofs.YtfjhgmnmadobjaaDoor.rep
open Go.RowKit Go.Proofs.YtfjhgmnmadobjaaDoorW.PrintWords Go.Proofs.YtfjhgmnmadobjaaDoorW.PrintLast Go.Proofs.YtfjhgmnmadobjaaDoorW.PrintMore Go.Proofs.YtfjhgmnmadobjaaDoor.PFnProtoReportWritten Go.Proofs.YtfjhgmnmadobjaaDoor.pkt Go.Proofs.YtfjhgmnmadobjaaDoor.buf Go.Proofs.YtfjhgmnmadobjaaDoor.enc Go.Proofs.YtfjhgmnmadobjaaDoor.ptr
set_option linter.unusedVariables false
set_option linter.unusedSimpArgs false
set_option maxHeartbeats 2000000
set_option maxRecDepth 100000
theorem same_self (l : List Int) : Go.Proofs.YtfjhgmnmadobjaaDoor.PFnProtoFirstWritten.laws_deltaSame.f l l = some true := by
  unfold Go.Proofs.YtfjhgmnmadobjaaDoor.PFnProtoFirstWritten.laws_deltaSame.f
  simp
theorem report_law (w : World) (u : ByteArray) (A : Option Addr) (n cc : Nat) (l : List S53) (hC : Kd.C k53 w A l.length l) (hn : l.length = n) (hcc : n ≤ cc) (a1 a2 a3 : Addr) (hE : Errs w a1 a2 a3) :
    Calls Tryd.prog 4 #[.string u, .slice A n cc] w fun e w' => e = .returned (.bool true) ∧ Below w.heap.size w w' := by
  subst hn
  have HC := Aside0.mk hC
  have HE := Aside0.mk hE
  clear hC hE
  by_cases h1 : 2147483647 < u.size
  · have d1 : decide ((2147483647 : Int) < (u.size : Int)) = true := decide_eq_true (by omega)
    have d1n : decide (2147483647 < u.size) = true := decide_eq_true h1
    clear h1
    go_enter Tryd.func4, Tryd.ntmps4
    go_wp2_with fail
    go_ret
    exact ⟨rfl, Below.refl _ _⟩
  have d1 : decide ((2147483647 : Int) < (u.size : Int)) = false := decide_eq_false (by omega)
  have d1n : decide (2147483647 < u.size) = false := decide_eq_false h1
  obtain ⟨b0, hf0, hq0⟩ := fits_says l
  have HF := Aside0.mk (laws_zzFits38.calls _ A cc l b0 w HC.out hcc hf0)
  cases b0 with
  | false =>
    clear h1 hf0 hq0
    go_enter Tryd.func4, Tryd.ntmps4
    go_wp2_with fail
    refine HF.out.mono ?_
    rintro e w1 ⟨rfl, hb1⟩
    have HB1 := Aside0.mk hb1
    clear hb1
    go_wp2_with fail
    go_ret
    exact ⟨rfl, HB1.out⟩
  | true =>
    obtain ⟨hl, hle⟩ := hq0 rfl
    obtain ⟨b1, hg1, hq1⟩ := good_says u l (by omega) hl hle
    have HG := Aside0.mk (fun W (hb : Below w.heap.size w W) => spec_GoodReport.calls _ u A cc l b1 W (Kd.C_below HC.out hb) hcc hg1)
    have HW := Aside0.mk (fun W (hb : Below w.heap.size w W) => pktWorks_any W a1 a2 a3 (HE.out.below hb))
    clear h1 hf0 hq0 hl hle hg1
    cases b1 with
    | false =>
      clear hq1
      go_enter Tryd.func4, Tryd.ntmps4
      go_wp2_with fail
      refine HF.out.mono ?_
      rintro e w1 ⟨rfl, hb1⟩
      have HB1 := Aside0.mk hb1
      clear hb1
      go_wp2_with fail
      refine (HG.out _ HB1.out).mono ?_
      rintro e w2 ⟨rfl, hb2⟩
      have HB2 := Aside0.mk (below_step HB1.out hb2)
      clear hb2
      go_wp2_with fail
      refine (HW.out _ (by exact HB2.out)).mono ?_
      rintro e w3 ⟨rfl, hb3⟩
      have HB3 := Aside0.mk (below_step HB2.out hb3)
      clear hb3
      go_wp2_with fail
      go_ret
      exact ⟨rfl, HB3.out⟩
    | true =>
      have hok := hq1 rfl
      have HOK := Aside0.mk hok
      clear hq1 hok
      go_enter Tryd.func4, Tryd.ntmps4
      go_wp2_with fail
      refine HF.out.mono ?_
      rintro e w1 ⟨rfl, hb1⟩
      have HB1 := Aside0.mk hb1
      clear hb1
      go_wp2_with fail
      refine (HG.out _ HB1.out).mono ?_
      rintro e W ⟨rfl, hb2⟩
      have HBW := Aside0.mk (below_step HB1.out hb2)
      clear hb2
      go_wp2_with fail
      refine (writeReport_any W u A cc l HOK.out (Kd.C_below HC.out HBW.out) hcc).mono ?_
      rintro e w3 ⟨A3, c3, rfl, hc3, hC3, hb3⟩
      have HB3 := Aside0.mk (below_step HBW.out hb3)
      have HC3 := Aside0.mk hC3
      have HCC3 := Aside0.mk hc3
      clear hb3 hC3 hc3
      go_wp2_with fail
      refine (reportText_any w3 u A cc l HOK.out (Kd.C_below HC.out HB3.out) hcc).mono ?_
      rintro e w4 ⟨A4, c4, rfl, hc4, hC4, hb4⟩
      have HB4 := Aside0.mk (below_step HB3.out hb4)
      have HDS := Aside0.mk (Go.Proofs.YtfjhgmnmadobjaaDoor.PFnProtoFirstWritten.laws_deltaSame.calls A3 c3 _ A4 c4 _ true w4 (Kd.C_below HC3.out hb4) HCC3.out hC4 hc4 (same_self _))
      clear hb4 hC4 hc4
      go_wp2_with fail
      refine HDS.out.mono ?_
      rintro e w5 ⟨rfl, ⟨n5, rfl⟩⟩
      have HB5 := Aside0.mk (pw_below_drewN HB4.out n5)
      clear HDS
      go_wp2_with fail
      refine (HW.out _ (by exact HB5.out)).mono ?_
      rintro e w6 ⟨rfl, hb6⟩
      have HB6 := Aside0.mk (below_step HB5.out hb6)
      clear hb6
      go_wp2_with fail
      go_ret
      exact ⟨rfl, HB6.out⟩
end Go.Proofs.YtfjhgmnmadobjaaDoor.rep
