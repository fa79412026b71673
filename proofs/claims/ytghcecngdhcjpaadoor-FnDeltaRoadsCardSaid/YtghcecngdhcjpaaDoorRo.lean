/- The law FnDeltaRoads: the walk. -/
import Derived.Test.YtghcecngdhcjpaaDoorRz
import Derived.Test.YtghcecngdhcjpaaDoorDrB
import Derived.Test.YtghcecngdhcjpaaDoorWorks
import Derived.Test.YtghcecngdhcjpaaDoorMFnDeltaRoadsx1
namespace Go.Proofs.YtghcecngdhcjpaaDoor.rf
section
open Go.RowKit Go.Proofs.YtghcecngdhcjpaaDoorW.PrintWords Go.Proofs.YtghcecngdhcjpaaDoorW.PrintLast Go.Proofs.YtghcecngdhcjpaaDoorW.PrintMore Go.Proofs.YtghcecngdhcjpaaDoor.off Go.Proofs.YtghcecngdhcjpaaDoor.mo
set_option linter.unusedVariables false
set_option linter.unusedSimpArgs false
set_option maxHeartbeats 4000000
set_option maxRecDepth 100000
theorem same_self (l : List Int) : PFnDeltaRoads.laws_deltaSame.f l l = some true := by
  unfold PFnDeltaRoads.laws_deltaSame.f
  simp
theorem roads_law (w : World) (A0 A1 : Option Addr) (n0 n1 c0 c1 : Nat) (base delta : List Int) (hn0 : base.length = n0) (hn1 : delta.length = n1) (hC0 : Kd.C (Kd.int .u8) w A0 base.length base) (hc0 : n0 ≤ c0) (hC1 : Kd.C (Kd.int .u8) w A1 delta.length delta) (hc1 : n1 ≤ c1) (hy : leb.Bytes delta) (hcm1 : c1 ≤ maxLen)
    (e2 : Value) (ao az : Addr) (co cz : Nat) (hE : leb.Env w e2 ao az co cz) (ae : Addr) (hEof : Eof w ae) :
    Calls Tryd.prog 4 #[.slice A0 n0 c0, .slice A1 n1 c1] w fun e w' => e = .returned (.bool true) ∧ Below w.heap.size w w' := by
  subst hn0 hn1
  have HC0 := Aside0.mk hC0
  have HC1 := Aside0.mk hC1
  have HENV := Aside0.mk hE
  have HEOF := Aside0.mk hEof
  have HPT := Aside0.mk (dr.patched_any A0 A1 c0 c1 base delta w hC0 hc0 hC1 hc1 hcm1 hy)
  have HH0 := Aside0.mk hc0
  have HH1 := Aside0.mk hc1
  clear hC0 hC1 hE hEof hy
  by_cases h0 : 2147483647 < base.length
  · have t0 : decide ((2147483647 : Int) < (base.length : Int)) = true := decide_eq_true (by omega)
    have t0' : decide (2147483647 < base.length) = true := decide_eq_true h0
    clear h0
    go_enter Tryd.func4, Tryd.ntmps4
    go_wp2_with fail
    go_ret
    exact ⟨rfl, Below.refl _ _⟩
  have t0 : decide ((2147483647 : Int) < (base.length : Int)) = false := decide_eq_false (by omega)
  have t0' : decide (2147483647 < base.length) = false := decide_eq_false h0
  by_cases h1 : 2147483647 < delta.length
  · have t1 : decide ((2147483647 : Int) < (delta.length : Int)) = true := decide_eq_true (by omega)
    have t1' : decide (2147483647 < delta.length) = true := decide_eq_true h1
    clear h0 h1
    go_enter Tryd.func4, Tryd.ntmps4
    go_wp2_with fail
    go_ret
    exact ⟨rfl, Below.refl _ _⟩
  have t1 : decide ((2147483647 : Int) < (delta.length : Int)) = false := decide_eq_false (by omega)
  have t1' : decide (2147483647 < delta.length) = false := decide_eq_false h1
  clear h0 h1
  go_enter Tryd.func4, Tryd.ntmps4
  go_wp2_with fail
  refine HPT.out.mono ?_
  rintro e w1 ⟨h | ⟨v, s, hs, rfl⟩, hb⟩
  rotate_left
  · have HB1 := Aside0.mk hb
    have u1 : (s != 0) = true := by rw [bne_iff_ne]; exact hs
    have u2 : (s == 0) = false := by rw [beq_eq_false_iff_ne]; exact hs
    clear hs hb HPT
    go_wp2_with fail
    refine (leb.works_any w1 e2 ao az co cz (HENV.out.below HB1.out)).mono ?_
    rintro e w2 ⟨rfl, hb2⟩
    have HB2 := Aside0.mk (below_step HB1.out hb2)
    clear hb2
    go_wp2_with fail
    go_ret
    exact ⟨rfl, HB2.out⟩
  obtain ⟨v, out, rest, T, rfl, hR, hS, hP, hp, hbl, hdl, hol⟩ := h
  obtain ⟨Av, cv, rfl⟩ := Kd.R_slice hR
  obtain ⟨_, hcv, hCv⟩ := Kd.R_reads' hR
  have HB1 := Aside0.mk hb
  have HCV := Aside0.mk hCv
  have HSZ := Aside0.mk hS
  have HPP := Aside0.mk hP
  have HIM := Aside0.mk (leb.impl_any A0 A1 c0 c1 base delta rest T (some out) w1 (Kd.C_below HC0.out hb) hc0 (Kd.C_below HC1.out hb) hc1 (by omega) (by omega) e2 ao az co cz (HENV.out.below hb) hS hp hP)
  clear hb hR hCv hS hP HPT
  go_wp2_with fail
  refine HIM.out.mono ?_
  rintro e w2 ⟨⟨v2, rfl, hR2⟩, hb2⟩
  obtain ⟨A2, c2, rfl⟩ := Kd.R_slice hR2
  obtain ⟨_, hc2, hC2⟩ := Kd.R_reads' hR2
  have HB2 := Aside0.mk (below_step HB1.out hb2)
  have HC2 := Aside0.mk hC2
  have HCV2 := Aside0.mk (Kd.C_below HCV.out hb2)
  have HAP := Aside0.mk (apply_any w2 A0 A1 c0 c1 base delta rest T out (Kd.C_below HC0.out HB2.out) hc0 (Kd.C_below HC1.out HB2.out) hc1 hbl hdl hol e2 ao az co cz (HENV.out.below HB2.out) HSZ.out HPP.out ae ((HB2.out.cell (World.block_lt_of_cell? w _ HEOF.out)).trans HEOF.out))
  clear hR2 hC2 hb2 HIM HCV
  go_wp2_with fail
  refine HAP.out.mono ?_
  rintro e w3 ⟨v3, rfl, hs3, hb3⟩
  obtain ⟨A3, c3, rfl, _⟩ := Slc_shape hs3
  obtain ⟨_, hc3, _, hC3⟩ := slc_C hs3
  rw [pkt.bv_len]
  have HB3 := Aside0.mk (below_step HB2.out hb3)
  have HD1 := Aside0.mk (PFnDeltaRoads.laws_deltaSame.calls A2 c2 out Av cv out true w3 (Kd.C_below HC2.out hb3) hc2 (Kd.C_below HCV2.out hb3) hcv (same_self out))
  have HC3 := Aside0.mk hC3
  have HCV3 := Aside0.mk (Kd.C_below HCV2.out hb3)
  clear hs3 hb3 hC3 HAP HC2 HCV2
  go_wp2_with fail
  refine HD1.out.mono ?_
  rintro e w4 ⟨rfl, hd4⟩
  have HB4 := Aside0.mk (below_step HB3.out hd4.below)
  have HD2 := Aside0.mk (PFnDeltaRoads.laws_deltaSame.calls A3 c3 out Av cv out true w4 (Kd.C_below HC3.out hd4.below) hc3 (Kd.C_below HCV3.out hd4.below) hcv (same_self out))
  clear hd4 HD1
  go_wp2_with fail
  refine HD2.out.mono ?_
  rintro e w5 ⟨rfl, hd5⟩
  have HB5 := Aside0.mk (below_step HB4.out hd5.below)
  clear hd5 HD2
  go_wp2_with fail
  go_ret
  exact ⟨rfl, HB5.out⟩
end
end Go.Proofs.YtghcecngdhcjpaaDoor.rf
