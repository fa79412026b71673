/- Packet lines: the law FnPktAny. -/
import Derived.Test.YtmpinpndfllcdaaDoorPktK
namespace Go.Proofs.YtmpinpndfllcdaaDoor.pkt
open Go.RowKit Go.Proofs.YtmpinpndfllcdaaDoorW.PrintWords Go.Proofs.YtmpinpndfllcdaaDoorW.PrintLast Go.Proofs.YtmpinpndfllcdaaDoorW.PrintMore Go.Proofs.YtmpinpndfllcdaaDoor.PFnPktAny
set_option linter.unusedVariables false
set_option linter.unusedSimpArgs false
set_option maxHeartbeats 2000000
set_option maxRecDepth 100000
theorem TrimOK.below {w W : World} (h : TrimOK w) (hb : Below w.heap.size w W) : TrimOK W := fun s W' hs hB => h s W' hs (below_step hb hB)
theorem small_says (xs : List Int) : laws_deltaSmall.f 2 [xs] = some (decide (xs.length ≤ 1000000)) := by
  have h1 : laws_deltaSmall.l0 1 [xs] (([xs] : List (List Int)).length : Int) (wrap64 (0 + 1)) = some true := by
    rw [laws_deltaSmall.l0, w64 (by omega) (by omega), if_neg (by simp)]
  unfold laws_deltaSmall.f
  rw [laws_deltaSmall.l0, if_pos (by simp), if_pos (by omega), if_pos (by simp)]
  show (if ((xs.length : Nat) : Int) > 1000000 then some false else _) = _
  by_cases h : (xs.length : Int) > 1000000
  · rw [if_pos h, decide_eq_false (by omega)]
  · rw [if_neg h, decide_eq_true (by omega)]
    exact h1
theorem srun_state : ∀ (k : Nat) (bs : List Int), (srun k bs).2 ≤ 2
  | 0, bs => by rw [srun]; exact Nat.le_refl _
  | k + 1, bs => by
    rw [srun]
    cases sstp bs with
    | done => exact Nat.zero_le _
    | refused => show 1 ≤ 2; omega
    | open_ => show 2 ≤ 2; omega
    | line p r => exact srun_state k r
theorem same_any (l : List (List Int)) (hl : l.length ≤ 2147483647) : PFnPktRead.spec_SameLines.f (l.length + 1) l l = some true := same_says l hl
theorem one_C (w : World) (A : Option Addr) (c : Nat) (xs : List Int) (hC : (Kd.int .u8).C w A xs.length xs) (hc : xs.length ≤ c) : kL.C (w.alloc (.cells #[.slice A xs.length c] 22 (0, 0))) (some ⟨w.heap.size, 0, none⟩) ([xs] : List (List Int)).length [xs] := by
  refine ⟨rfl, (show 1 ≤ 9223372036854775807 by omega), fun _ => ⟨_, rfl, fun j p hp => ?_⟩⟩
  match j, hp with
  | 0, hp =>
    cases hp
    refine ⟨[.slice A xs.length c], rfl, ⟨A, c, rfl, hc, Kd.C_alloc hC _⟩, fun m u hu => ?_⟩
    match m, hu with
    | 0, hu =>
      cases hu
      exact (blk_cell (blk_new w _) _).trans rfl
theorem any_law (w : World) (A : Option Addr) (c : Nat) (xs : List Int) (hC : (Kd.int .u8).C w A xs.length xs) (hc : xs.length ≤ c) (hby : ∀ x ∈ xs, 0 ≤ x ∧ x < 256) (a1 a2 a3 : Addr) (hE : Errs w a1 a2 a3) (hT : TrimOK w) :
    Calls Tryd.prog 3 #[.slice A xs.length c] w fun e w' => e = .returned (.bool true) ∧ Below w.heap.size w w' := by
  by_cases hbig : 2147483647 < xs.length
  · have c0 : decide ((2147483647 : Int) < (xs.length : Int)) = true := decide_eq_true (by omega)
    have c1 : decide (2147483647 < xs.length) = true := decide_eq_true hbig
    clear hC hE hT
    go_enter Tryd.func3, Tryd.ntmps3
    go_wp2_with fail
    go_ret
    exact ⟨rfl, Below.refl _ _⟩
  · have c0 : decide ((2147483647 : Int) < (xs.length : Int)) = false := decide_eq_false (by omega)
    have c1 : decide (2147483647 < xs.length) = false := decide_eq_false hbig
    have hx : xs.length ≤ 2147483647 := by omega
    have HS := Aside0.mk (specLines_any w A c xs hC hc hby hx)
    have HC := Aside0.mk hC
    have HE := Aside0.mk hE
    have HT := Aside0.mk hT
    have HBY := Aside0.mk hby
    have HSR := Aside0.mk (srun_run (xs.length + 1) xs)
    have HST := Aside0.mk (srun_state (xs.length + 1) xs)
    obtain ⟨res, hres⟩ : ∃ res, srun (xs.length + 1) xs = res := ⟨_, rfl⟩
    rw [hres] at HS HSR HST
    obtain ⟨rl, rn⟩ := res
    clear hC hE hT hby hres hbig
    go_enter Tryd.func3, Tryd.ntmps3
    go_wp2_with fail
    refine HS.out.mono ?_
    rintro e w2 ⟨A2, c2, rfl, hc2, hl2, hC2, hb2⟩
    have HB2 := Aside0.mk hb2
    have HC2 := Aside0.mk hC2
    have HRL := Aside0.mk (readLines_any w2 A c xs a1 a2 a3 (Kd.C_below HC.out hb2) hc HBY.out hx (HE.out.below hb2) (.inr (HT.out.below hb2)))
    unfold LinesPost at HRL
    obtain ⟨rs, hrs⟩ : ∃ rs, run (xs.length + 1) xs = rs := ⟨_, rfl⟩
    rw [hrs] at HRL HSR
    obtain ⟨gl, gb⟩ := rs
    clear HS hb2 hC2 hrs
    go_wp2_with fail
    refine HRL.out.mono ?_
    rintro e w3 ⟨A3, c3, rfl, hc3, hl3, hC3, hb3⟩
    have HB3 := Aside0.mk (below_step HB2.out hb3)
    have HC3 := Aside0.mk hC3
    have HCW := Aside0.mk (Kd.C_below HC2.out hb3)
    clear HRL hb3 hC3 HC2
    by_cases hop : rn = 2
    · subst hop
      have HW := Aside0.mk (pktWorks_any w3 a1 a2 a3 (HE.out.below HB3.out))
      clear HSR HST
      go_wp2_with fail
      refine HW.out.mono ?_
      rintro e w4 ⟨rfl, hb4⟩
      have HB4 := Aside0.mk (below_step HB3.out hb4)
      clear HW hb4
      go_wp2_with fail
      go_ret
      exact ⟨rfl, HB4.out⟩
    · have b0 : ((rn : Int) == 2) = false := by rw [beq_eq_false_iff_ne]; omega
      have b1 : (rn == 2) = false := by rw [beq_eq_false_iff_ne]; exact hop
      have HSM := Aside0.mk (laws_deltaSmall.calls 2 _ 1 [xs] _ _ (one_C w3 A c xs (Kd.C_below HC.out HB3.out) hc) (Nat.le_refl _) (small_says xs))
      have HB5 := Aside0.mk (below_alloc HB3.out (.cells #[.slice A xs.length c] 22 (0, 0)))
      have HC3a := Aside0.mk (Kd.C_alloc HC3.out (.cells #[.slice A xs.length c] 22 (0, 0)))
      have HCWa := Aside0.mk (Kd.C_alloc HCW.out (.cells #[.slice A xs.length c] 22 (0, 0)))
      by_cases hsm : xs.length ≤ 1000000
      · rw [decide_eq_true hsm] at HSM
        have hrr := HSR.out hop
        injection hrr with hr1 hr2
        subst hr1
        have hrn := HST.out
        clear HSR HST hop
        go_wp2_with fail
        refine HSM.out.mono ?_
        rintro e w5 ⟨rfl, ⟨n5, rfl⟩⟩
        have HB6 := Aside0.mk (pw_below_drewN HB5.out n5)
        have HSL := Aside0.mk (PFnPktRead.spec_SameLines.calls _ A3 c3 gl A2 c2 gl _ _ (Kd.C_drewN HC3a.out n5) hc3 (Kd.C_drewN HCWa.out n5) hc2 (same_any gl (by omega)))
        clear HSM HC3a HCWa HC3 HCW
        by_cases hz : rn = 0
        · subst hz
          have hgb : gb = true := hr2
          subst hgb
          clear hr2
          go_wp2_with fail
          refine HSL.out.mono ?_
          rintro e w6 ⟨rfl, ⟨n6, rfl⟩⟩
          have HB7 := Aside0.mk (pw_below_drewN HB5.out (n5 + n6))
          have HW := Aside0.mk (pktWorks_any _ a1 a2 a3 (HE.out.below HB7.out))
          clear HSL
          go_wp2_with fail
          refine HW.out.mono ?_
          rintro e w7 ⟨rfl, hb7⟩
          have HB8 := Aside0.mk (below_step HB7.out hb7)
          clear HW hb7
          go_wp2_with fail
          go_ret
          exact ⟨rfl, HB8.out⟩
        · have hgb : gb = false := hr2.trans (decide_eq_false hz)
          subst hgb
          have d0 : ((rn : Int) == 0) = false := by rw [beq_eq_false_iff_ne]; omega
          have d1 : (rn == 0) = false := by rw [beq_eq_false_iff_ne]; exact hz
          clear hr2
          go_wp2_with fail
          refine HSL.out.mono ?_
          rintro e w6 ⟨rfl, ⟨n6, rfl⟩⟩
          have HB7 := Aside0.mk (pw_below_drewN HB5.out (n5 + n6))
          have HW := Aside0.mk (pktWorks_any _ a1 a2 a3 (HE.out.below HB7.out))
          clear HSL
          go_wp2_with fail
          refine HW.out.mono ?_
          rintro e w7 ⟨rfl, hb7⟩
          have HB8 := Aside0.mk (below_step HB7.out hb7)
          clear HW hb7
          go_wp2_with fail
          go_ret
          exact ⟨rfl, HB8.out⟩
      · rw [decide_eq_false hsm] at HSM
        clear HSR HST
        go_wp2_with fail
        refine HSM.out.mono ?_
        rintro e w5 ⟨rfl, ⟨n5, rfl⟩⟩
        have HB6 := Aside0.mk (pw_below_drewN HB5.out n5)
        have HW := Aside0.mk (pktWorks_any _ a1 a2 a3 (HE.out.below HB6.out))
        clear HSM HC3a HCWa HC3 HCW
        go_wp2_with fail
        refine HW.out.mono ?_
        rintro e w7 ⟨rfl, hb7⟩
        have HB8 := Aside0.mk (below_step HB6.out hb7)
        clear HW hb7
        go_wp2_with fail
        go_ret
        exact ⟨rfl, HB8.out⟩
end Go.Proofs.YtmpinpndfllcdaaDoor.pkt
