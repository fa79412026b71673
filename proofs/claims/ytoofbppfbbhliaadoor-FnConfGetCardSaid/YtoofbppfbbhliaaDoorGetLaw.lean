/- laws.FnConfGet: the walk. -/
import Derived.Test.YtoofbppfbbhliaaDoorConfI
namespace Go.Proofs.YtoofbppfbbhliaaDoor.confA
open Go.RowKit Go.Proofs.YtoofbppfbbhliaaDoorW.PrintWords Go.Proofs.YtoofbppfbbhliaaDoorW.PrintLast Go.Proofs.YtoofbppfbbhliaaDoorW.PrintMore Go.Proofs.YtoofbppfbbhliaaDoor.PFnConfAdd Go.Proofs.YtoofbppfbbhliaaDoor.ptr
set_option linter.unusedVariables false
set_option linter.unusedSimpArgs false
set_option maxHeartbeats 2000000
set_option maxRecDepth 100000
theorem opts_fit {l : List S71} (h : Fits l) (section_ sub : ByteArray) : (optsOf l section_ sub).length ≤ 2147483647 := by
  unfold optsOf
  split
  · exact (sec_fits h section_).1
  · exact sub_fits (sec_fits h section_).2.2 sub
theorem get_law (A0 : Option Addr) (c0 : Nat) (l : List S71) (section_ sub key : ByteArray) (w : World) (hr0 : Kd.C k71 w A0 l.length l) (hc0 : l.length ≤ c0) :
    Calls Tryd.prog 10 #[.slice A0 l.length c0, .string section_, .string sub, .string key] w fun e w' => e = .returned (.bool true) ∧ Below w.heap.size w w' := by
  obtain ⟨b1, hf1, hf2⟩ := fits1_says l
  obtain ⟨kf, hkf⟩ := hf1.rounds
  have HF := Aside0.mk (laws_zzFits1.calls kf A0 c0 l b1 w hr0 hc0 hkf)
  have HR0 := Aside0.mk hr0
  have HF2 := Aside0.mk hf2
  clear hr0 hf1 hf2 hkf
  go_enter Tryd.func10, Tryd.ntmps10
  go_wp2_with fail
  refine HF.out.mono ?_
  clear HF
  rintro e w1 ⟨rfl, hb1⟩
  have HB1 := Aside0.mk hb1
  clear hb1
  cases b1 with
  | false =>
    go_wp2_with fail
    all_goals go_ret
    all_goals exact ⟨rfl, HB1.out⟩
  | true =>
    by_cases h1 : 2147483647 < section_.size
    · have d1 : decide (2147483647 < (section_.size : Int)) = true := decide_eq_true (by omega)
      go_wp2_with fail
      all_goals go_ret
      all_goals exact ⟨rfl, HB1.out⟩
    · have d1 : decide (2147483647 < (section_.size : Int)) = false := decide_eq_false (by omega)
      by_cases h2 : 2147483647 < sub.size
      · have d2 : decide (2147483647 < (sub.size : Int)) = true := decide_eq_true (by omega)
        go_wp2_with fail
        all_goals go_ret
        all_goals exact ⟨rfl, HB1.out⟩
      · have d2 : decide (2147483647 < (sub.size : Int)) = false := decide_eq_false (by omega)
        by_cases h3 : 2147483647 < key.size
        · have d3 : decide (2147483647 < (key.size : Int)) = true := decide_eq_true (by omega)
          go_wp2_with fail
          all_goals go_ret
          all_goals exact ⟨rfl, HB1.out⟩
        · have d3 : decide (2147483647 < (key.size : Int)) = false := decide_eq_false (by omega)
          obtain ⟨b2, ha1, ha2⟩ := are_says l (HF2.out (by trivial)) section_ sub key ⟨#[48]⟩ (by omega) (by omega) (by omega) (by decide)
          obtain ⟨ka, hka⟩ := ha1.rounds
          have HA := Aside0.mk (laws_cfAre.calls ka A0 c0 l section_ sub key ⟨#[48]⟩ b2 w1 (Kd.C_below HR0.out HB1.out) hc0 hka)
          have HA2 := Aside0.mk ha2
          clear ha1 ha2 hka
          go_wp2_with fail
          refine HA.out.mono ?_
          clear HA
          rintro e w2 ⟨rfl, hb2⟩
          have HB2 := Aside0.mk (below_step HB1.out hb2)
          clear hb2
          cases b2 with
          | false =>
            go_wp2_with fail
            all_goals go_ret
            all_goals exact ⟨rfl, HB2.out⟩
          | true =>
            obtain ⟨hok, hws, hwk⟩ := HA2.out (by trivial)
            have hfit := (HF2.out (by trivial)).fits
            have hwords := hok.words
            have HO := Aside0.mk (specOptions_any A0 c0 l section_ sub w2 (Kd.C_below HR0.out HB2.out) hc0 hfit)
            have hso := specOpts_at (section_ := section_) (sub := sub) hok
            rw [hso] at HO
            have hlen := opts_fit hfit section_ sub
            have hvl := Nat.le_trans (allVals_len (optsOf l section_ sub) key) hlen
            have HG := Aside0.mk (fun W Aw cw hW hR hC => cfGets_any A0 Aw c0 cw l section_ sub key W (Kd.C_below HR0.out hW) hc0 hfit hwords hws hwk hR hC hvl)
            have HV := Aside0.mk (values_f (optsOf l section_ sub) key hlen)
            generalize optsOf l section_ sub = o at HO HG HV hlen hvl
            clear hok hws hwk hwords hso HF2 HA2 hvl hlen hfit
            go_wp2_with fail
            refine HO.out.mono ?_
            clear HO
            rintro e w3 ⟨A3, c3, rfl, hc3, hC3, hb3⟩
            have HB3 := Aside0.mk (below_step HB2.out hb3)
            have HC3 := Aside0.mk hC3
            clear hb3 hC3
            go_wp2_with fail
            refine (spec_Values.calls _ A3 c3 o key (allVals o key) w3 HC3.out hc3 HV.out).mono ?_
            rintro e w4 ⟨v4, rfl, hR4, hb4⟩
            obtain ⟨A4, c4, e4⟩ := Kd.R_slice hR4
            subst e4
            obtain ⟨_, hc4, hC4⟩ := Kd.R_reads' hR4
            have HB4 := Aside0.mk (below_step HB3.out hb4)
            have HC4 := Aside0.mk hC4
            clear hR4 hb4 hC4
            go_wp2_with fail
            refine (HG.out w4 A4 c4 HB4.out HC4.out hc4).mono ?_
            rintro e w5 ⟨rfl, hb5⟩
            have HB5 := Aside0.mk (below_step HB4.out hb5)
            clear hb5 HG
            go_wp2
            go_ret
            exact ⟨rfl, HB5.out⟩
end Go.Proofs.YtoofbppfbbhliaaDoor.confA
