/- laws.FnConfAdd: the walk. -/
import Derived.Test.YtoofbppfbbhliaaDoorAddP
namespace Go.Proofs.YtoofbppfbbhliaaDoor.confP
open Go.RowKit Go.Proofs.YtoofbppfbbhliaaDoorW.PrintWords Go.Proofs.YtoofbppfbbhliaaDoorW.PrintLast Go.Proofs.YtoofbppfbbhliaaDoorW.PrintMore Go.Proofs.YtoofbppfbbhliaaDoor.PFnConfAdd Go.Proofs.YtoofbppfbbhliaaDoor.ptr
set_option linter.unusedVariables false
set_option linter.unusedSimpArgs false
set_option maxHeartbeats 2000000
set_option maxRecDepth 100000
theorem opts_fit {l : List S71} (h : Fits l) (section_ sub : ByteArray) : (optsOf l section_ sub).length ≤ 4294967295 := by
  unfold optsOf
  split
  · exact (sec_fits h section_).1
  · exact sub_fits (sec_fits h section_).2.2 sub
theorem one_room {n : Nat} (h : n ≤ 4294967295) : (n + 1) * 16 ≤ 140737488355328 := by omega
theorem add_law (A0 : Option Addr) (c0 : Nat) (l : List S71) (section_ sub key value : ByteArray) (w : World) (hr0 : Kd.C k71 w A0 l.length l) (hc0 : l.length ≤ c0) :
    Calls Tryd.prog 12 #[.slice A0 l.length c0, .string section_, .string sub, .string key, .string value] w fun e w' => e = .returned (.bool true) ∧ Below w.heap.size w w' := by
  obtain ⟨b1, hf1, hf2⟩ := fits1_says l
  obtain ⟨kf, hkf⟩ := hf1.rounds
  have HF := Aside0.mk (laws_zzFits1.calls kf A0 c0 l b1 w hr0 hc0 hkf)
  have HR0 := Aside0.mk hr0
  have HF2 := Aside0.mk hf2
  clear hr0 hf1 hf2 hkf
  go_enter Tryd.func12, Tryd.ntmps12
  go_wp2_with fail
  refine HF.out.mono ?_
  clear HF
  rintro e w1 ⟨rfl, hb1⟩
  have HB1 := Aside0.mk hb1
  clear hb1
  cases b1 with
  | false =>
    go_wp2_with fail
    all_goals go_ret
    all_goals exact ⟨rfl, HB1.out⟩
  | true =>
    by_cases h1 : 2147483647 < section_.size
    · have d1 : decide (2147483647 < (section_.size : Int)) = true := decide_eq_true (by omega)
      go_wp2_with fail
      all_goals go_ret
      all_goals exact ⟨rfl, HB1.out⟩
    · have d1 : decide (2147483647 < (section_.size : Int)) = false := decide_eq_false (by omega)
      by_cases h2 : 2147483647 < sub.size
      · have d2 : decide (2147483647 < (sub.size : Int)) = true := decide_eq_true (by omega)
        go_wp2_with fail
        all_goals go_ret
        all_goals exact ⟨rfl, HB1.out⟩
      · have d2 : decide (2147483647 < (sub.size : Int)) = false := decide_eq_false (by omega)
        by_cases h3 : 2147483647 < key.size
        · have d3 : decide (2147483647 < (key.size : Int)) = true := decide_eq_true (by omega)
          go_wp2_with fail
          all_goals go_ret
          all_goals exact ⟨rfl, HB1.out⟩
        · have d3 : decide (2147483647 < (key.size : Int)) = false := decide_eq_false (by omega)
          by_cases h4 : 2147483647 < value.size
          · have d4 : decide (2147483647 < (value.size : Int)) = true := decide_eq_true (by omega)
            go_wp2_with fail
            all_goals go_ret
            all_goals exact ⟨rfl, HB1.out⟩
          · have d4 : decide (2147483647 < (value.size : Int)) = false := decide_eq_false (by omega)
            obtain ⟨b2, ha1, ha2⟩ := are_says l (HF2.out (by trivial)) section_ sub key value (by omega) (by omega) (by omega) (by omega)
            obtain ⟨ka, hka⟩ := ha1.rounds
            have HA := Aside0.mk (laws_cfAre.calls ka A0 c0 l section_ sub key value b2 w1 (Kd.C_below HR0.out HB1.out) hc0 hka)
            have HA2 := Aside0.mk ha2
            clear ha1 ha2 hka
            go_wp2_with fail
            refine HA.out.mono ?_
            clear HA
            rintro e w2 ⟨rfl, hb2⟩
            have HB2 := Aside0.mk (below_step HB1.out hb2)
            clear hb2
            cases b2 with
            | false =>
              go_wp2_with fail
              all_goals go_ret
              all_goals exact ⟨rfl, HB2.out⟩
            | true =>
              obtain ⟨hok, hws, hwk⟩ := HA2.out (by trivial)
              have hfs := HF2.out (by trivial)
              have hfit := hfs.fits
              have hwords := hok.words
              have hso := specOpts_at (section_ := section_) (sub := sub) hok
              have HO := Aside0.mk (show ∀ W, Below w.heap.size w W → Calls Tryd.prog 40 #[.slice A0 l.length c0, .string section_, .string sub] W (Opts W (optsOf l section_ sub)) from fun W hW => by rw [← hso]; exact specOptions_any A0 c0 l section_ sub W (Kd.C_below HR0.out hW) hc0 hfit)
              have hlen := opts_fit hfit section_ sub
              have hvl := Nat.le_trans (allVals_len (optsOf l section_ sub) key) hlen
              have HV := Aside0.mk (values_f (optsOf l section_ sub) key hlen)
              have HAdd := Aside0.mk (show ∀ W, Below w.heap.size w W → Calls Tryd.prog 44 #[.slice A0 l.length c0, .string section_, .string sub, .string key, .string value] W (PutOut W (CfgPut l section_ sub ⟨key, value⟩)) from fun W hW => implAdd_any A0 c0 l section_ sub key value W (Kd.C_below HR0.out hW) hc0 hfit (fun s hs => (hwords s hs).1) hws (fun l2 h => put_fits h hfs))
              have HG := Aside0.mk (show ∀ l2, CfgPut l section_ sub ⟨key, value⟩ l2 → ∀ (W : World) (A2 : Option Addr) (c2 : Nat) (Aw : Option Addr) (cw : Nat), Kd.C k71 W A2 l2.length l2 → l2.length ≤ c2 → Kd.C Kd.string W Aw (allVals (optsOf l section_ sub) key ++ [value]).length (allVals (optsOf l section_ sub) key ++ [value]) → (allVals (optsOf l section_ sub) key ++ [value]).length ≤ cw →
                  Calls Tryd.prog 38 #[.slice A2 l2.length c2, .string section_, .string sub, .string key, .slice Aw (allVals (optsOf l section_ sub) key ++ [value]).length cw] W fun e w' => e = .returned (.bool true) ∧ Below W.heap.size W w' from fun l2 h W A2 c2 Aw cw hC hc hR hcw => by
                have e : allVals (optsOf l2 section_ sub) key = allVals (optsOf l section_ sub) key ++ [value] := by rw [put_opts h, allVals_put]
                rw [← e] at hR hcw ⊢
                exact cfGets_any A2 Aw c2 cw l2 section_ sub key W hC hc (put_fits h hfs) (put_words h hwords hws hwk) hws hwk hR hcw (Nat.le_trans (allVals_len _ _) (opts_fit (put_fits h hfs) _ _)))
              generalize CfgPut l section_ sub ⟨key, value⟩ = LL at HAdd HG
              generalize optsOf l section_ sub = o at HO HG HV hlen hvl
              obtain ⟨vs, hvs⟩ : ∃ vs, allVals o key = vs := ⟨_, rfl⟩
              rw [hvs] at HG HV hvl
              have HVL := Aside0.mk hvl
              clear hok hws hwk hwords hso HF2 HA2 hvl hlen hfit hfs hvs
              go_wp2_with fail
              refine (HO.out _ (below_alloc HB2.out _)).mono ?_
              clear HO
              rintro e w3 ⟨A3, c3, rfl, hc3, hC3, hb3⟩
              have HRL := Aside0.mk (Kd.R_below (Kd.R_of_own (enc := Value.string) (h1 := fun _ => rfl) (xs := ([] : List ByteArray)) (ok := fun _ => True) (own_lit_of (enc := Value.string) w2 w.heap.size 9 [] HB2.out.size (by simp)) (fun _ _ => trivial)) hb3)
              have HB3 := Aside0.mk (below_step (below_alloc HB2.out _) hb3)
              have HC3 := Aside0.mk hC3
              clear hb3 hC3
              go_wp2_with fail
              refine (spec_Values.calls _ A3 c3 o key vs w3 HC3.out hc3 HV.out).mono ?_
              rintro e w4 ⟨v4, rfl, hR4, hb4⟩
              obtain ⟨A4, c4, e4⟩ := Kd.R_slice hR4
              subst e4
              obtain ⟨_, hc4, hC4⟩ := Kd.R_reads' hR4
              have HR4 := Aside0.mk (Kd.R_below HRL.out hb4)
              have HB4 := Aside0.mk (below_step HB3.out hb4)
              have HC4 := Aside0.mk hC4
              clear hR4 hb4 hC4
              go_wp2_with (first | ((with_reducible refine gate_builtin (b := .append) (xs := #[.tmp 42, .tmp 48]) rfl ?_); at_builtin; go_must (refine Kd.R_append_row Value.string (⟨#[]⟩ : ByteArray) (w0 := w) w.heap.size rfl (.tmp 42) (.tmp 48) 64 9 (.string ⟨#[]⟩) 16 rfl Tryd.underlying64 infoS rfl (by decide) (.slice (some ⟨w2.heap.size, 0, none⟩) 0 0) ([] : List ByteArray) vs A4 vs.length c4 (fun _ => True) rfl rfl (fun _ _ => trivial) HR4.out HC4.out HB4.out (below_size HB4.out) (got_room HVL.out) ?_); intro v5 w5 ho hb _ _; have HR5 := Aside0.mk (show Kd.R Kd.string 9 w5 w.heap.size (fun _ => True) v5 vs from ho); have HB5 := Aside0.mk hb; clear ho hb) | ((with_reducible refine gate_builtin (b := .append) (xs := #[.tmp 49, .tmp 51]) rfl ?_); at_builtin; go_must (refine Kd.R_append Kd.string (w0 := w) w.heap.size rfl (.tmp 49) (.tmp 51) 64 9 (.string ⟨#[]⟩) 16 rfl Tryd.underlying64 infoS rfl (by decide) (by omega) v5 vs value [.string value] (fun _ => True) (fun _ => False) rfl (by first | (go_simp; done) | (go_simp; rfl)) rfl (fun _ hk => hk.elim) (fun _ _ => trivial) HR5.out HB5.out (below_size HB5.out) (one_room HVL.out) ?_); intro v6 w6 ho hb hg hat; have HR6 := Aside0.mk ho; have HB6 := Aside0.mk hb; clear ho hb hg hat) | fail)
              obtain ⟨want, hwant⟩ : ∃ want, vs ++ [value] = want := ⟨_, rfl⟩
              rw [hwant] at HG HR6
              clear hwant
              obtain ⟨Aw, cw, e6, hcw, hCw⟩ := Kd.R_reads HR6.out
              subst e6
              have HCW := Aside0.mk hCw
              clear hCw
              refine (HAdd.out w6 HB6.out).mono ?_
              clear HAdd
              rintro e w7 ⟨v7, l2, rfl, hp, hR7, hb7⟩
              obtain ⟨A7, c7, e7, hc7, hC7⟩ := Kd.R_reads hR7
              subst e7
              have HG7 := Aside0.mk (HG.out l2 hp w7 A7 c7 Aw cw hC7 hc7 (Kd.C_below HCW.out hb7) hcw)
              have HB7 := Aside0.mk (below_step HB6.out hb7)
              clear hb7 hR7 hC7 HG hp
              go_wp2_with fail
              refine HG7.out.mono ?_
              rintro e w8 ⟨rfl, hb8⟩
              have HB8 := Aside0.mk (below_step HB7.out hb8)
              clear hb8 HG7
              go_wp2
              go_ret
              exact ⟨rfl, HB8.out⟩
end Go.Proofs.YtoofbppfbbhliaaDoor.confP
