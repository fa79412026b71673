/- Packet lines: spec.ReadLines. -/
import Derived.Test.YtmpinpndfllcdaaDoorPktJ
namespace Go.Proofs.YtmpinpndfllcdaaDoor.pkt
open Go.RowKit Go.Proofs.YtmpinpndfllcdaaDoorW.PrintWords Go.Proofs.YtmpinpndfllcdaaDoorW.PrintLast Go.Proofs.YtmpinpndfllcdaaDoorW.PrintMore Go.Proofs.YtmpinpndfllcdaaDoor.PFnPktAny
set_option linter.unusedVariables false
set_option linter.unusedSimpArgs false
set_option maxHeartbeats 2000000
set_option maxRecDepth 100000
theorem fixed_C {w w' : World} {A : Option Addr} {n : Nat} {l : List (List Int)} (h : (Kd.fixed kL w).C w' A n l) (hb : Below w.heap.size w w') : kL.C w' A n l := ReadsRow.imp_ h (Below.refl _ _) (fun _ _ hp => kL.K_below hb hp)
theorem specLines_any (w : World) (A : Option Addr) (c : Nat) (xs : List Int) (hC : (Kd.int .u8).C w A xs.length xs) (hc : xs.length ≤ c) (hby : ∀ x ∈ xs, 0 ≤ x ∧ x < 256) (hx : xs.length ≤ 2147483647) :
    Calls Tryd.prog 5 #[.slice A xs.length c] w fun e w' => ∃ A' c', e = .returned (.tuple #[.slice A' (srun (xs.length + 1) xs).1.length c', .int .i64 ((srun (xs.length + 1) xs).2 : Int)]) ∧ (srun (xs.length + 1) xs).1.length ≤ c' ∧ (srun (xs.length + 1) xs).1.length ≤ xs.length ∧ kL.C w' A' (srun (xs.length + 1) xs).1.length (srun (xs.length + 1) xs).1 ∧ Below w.heap.size w w' := by
  have HC0 := Aside0.mk hC
  have HBY0 := Aside0.mk hby
  obtain ⟨res, hres⟩ : ∃ res, srun (xs.length + 1) xs = res := ⟨_, rfl⟩
  have HRS0 := Aside0.mk hres
  rw [hres]
  obtain ⟨rl, rn⟩ := res
  have HB0 := Aside0.mk (Below.refl w.heap.size w)
  clear hC hby hres
  go_enter Tryd.func5, Tryd.ntmps5
  go_wp2_with fail
  go_loopg [0, 4] (xs.length + 1) (fun kq v0 v4 w' => ∃ (bs : List Int) (Ab : Option Addr) (cb : Nat) (dn : List (List Int)) (lv : Value), lv = v4 ∧ v0 = .slice Ab bs.length cb ∧ bs.length ≤ cb ∧ Aside0 (bs.length < kq) ∧ Aside0 (dn.length + bs.length ≤ xs.length) ∧ Aside0 (∀ x ∈ bs, 0 ≤ x ∧ x < 256) ∧ Aside0 ((rl, rn) = (dn ++ (srun kq bs).1, (srun kq bs).2)) ∧ Aside0 ((Kd.int .u8).C w Ab bs.length bs) ∧ Aside0 (Kd.R (Kd.fixed kL w) 22 w' w.heap.size (fun _ => True) lv dn) ∧ Aside0 (Below w.heap.size w w'))
  case atStart => exact ⟨xs, A, c, [], _, rfl, rfl, hc, ⟨by omega⟩, ⟨by simp⟩, HBY0, ⟨by rw [List.nil_append]; exact HRS0.out.symm⟩, HC0, ⟨Kd.R_nil _ _ _ _ _⟩, HB0⟩
  case round =>
    clear HC0 HBY0 HRS0 HB0
    obtain ⟨bs, Ab, cb, dn, lv, hlv, rfl, hcb, HK, HDN, HBY, HRS, HC, HO, HB⟩ := hrel
    subst hlv
    cases gk with
    | zero => exact absurd HK.out (by omega)
    | succ k1 =>
      by_cases h0 : bs = []
      · have hst : sstp bs = .done := by rw [h0]; rfl
        have hl0 : bs.length = 0 := by rw [h0]; rfl
        have c0 : decide ((0 : Int) < (bs.length : Int)) = false := decide_eq_false (by omega)
        have c1 : decide (0 < bs.length) = false := decide_eq_false (by omega)
        clear h0
        have hr := HRS.out
        rw [srun, hst] at hr
        simp only [List.append_nil] at hr
        injection hr with h1 h2
        subst h1 h2
        obtain ⟨Al, cl, hvl, hcl, hCl⟩ := Kd.R_reads HO.out
        subst hvl
        have HCL := Aside0.mk hCl
        clear hCl HO
        go_wp2_with fail
        go_ret2
        exact ⟨Al, cl, rfl, hcl, by have := HDN.out; omega, fixed_C HCL.out HB.out, HB.out⟩
      · have hl1 : 0 < bs.length := List.length_pos_iff.2 h0
        have c0 : decide ((0 : Int) < (bs.length : Int)) = true := decide_eq_true (by omega)
        have c1 : decide (0 < bs.length) = true := decide_eq_true (by omega)
        by_cases h4 : bs.length < 4
        · have hst : sstp bs = .refused := by unfold sstp; rw [if_neg h0, if_pos h4]
          have c4 : decide ((bs.length : Int) < 4) = true := decide_eq_true (by omega)
          have c5 : decide (bs.length < 4) = true := decide_eq_true h4
          have hr := HRS.out
          rw [srun, hst] at hr
          simp only [List.append_nil] at hr
          injection hr with h1 h2
          subst h1 h2
          obtain ⟨Al, cl, hvl, hcl, hCl⟩ := Kd.R_reads HO.out
          subst hvl
          have HCL := Aside0.mk hCl
          clear hCl HO
          go_wp2_with fail
          go_ret2
          exact ⟨Al, cl, rfl, hcl, by have := HDN.out; omega, fixed_C HCL.out HB.out, HB.out⟩
        · have c4 : decide ((bs.length : Int) < 4) = false := decide_eq_false (by omega)
          have c5 : decide (bs.length < 4) = false := decide_eq_false h4
          have hrh := readHex_says bs HBY.out (by omega)
          have hst0 : sstp bs = (match shex (bs.take 4) 0 with | .open_ => .open_ | .refused => .refused | .n x => if x = 0 then .line [] (bs.drop 4) else if x ≤ 4 ∨ 65520 < x then .open_ else if (bs.length : Int) < x then .refused else if isErr ((bs.drop 4).take (x - 4).toNat) = true then .open_ else .line ((bs.drop 4).take (x - 4).toNat) ((bs.drop 4).drop (x - 4).toNat)) := by unfold sstp; rw [if_neg h0, if_neg h4]; cases shex (bs.take 4) 0 <;> rfl
          have hps := fun x => shex_pos (bs.take 4) 0 x (by omega)
          cases hs : shex (bs.take 4) 0 with
          | open_ =>
            rw [hs] at hst0 hrh
            have HH := Aside0.mk (spec_readHex4.calls _ Ab cb bs _ _ wr (Kd.C_below HC.out HB.out) hcb hrh)
            have hst : sstp bs = .open_ := hst0
            clear hs hst0 hrh hps
            have hr := HRS.out
            rw [srun, hst] at hr
            simp only [List.append_nil] at hr
            injection hr with h1 h2
            subst h1 h2
            go_wp2_with fail
            refine HH.out.mono ?_
            rintro e w2 ⟨rfl, ⟨n2, rfl⟩⟩
            clear HH
            obtain ⟨Al, cl, hvl, hcl, hCl⟩ := Kd.R_reads (Kd.R_below HO.out (pw_below_drewN (Below.refl _ _) n2))
            subst hvl
            have HCL := Aside0.mk hCl
            clear hCl HO
            go_wp2_with fail
            go_ret2
            exact ⟨Al, cl, rfl, hcl, by have := HDN.out; omega, fixed_C HCL.out (pw_below_drewN HB.out _), pw_below_drewN HB.out _⟩
          | refused =>
            rw [hs] at hst0 hrh
            have HH := Aside0.mk (spec_readHex4.calls _ Ab cb bs _ _ wr (Kd.C_below HC.out HB.out) hcb hrh)
            have hst : sstp bs = .refused := hst0
            clear hs hst0 hrh hps
            have hr := HRS.out
            rw [srun, hst] at hr
            simp only [List.append_nil] at hr
            injection hr with h1 h2
            subst h1 h2
            go_wp2_with fail
            refine HH.out.mono ?_
            rintro e w2 ⟨rfl, ⟨n2, rfl⟩⟩
            clear HH
            obtain ⟨Al, cl, hvl, hcl, hCl⟩ := Kd.R_reads (Kd.R_below HO.out (pw_below_drewN (Below.refl _ _) n2))
            subst hvl
            have HCL := Aside0.mk hCl
            clear hCl HO
            go_wp2_with fail
            go_ret2
            exact ⟨Al, cl, rfl, hcl, by have := HDN.out; omega, fixed_C HCL.out (pw_below_drewN HB.out _), pw_below_drewN HB.out _⟩
          | n x =>
            rw [hs] at hst0 hrh
            have HH := Aside0.mk (spec_readHex4.calls _ Ab cb bs _ _ wr (Kd.C_below HC.out HB.out) hcb hrh)
            have hx0 := hps x hs
            simp only at hst0
            clear hs hrh hps
            by_cases hz : x = 0
            · subst hz
              have hst : sstp bs = .line ((bs.take 4).drop 4) (bs.drop 4) := by
                rw [hst0, if_pos rfl]
                congr 1
                rw [List.drop_of_length_le (by rw [List.length_take]; omega)]
              have hpe : (bs.take 4).drop 4 = [] := List.drop_of_length_le (by rw [List.length_take]; omega)
              have d1 : decide ((bs.length : Int) < 4) = false := decide_eq_false (by omega)
              clear hst0
              obtain ⟨i5, hi5, hz5, hs5, hb5⟩ := info_parts info5
              obtain ⟨A6, hsl, hA6, hl6⟩ := print_mid_of (P := Tryd.prog) (Value.int .u8) 0 22 5 .i64 .i64 Tryd.underlying22 hi5 hs5 Ab cb bs 4 4 (by omega) (by omega) (by omega) hcb
              obtain ⟨A8, hsr, hA8, hl8⟩ := print_drop_of (P := Tryd.prog) (Value.int .u8) 0 22 5 .i64 Tryd.underlying22 hi5 hs5 Ab cb bs 4 (by omega) (by omega) hcb
              have HC6 := Aside0.mk (Kd.C_of_reads (h1 := fun _ => rfl) (hA6 w (Kd.reads_of_C HC.out)) : (Kd.int .u8).C w A6 _ _)
              have HC8 := Aside0.mk (Kd.C_of_reads (h1 := fun _ => rfl) (hA8 w (Kd.reads_of_C HC.out)) : (Kd.int .u8).C w A8 _ _)
              have e4 : (4 : Int).toNat = 4 := rfl
              have em : (4 : Int).toNat = 4 := by first | rfl | exact Int.toNat_natCast _
              rw [e4] at hsl hl6 HC6
              try rw [em] at hsl hl6 HC6
              try rw [em] at hsr hl8 HC8
              clear hA6 hA8
              obtain ⟨pp, hpp⟩ : ∃ pp, (bs.take 4).drop 4 = pp := ⟨_, rfl⟩
              obtain ⟨rr, hrr⟩ : ∃ rr, bs.drop 4 = rr := ⟨_, rfl⟩
              rw [hpp] at hsl hl6 HC6
              rw [hrr] at hsr hl8 HC8
              have HRR := Aside0.mk hrr
              have HL6 := Aside0.mk hl6
              have HL8 := Aside0.mk hl8
              have hppb : ∀ x ∈ pp, 0 ≤ x ∧ x < 256 := fun y hy => HBY.out y (List.mem_of_mem_take (List.mem_of_mem_drop (by rw [hpp]; exact hy)))
              have HER := fun n2 : Nat => PFnPktRead.spec_isErr.calls A6 (cb - 4) pp _ (wr.drewN n2) (Kd.C_drewN (Kd.C_below HC6.out HB.out) n2) hl6 (isErr_says hppb)
              rw [hpp] at hst hpe
              rw [hrr] at hst
              have hie : isErr pp = false := by rw [hpe]; rfl
              rw [hie] at HER
              clear hpe hpp hrr hl6 hl8 hppb hie
              go_wp2_with fail
              refine HH.out.mono ?_
              rintro e w2 ⟨rfl, ⟨n2, rfl⟩⟩
              clear HH
              go_wp2_with fail
              refine (HER n2).mono ?_
              rintro e w3 ⟨rfl, ⟨n3, rfl⟩⟩
              clear HER
              have HRS2 := HRS.out
              rw [srun, hst] at HRS2
              have HRS2 := Aside0.mk HRS2
              clear hst
              have HO2 := Aside0.mk (Kd.R_below HO.out (pw_below_drewN (Below.refl _ _) (n2 + n3)))
              have HB2 := Aside0.mk (pw_below_drewN HB.out (n2 + n3))
              clear HO HB HRS
              have HBD := Aside0.mk (show (dn.length + 1) * 24 ≤ 140737488355328 by have := HDN.out; omega)
              go_wp2_with (first | ((with_reducible refine gate_builtin (b := .append) (xs := #[.tmp 45, .tmp 49]) rfl ?_); at_builtin; go_must (refine Kd.R_append (Kd.fixed kL w) (w0 := w) w.heap.size rfl (.tmp 45) (.tmp 49) 23 22 (.slice none 0 0) 24 rfl Tryd.underlying23 info22 rfl Nat.zero_lt_one (by omega) lv dn pp [.slice A6 pp.length (cb - 4)] (fun _ => True) (fun _ => False) rfl rfl ⟨A6, cb - 4, rfl, HL6.out, HC6.out⟩ (fun k hk => hk.elim) (fun _ _ => trivial) HO2.out HB2.out (below_size HB2.out) HBD.out ?_); intro v7 w7 ho hb hg hat; go_must (have HO7 := Aside0.mk ho; have HB7 := Aside0.mk hb; clear ho hb hg hat)) | fail)
              go_roundg k1
              case measure => omega
              case rel => exact ⟨rr, A8, cb - 4, dn ++ [pp], _, rfl, by first | rfl | (simp; done), HL8.out, ⟨by have := HK.out; rw [← HRR.out, List.length_drop]; omega⟩, ⟨by rw [List.length_append, List.length_singleton]; have := HDN.out; rw [← HRR.out, List.length_drop]; omega⟩, ⟨fun y hy => HBY.out y (List.mem_of_mem_drop (by rw [HRR.out]; exact hy))⟩, ⟨by rw [List.append_assoc]; exact HRS2.out⟩, HC8, HO7, HB7⟩
            · have z0 : (x == 0) = false := by rw [beq_eq_false_iff_ne]; exact hz
              rw [if_neg hz] at hst0
              by_cases hb1 : x ≤ 4
              · have hst : sstp bs = .open_ := by rw [hst0, if_pos (.inl hb1)]
                have d1 : decide (x ≤ 4) = true := decide_eq_true hb1
                clear hst0
                have hr := HRS.out
                rw [srun, hst] at hr
                simp only [List.append_nil] at hr
                injection hr with h1 h2
                subst h1 h2
                go_wp2_with fail
                refine HH.out.mono ?_
                rintro e w2 ⟨rfl, ⟨n2, rfl⟩⟩
                clear HH
                obtain ⟨Al, cl, hvl, hcl, hCl⟩ := Kd.R_reads (Kd.R_below HO.out (pw_below_drewN (Below.refl _ _) n2))
                subst hvl
                have HCL := Aside0.mk hCl
                clear hCl HO
                go_wp2_with fail
                go_ret2
                exact ⟨Al, cl, rfl, hcl, by have := HDN.out; omega, fixed_C HCL.out (pw_below_drewN HB.out _), pw_below_drewN HB.out _⟩
              · have d1 : decide (x ≤ 4) = false := decide_eq_false hb1
                by_cases hb2 : 65520 < x
                · have hst : sstp bs = .open_ := by rw [hst0, if_pos (.inr hb2)]
                  have d2 : decide (65520 < x) = true := decide_eq_true hb2
                  clear hst0
                  have hr := HRS.out
                  rw [srun, hst] at hr
                  simp only [List.append_nil] at hr
                  injection hr with h1 h2
                  subst h1 h2
                  go_wp2_with fail
                  refine HH.out.mono ?_
                  rintro e w2 ⟨rfl, ⟨n2, rfl⟩⟩
                  clear HH
                  obtain ⟨Al, cl, hvl, hcl, hCl⟩ := Kd.R_reads (Kd.R_below HO.out (pw_below_drewN (Below.refl _ _) n2))
                  subst hvl
                  have HCL := Aside0.mk hCl
                  clear hCl HO
                  go_wp2_with fail
                  go_ret2
                  exact ⟨Al, cl, rfl, hcl, by have := HDN.out; omega, fixed_C HCL.out (pw_below_drewN HB.out _), pw_below_drewN HB.out _⟩
                · have d2 : decide (65520 < x) = false := decide_eq_false hb2
                  rw [if_neg (by omega)] at hst0
                  by_cases hb3 : (bs.length : Int) < x
                  · have hst : sstp bs = .refused := by rw [hst0, if_pos hb3]
                    have d3 : decide ((bs.length : Int) < x) = true := decide_eq_true hb3
                    clear hst0
                    have hr := HRS.out
                    rw [srun, hst] at hr
                    simp only [List.append_nil] at hr
                    injection hr with h1 h2
                    subst h1 h2
                    go_wp2_with fail
                    refine HH.out.mono ?_
                    rintro e w2 ⟨rfl, ⟨n2, rfl⟩⟩
                    clear HH
                    obtain ⟨Al, cl, hvl, hcl, hCl⟩ := Kd.R_reads (Kd.R_below HO.out (pw_below_drewN (Below.refl _ _) n2))
                    subst hvl
                    have HCL := Aside0.mk hCl
                    clear hCl HO
                    go_wp2_with fail
                    go_ret2
                    exact ⟨Al, cl, rfl, hcl, by have := HDN.out; omega, fixed_C HCL.out (pw_below_drewN HB.out _), pw_below_drewN HB.out _⟩
                  · have d3 : decide ((bs.length : Int) < x) = false := decide_eq_false hb3
                    rw [if_neg hb3] at hst0
                    obtain ⟨m, rfl⟩ := Int.eq_ofNat_of_zero_le hx0
                    obtain ⟨i5, hi5, hz5, hs5, hb5⟩ := info_parts info5
                    obtain ⟨A6, hsl, hA6, hl6⟩ := print_mid_of (P := Tryd.prog) (Value.int .u8) 0 22 5 .i64 .i64 Tryd.underlying22 hi5 hs5 Ab cb bs 4 (m : Int) (by omega) (by omega) (by omega) hcb
                    obtain ⟨A8, hsr, hA8, hl8⟩ := print_drop_of (P := Tryd.prog) (Value.int .u8) 0 22 5 .i64 Tryd.underlying22 hi5 hs5 Ab cb bs (m : Int) (by omega) (by omega) hcb
                    have HC6 := Aside0.mk (Kd.C_of_reads (h1 := fun _ => rfl) (hA6 w (Kd.reads_of_C HC.out)) : (Kd.int .u8).C w A6 _ _)
                    have HC8 := Aside0.mk (Kd.C_of_reads (h1 := fun _ => rfl) (hA8 w (Kd.reads_of_C HC.out)) : (Kd.int .u8).C w A8 _ _)
                    have e4 : (4 : Int).toNat = 4 := rfl
                    have em : ((m : Int) : Int).toNat = m := by first | rfl | exact Int.toNat_natCast _
                    rw [e4] at hsl hl6 HC6
                    try rw [em] at hsl hl6 HC6
                    try rw [em] at hsr hl8 HC8
                    clear hA6 hA8
                    obtain ⟨pp, hpp⟩ : ∃ pp, (bs.take m).drop 4 = pp := ⟨_, rfl⟩
                    obtain ⟨rr, hrr⟩ : ∃ rr, bs.drop m = rr := ⟨_, rfl⟩
                    rw [hpp] at hsl hl6 HC6
                    rw [hrr] at hsr hl8 HC8
                    have HRR := Aside0.mk hrr
                    have HL6 := Aside0.mk hl6
                    have HL8 := Aside0.mk hl8
                    have hppb : ∀ x ∈ pp, 0 ≤ x ∧ x < 256 := fun y hy => HBY.out y (List.mem_of_mem_take (List.mem_of_mem_drop (by rw [hpp]; exact hy)))
                    have HER := fun n2 : Nat => PFnPktRead.spec_isErr.calls A6 (cb - 4) pp _ (wr.drewN n2) (Kd.C_drewN (Kd.C_below HC6.out HB.out) n2) hl6 (isErr_says hppb)
                    have e1 : ((m : Int) - 4).toNat = m - 4 := by omega
                    rw [e1, ← List.drop_take, hpp, List.drop_drop, show 4 + (m - 4) = m from by omega, hrr] at hst0
                    clear hpp hrr hl6 hl8 hppb e1
                    by_cases hie : isErr pp = true
                    · have hst : sstp bs = .open_ := by rw [hst0, if_pos hie]
                      rw [hie] at HER
                      clear hst0
                      have hr := HRS.out
                      rw [srun, hst] at hr
                      simp only [List.append_nil] at hr
                      injection hr with h1 h2
                      subst h1 h2
                      go_wp2_with fail
                      refine HH.out.mono ?_
                      rintro e w2 ⟨rfl, ⟨n2, rfl⟩⟩
                      clear HH
                      go_wp2_with fail
                      refine (HER n2).mono ?_
                      rintro e w3 ⟨rfl, ⟨n3, rfl⟩⟩
                      clear HER
                      obtain ⟨Al, cl, hvl, hcl, hCl⟩ := Kd.R_reads (Kd.R_below HO.out (pw_below_drewN (Below.refl _ _) (n2 + n3)))
                      subst hvl
                      have HCL := Aside0.mk hCl
                      clear hCl HO
                      go_wp2_with fail
                      go_ret2
                      exact ⟨Al, cl, rfl, hcl, by have := HDN.out; omega, fixed_C HCL.out (pw_below_drewN HB.out _), pw_below_drewN HB.out _⟩
                    · have hst : sstp bs = .line pp rr := by rw [hst0, if_neg hie]
                      have hie : isErr pp = false := by simpa using hie
                      rw [hie] at HER
                      clear hst0 hie
                      go_wp2_with fail
                      refine HH.out.mono ?_
                      rintro e w2 ⟨rfl, ⟨n2, rfl⟩⟩
                      clear HH
                      go_wp2_with fail
                      refine (HER n2).mono ?_
                      rintro e w3 ⟨rfl, ⟨n3, rfl⟩⟩
                      clear HER
                      have HRS2 := HRS.out
                      rw [srun, hst] at HRS2
                      have HRS2 := Aside0.mk HRS2
                      clear hst
                      have HO2 := Aside0.mk (Kd.R_below HO.out (pw_below_drewN (Below.refl _ _) (n2 + n3)))
                      have HB2 := Aside0.mk (pw_below_drewN HB.out (n2 + n3))
                      clear HO HB HRS
                      have HBD := Aside0.mk (show (dn.length + 1) * 24 ≤ 140737488355328 by have := HDN.out; omega)
                      go_wp2_with (first | ((with_reducible refine gate_builtin (b := .append) (xs := #[.tmp 45, .tmp 49]) rfl ?_); at_builtin; go_must (refine Kd.R_append (Kd.fixed kL w) (w0 := w) w.heap.size rfl (.tmp 45) (.tmp 49) 23 22 (.slice none 0 0) 24 rfl Tryd.underlying23 info22 rfl Nat.zero_lt_one (by omega) lv dn pp [.slice A6 pp.length (cb - 4)] (fun _ => True) (fun _ => False) rfl rfl ⟨A6, cb - 4, rfl, HL6.out, HC6.out⟩ (fun k hk => hk.elim) (fun _ _ => trivial) HO2.out HB2.out (below_size HB2.out) HBD.out ?_); intro v7 w7 ho hb hg hat; go_must (have HO7 := Aside0.mk ho; have HB7 := Aside0.mk hb; clear ho hb hg hat)) | fail)
                      go_roundg k1
                      case measure => omega
                      case rel => exact ⟨rr, A8, cb - m, dn ++ [pp], _, rfl, by first | rfl | (simp; done), HL8.out, ⟨by have := HK.out; rw [← HRR.out, List.length_drop]; omega⟩, ⟨by rw [List.length_append, List.length_singleton]; have := HDN.out; rw [← HRR.out, List.length_drop]; omega⟩, ⟨fun y hy => HBY.out y (List.mem_of_mem_drop (by rw [HRR.out]; exact hy))⟩, ⟨by rw [List.append_assoc]; exact HRS2.out⟩, HC8, HO7, HB7⟩
end Go.Proofs.YtmpinpndfllcdaaDoor.pkt
