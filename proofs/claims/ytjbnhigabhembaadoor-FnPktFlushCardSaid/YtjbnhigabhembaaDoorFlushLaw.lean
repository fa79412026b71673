/- Packet lines: the law FnPktFlush. -/
import Derived.Test.YtjbnhigabhembaaDoorFlushA
namespace Go.Proofs.YtjbnhigabhembaaDoor.pkt
open Go.RowKit Go.Proofs.YtjbnhigabhembaaDoorW.PrintWords Go.Proofs.YtjbnhigabhembaaDoorW.PrintLast Go.Proofs.YtjbnhigabhembaaDoorW.PrintMore Go.Proofs.YtjbnhigabhembaaDoor.PFnPktFlush
set_option linter.unusedVariables false
set_option linter.unusedSimpArgs false
set_option maxHeartbeats 2000000
set_option maxRecDepth 100000
theorem plines_flush (l : List (List Int)) : plines ([] :: l) = fl ++ plines l := rfl
theorem good_nil : Good [] := ⟨by decide, by decide⟩
theorem same_fl : laws_deltaSame.f fl fl = some true := by
  unfold laws_deltaSame.f
  simp
theorem flush_law (w : World) (A : Option Addr) (c : Nat) (l : List (List Int)) (hC : kL.C w A l.length l) (hc : l.length ≤ c) (hb : ∀ p ∈ l, ∀ x ∈ p, 0 ≤ x ∧ x < 256) (a1 a2 a3 : Addr) (hE : Errs w a1 a2 a3) :
    Calls Tryd.prog 3 #[.slice A l.length c] w fun e w' => e = .returned (.bool true) ∧ Below w.heap.size w w' := by
  have HC := Aside0.mk hC
  have HE := Aside0.mk hE
  rcases fits_says l with hf | ⟨hf, hln⟩
  · have HF := Aside0.mk (laws_zzFits19.calls _ A c l _ w hC hc hf)
    clear hC hE hf HC HE hb
    go_enter Tryd.func3, Tryd.ntmps3
    go_wp2_with fail
    refine HF.out.mono ?_
    rintro e w1 ⟨rfl, ⟨n1, rfl⟩⟩
    go_wp2_with fail
    go_ret
    exact ⟨rfl, pw_below_drewN (Below.refl _ _) _⟩
  · have HF := Aside0.mk (laws_zzFits19.calls _ A c l _ w hC hc hf)
    rcases good_says l hln hb with hg | ⟨hg, hn, hgd⟩
    · have HG := fun n1 : Nat => spec_GoodLines.calls _ A c l _ (w.drewN n1) (Kd.C_drewN hC n1) hc hg
      have HW := fun n1 n2 : Nat => pktWorks_any (w.drewN (n1 + n2)) a1 a2 a3 (hE.below (pw_below_drewN (Below.refl _ _) _))
      clear hC hE hf HC HE hb hg
      go_enter Tryd.func3, Tryd.ntmps3
      go_wp2_with fail
      refine HF.out.mono ?_
      rintro e w1 ⟨rfl, ⟨n1, rfl⟩⟩
      go_wp2_with fail
      refine (HG n1).mono ?_
      rintro e w2 ⟨rfl, ⟨n2, rfl⟩⟩
      go_wp2_with fail
      refine (HW n1 n2).mono ?_
      rintro e w3 ⟨rfl, hb3⟩
      have HB3 := Aside0.mk (below_step (pw_below_drewN (Below.refl w.heap.size w) (n1 + n2)) hb3)
      clear HG HW hb3
      go_wp2_with fail
      go_ret
      exact ⟨rfl, HB3.out⟩
    · have HG := fun n1 : Nat => spec_GoodLines.calls _ A c l _ (w.drewN n1) (Kd.C_drewN hC n1) hc hg
      have hgd2 : ∀ p ∈ ([] : List Int) :: l, Good p := by
        intro p hp
        rcases List.mem_cons.1 hp with rfl | hp
        · exact good_nil
        · exact hgd p hp
      obtain ⟨L, hL⟩ : ∃ L, ([] : List Int) :: l = L := ⟨_, rfl⟩
      have hb2 : ∀ p ∈ L, ∀ x ∈ p, 0 ≤ x ∧ x < 256 := by
        intro p hp
        rw [← hL] at hp
        rcases List.mem_cons.1 hp with rfl | hp
        · intro x hx; cases hx
        · exact hb p hp
      rw [hL] at hgd2
      obtain ⟨bs, hbs⟩ : ∃ bs, plines L = bs := ⟨_, rfl⟩
      obtain ⟨cs, hcs⟩ : ∃ cs, plines l = cs := ⟨_, rfl⟩
      have hbc : bs = fl ++ cs := by rw [← hbs, ← hcs, ← hL]; rfl
      have hcl : cs.length ≤ 65520000 := by
        have := plines_len l (fun p hp => (hgd p hp).1)
        rw [hcs] at this
        omega
      have hbl : bs.length = cs.length + 4 := by rw [hbc, List.length_append, Nat.add_comm]; rfl
      have HP := fun W (hW : Below w.heap.size w W) => packetLines_any W A c l (Kd.C_below hC hW) hc (fun p hp => (hgd p hp).1) hn
      have hcalm : Calm (bs.length + 1) bs := by rw [← hbs]; exact calm_plines _ _ hgd2
      have hrun : run (bs.length + 1) bs = (L, true) := by
        rw [← hbs]
        exact run_plines L _ hgd2 (by have := plines_ge L; omega)
      have hbb : ∀ x ∈ bs, 0 ≤ x ∧ x < 256 := by rw [← hbs]; exact plines_bytes L hb2
      have HS := Aside0.mk (same_says l hln)
      simp only [hcs] at HP
      have HCM := Aside0.mk hcalm
      have HRN := Aside0.mk hrun
      have HBB := Aside0.mk hbb
      have HPL := Aside0.mk HP
      have HBC := Aside0.mk hbc
      have HLL := Aside0.mk hL
      have HBL := Aside0.mk hbl
      have HLN := Aside0.mk (show L.length = l.length + 1 from by rw [← hL]; rfl)
      clear hC hE hf hb hg hgd hbs hcs hcalm hrun hbb HP hbc hL hgd2 hb2 hbl
      go_enter Tryd.func3, Tryd.ntmps3
      go_wp2_with fail
      refine HF.out.mono ?_
      rintro e w1 ⟨rfl, ⟨n1, rfl⟩⟩
      go_wp2_with fail
      refine (HG n1).mono ?_
      rintro e w2 ⟨rfl, ⟨n2, rfl⟩⟩
      go_wp2_with fail
      refine (writeFlush_any _).mono ?_
      rintro e w3 ⟨v3, rfl, hR3, hb3⟩
      have HB3 := Aside0.mk (below_step (pw_below_drewN (Below.refl w.heap.size w) (n1 + n2)) hb3)
      have HR3 := Aside0.mk (Kd.R_lower hR3 (Nat.le_refl w.heap.size))
      clear HF HG hb3 hR3
      obtain ⟨A3, c3, rfl⟩ := Kd.R_slice HR3.out
      go_wp2_with fail
      refine (HPL.out _ HB3.out).mono ?_
      rintro e w4 ⟨A4, c4, rfl, hc4, hC4, hb4⟩
      have HB4 := Aside0.mk (below_step HB3.out hb4)
      have HR4 := Aside0.mk (Kd.R_below HR3.out hb4)
      have HC4 := Aside0.mk hC4
      have HBD := Aside0.mk (show (fl.length + cs.length) * 1 ≤ 140737488355328 by show (4 + cs.length) * 1 ≤ _; omega)
      clear hC4 hb4 HPL
      go_wp2_with (first | ((with_reducible refine gate_builtin (b := .append) (xs := #[.tmp 13, .tmp 15]) rfl ?_); at_builtin; go_must (refine Kd.R_append_row (Value.int .u8) 0 (w0 := w) w.heap.size rfl (.tmp 13) (.tmp 15) 27 5 (.int .u8 0) 1 rfl Tryd.underlying27 info5 rfl (by decide) _ fl cs A4 cs.length c4 (fun _ => True) rfl rfl (fun _ _ => trivial) HR4.out HC4.out HB4.out (below_size HB4.out) HBD.out ?_); intro v5 w5 hR5 hB5 _ _; go_must (have HR5 := Aside0.mk hR5; have HB5 := Aside0.mk hB5; clear hR5 hB5; obtain ⟨A5, c5, e5, hc5, hC5⟩ := Kd.R_reads HR5.out; rw [← HBC.out] at e5 hc5 hC5; subst e5; have HC5 := Aside0.mk hC5; have HC55 := Aside0.mk hc5; clear hC5 hc5)) | fail)
      have HRL := Aside0.mk (readLines_any w5 A5 c5 bs a1 a2 a3 HC5.out HC55.out HBB.out (by have := HBL.out; omega) (HE.out.below HB5.out) (.inl HCM.out))
      unfold LinesPost at HRL
      rw [HRN.out] at HRL
      clear HR5 HR4 HC4 HC5 HC55
      refine HRL.out.mono ?_
      rintro e w6 ⟨A6, c6, rfl, hc6, _, hC6, hb6⟩
      have HB6 := Aside0.mk (below_step HB5.out hb6)
      have HC6 := Aside0.mk hC6
      clear HRL hb6 hC6
      clear hcl HBL HCM HRN HBB HBC
      obtain ⟨nL, hnL⟩ : ∃ nL, L.length = nL := ⟨_, rfl⟩
      have hn1 : nL = l.length + 1 := hnL.symm.trans HLN.out
      have HN1 := Aside0.mk hn1
      obtain ⟨ad, A7, c7, e7, hx7, hl7, hi7⟩ := at_L1 HC6.out 0 (Int.le_refl 0) (by rw [hnL, hn1]; omega)
      subst e7
      have hr0 : rd_L1 L 0 = [] := by rw [← HLL.out]; rfl
      rw [hr0] at hx7 hl7
      have hx8 : w6.cell? ad = some (.slice A7 0 c7) := by
        have h := hx7
        rw [show ad.add (Int.toNat 0) = ad from by unfold Addr.add; exact if_pos rfl] at h
        exact h
      have hdr : (L.take L.length).drop 1 = l := by rw [List.take_length, ← HLL.out]; rfl
      have hC7 := Kd.C_mid (k := kL) (lo := 1) (hi := L.length) HC6.out (by rw [hnL, hn1]; omega) (Nat.le_refl _) hc6
      rw [hdr] at hC7
      have HC7 := Aside0.mk hC7
      rw [hnL] at hc6
      rw [hnL]
      have HC6L := Aside0.mk hc6
      have d0 : ((nL : Int) == (l.length : Int) + 1) = true := by rw [hn1, beq_iff_eq]; omega
      have d1 : wrap64 ((l.length : Int) + 1) = (l.length : Int) + 1 := w64 (by omega) (by omega)
      have d4 : 1 ≤ nL := Nat.le_trans (Nat.le_add_left 1 l.length) (Nat.le_of_eq hn1.symm)
      have d3 : (1 : Int) ≤ (nL : Int) := Int.ofNat_le.2 d4
      have d2 : (0 : Int) < (nL : Int) := Int.lt_of_lt_of_le Int.zero_lt_one d3
      have HQ := Aside0.mk (show nL - 1 = l.length from (congrArg (· - 1) hn1).trans (Nat.add_sub_cancel _ _))
      clear hnL hn1 hx7 hi7 hr0 hl7 hdr hC7 hc6
      have HSAM := Aside0.mk (fun (X : Option Addr) (k : Nat) (hk : l.length ≤ k) (hX : kL.C w6 X l.length l) => spec_SameLines.calls _ X k l A c l _ w6 hX hk (Kd.C_below HC.out HB6.out) hc HS.out)
      clear HS
      by_cases hc1 : c6 = 1
      · have HX := Aside0.mk (show kL.C w6 (some ad) l.length l from by have := HC7.out; rwa [if_pos hc1] at this)
        have v4 : (c6 = 1) = True := eq_true hc1
        have HSM := Aside0.mk (show Calls Tryd.prog 10 #[.slice (some ad) (nL - 1) 0, .slice A l.length c] w6 _ from by rw [HQ.out]; exact HSAM.out (some ad) 0 (by have := HC6L.out; have := HQ.out; omega) HX.out)
        subst hc1
        clear HSAM HC7 HX
        go_wp2_with fail
        refine HSM.out.mono ?_
        rintro e w7 ⟨rfl, ⟨n7, rfl⟩⟩
        have HB7 := Aside0.mk (pw_below_drewN HB6.out n7)
        clear HSM
        go_wp2_with fail
        refine (writeFlush_any _).mono ?_
        rintro e w8 ⟨v8, rfl, hR8, hb8⟩
        have HB8 := Aside0.mk (below_step HB7.out hb8)
        obtain ⟨A8, c8, rfl, hc8, hC8⟩ := Kd.R_reads hR8
        have HC8 := Aside0.mk hC8
        clear hR8 hb8 hC8
        have hcv := Joins.run_convert_bytes_const_at (P := Tryd.prog) w8 27 5 #[.int .u8 48, .int .u8 48, .int .u8 48, .int .u8 48] 4 4 w8.heap.size rfl Tryd.underlying27 Tryd.underlying5
        have HLC := Aside0.mk (lit0_cells w8 (4, 5))
        have HLB := Aside0.mk ((Below.refl w8.heap.size w8).alloc (Nat.le_refl _) (.cells #[.int .u8 48, .int .u8 48, .int .u8 48, .int .u8 48] 5 (4, 5)))
        obtain ⟨W9, hW9⟩ : ∃ W9, w8.alloc (.cells #[.int .u8 48, .int .u8 48, .int .u8 48, .int .u8 48] 5 (4, 5)) = W9 := ⟨_, rfl⟩
        rw [hW9] at HLC HLB
        have hcv2 := hcv.trans (congrArg (Result.ok (Value.slice (some ⟨w8.heap.size, 0, none⟩) 4 4)) hW9)
        have HDS := Aside0.mk (laws_deltaSame.calls A8 c8 fl (some ⟨w8.heap.size, 0, none⟩) 4 fl true W9 (Kd.C_below HC8.out HLB.out) hc8 HLC.out (Nat.le_refl _) same_fl)
        have HB9 := Aside0.mk (below_step HB8.out HLB.out)
        clear hcv hW9 HLC HC8
        go_wp2_with fail
        refine HDS.out.mono ?_
        rintro e w10 ⟨rfl, ⟨n10, rfl⟩⟩
        have HB10 := Aside0.mk (pw_below_drewN HB9.out n10)
        clear HDS
        go_wp2_with fail
        go_ret
        exact ⟨rfl, HB10.out⟩
      · have HX := Aside0.mk (show kL.C w6 (some ⟨ad.block, ad.off + 1, none⟩) l.length l from by have h := HC7.out; rw [if_neg hc1] at h; exact h)
        have v4 : (c6 = 1) = False := eq_false hc1
        have HSM := Aside0.mk (show Calls Tryd.prog 10 #[.slice (some ⟨ad.block, ad.off + 1, none⟩) (nL - 1) (c6 - 1), .slice A l.length c] w6 _ from by rw [HQ.out]; exact HSAM.out _ (c6 - 1) (by have := HC6L.out; have := HQ.out; omega) HX.out)
        clear HSAM HC7 HX
        go_wp2_with fail
        refine HSM.out.mono ?_
        rintro e w7 ⟨rfl, ⟨n7, rfl⟩⟩
        have HB7 := Aside0.mk (pw_below_drewN HB6.out n7)
        clear HSM
        go_wp2_with fail
        refine (writeFlush_any _).mono ?_
        rintro e w8 ⟨v8, rfl, hR8, hb8⟩
        have HB8 := Aside0.mk (below_step HB7.out hb8)
        obtain ⟨A8, c8, rfl, hc8, hC8⟩ := Kd.R_reads hR8
        have HC8 := Aside0.mk hC8
        clear hR8 hb8 hC8
        have hcv := Joins.run_convert_bytes_const_at (P := Tryd.prog) w8 27 5 #[.int .u8 48, .int .u8 48, .int .u8 48, .int .u8 48] 4 4 w8.heap.size rfl Tryd.underlying27 Tryd.underlying5
        have HLC := Aside0.mk (lit0_cells w8 (4, 5))
        have HLB := Aside0.mk ((Below.refl w8.heap.size w8).alloc (Nat.le_refl _) (.cells #[.int .u8 48, .int .u8 48, .int .u8 48, .int .u8 48] 5 (4, 5)))
        obtain ⟨W9, hW9⟩ : ∃ W9, w8.alloc (.cells #[.int .u8 48, .int .u8 48, .int .u8 48, .int .u8 48] 5 (4, 5)) = W9 := ⟨_, rfl⟩
        rw [hW9] at HLC HLB
        have hcv2 := hcv.trans (congrArg (Result.ok (Value.slice (some ⟨w8.heap.size, 0, none⟩) 4 4)) hW9)
        have HDS := Aside0.mk (laws_deltaSame.calls A8 c8 fl (some ⟨w8.heap.size, 0, none⟩) 4 fl true W9 (Kd.C_below HC8.out HLB.out) hc8 HLC.out (Nat.le_refl _) same_fl)
        have HB9 := Aside0.mk (below_step HB8.out HLB.out)
        clear hcv hW9 HLC HC8
        go_wp2_with fail
        refine HDS.out.mono ?_
        rintro e w10 ⟨rfl, ⟨n10, rfl⟩⟩
        have HB10 := Aside0.mk (pw_below_drewN HB9.out n10)
        clear HDS
        go_wp2_with fail
        go_ret
        exact ⟨rfl, HB10.out⟩
end Go.Proofs.YtjbnhigabhembaaDoor.pkt
