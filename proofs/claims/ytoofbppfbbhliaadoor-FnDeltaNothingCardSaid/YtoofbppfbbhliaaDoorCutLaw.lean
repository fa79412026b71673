/- laws.FnDeltaCut: the walk. -/
import Derived.Test.YtoofbppfbbhliaaDoorSteps
import Derived.Test.YtoofbppfbbhliaaDoorWorks
namespace Go.Proofs.YtoofbppfbbhliaaDoor.steps
open Go.RowKit Go.Proofs.YtoofbppfbbhliaaDoorW.PrintWords Go.Proofs.YtoofbppfbbhliaaDoorW.PrintLast Go.Proofs.YtoofbppfbbhliaaDoorW.PrintMore Go.Proofs.YtoofbppfbbhliaaDoor.leb Go.Proofs.YtoofbppfbbhliaaDoor.PFnDeltaCut
set_option linter.unusedVariables false
set_option maxHeartbeats 2000000
set_option maxRecDepth 100000
theorem enc_bytes (q : List (Bool × Nat)) (h : ∀ y ∈ q, y.2 < 256) : Bytes (enc q) := by
  induction q with
  | nil => intro x hx; simp [enc] at hx
  | cons y r ih =>
    obtain ⟨p, b⟩ := y
    have hb := h (p, b) (by simp)
    simp only at hb
    have ih' := ih (fun y hy => h y (by simp [hy]))
    cases p with
    | false => exact ih'
    | true =>
      intro x hx
      rcases List.mem_cons.1 hx with rfl | hx
      · omega
      · exact ih' x hx
theorem step_bytes {x : S56} {base : List Int} (h : Good x base) (hy : Bytes x.f3) : Bytes (stepB x) := by
  rw [stepB]
  split
  · intro z hz
    rcases List.mem_cons.1 hz with rfl | hz
    · rw [codeI_eq _ _ _ 7 (by omega)]
      have := codeN_lt (here x.f1 (if x.f2 = 65536 then 0 else x.f2) x.f4) 7
      omega
    · rw [encI_eq] at hz
      have hr := fun i => byteAt_range x.f1 (if x.f2 = 65536 then 0 else x.f2) i
      have ht : ∀ i, (byteAt x.f1 (if x.f2 = 65536 then 0 else x.f2) i).toNat < 256 := fun i => by have := hr i; omega
      rcases List.mem_append.1 hz with hz | hz
      · exact enc_bytes _ (by intro y hy; simp only [q4, List.mem_cons, List.not_mem_nil, or_false] at hy; rcases hy with rfl | rfl | rfl | rfl <;> exact ht _) z hz
      · exact enc_bytes _ (by intro y hy; simp only [q3, List.mem_cons, List.not_mem_nil, or_false] at hy; rcases hy with rfl | rfl | rfl <;> exact ht _) z hz
  · rename_i hx
    rw [Good, if_neg hx] at h
    intro z hz
    rcases List.mem_cons.1 hz with rfl | hz
    · omega
    · exact hy z hz
theorem flat_bytes {base : List Int} : ∀ (l : List S56), (∀ x ∈ l, Good x base) → (∀ x ∈ l, Bytes x.f3) → Bytes (flat l)
  | [], _, _ => by intro x hx; simp [flat] at hx
  | x :: l, hg, hy => by
    intro z hz
    simp only [flat, List.flatMap_cons, List.mem_append] at hz
    rcases hz with hz | hz
    · exact step_bytes (hg x (by simp)) (hy x (by simp)) z hz
    · exact flat_bytes l (fun y h => hg y (by simp [h])) (fun y h => hy y (by simp [h])) z hz
theorem sized_of (base rest : List Int) (T : Nat) (hb : base.length ≤ 1000000) (h1 : 1 ≤ T) (h2 : T ≤ 1000000000000) (hr : Bytes rest) : Sized base (seven base.length ++ seven T ++ rest) rest T :=
  ⟨⟨digits base.length, digits T, by rw [List.append_assoc]; rfl, by obtain ⟨d, r, e⟩ := digits_ne base.length; rw [e]; simp, digits_len 9 _ (by omega) (by omega), fun d => digits_lt _ d, by obtain ⟨d, r, e⟩ := digits_ne T; rw [e]; simp, digits_len 9 _ (by omega) (by omega), fun d => digits_lt _ d, digits_val _, digits_val _⟩, h1, h2, hr⟩
theorem cut_at (F : Nat) (n : Int) (hF1 : 1 ≤ F) : ∃ x : Nat, x < F ∧ (n.tmod (F : Int) + (F : Int)).tmod (F : Int) = (x : Int) ∧ -(F : Int) < n.tmod (F : Int) ∧ n.tmod (F : Int) < (F : Int) := by
  have hp : (0 : Int) < F := by omega
  have hlt := Int.tmod_lt_of_pos n hp
  have hgt : -(F : Int) < n.tmod (F : Int) := by
    have h1 := Int.tmod_lt_of_pos (-n) hp
    rw [Int.neg_tmod] at h1
    omega
  generalize n.tmod (F : Int) = y at hlt hgt ⊢
  have h0 := Int.tmod_nonneg (F : Int) (show (0 : Int) ≤ y + F by omega)
  have h1 := Int.tmod_lt_of_pos (y + F) hp
  exact ⟨((y + F).tmod F).toNat, by omega, by omega, hgt, hlt⟩
theorem cut_sums (s1 s2 F D x : Nat) (n : Int) (hD : D = s1 + s2 + F) (h1 : s1 ≤ 9) (h2 : s2 ≤ 9) (hF1 : 1 ≤ F) (hF2 : F ≤ 64000) (hx : x < F) (hgt : -(F : Int) < n.tmod (F : Int)) (hlt : n.tmod (F : Int) < (F : Int)) :
    wrap64 ((s1 : Int) + (s2 : Int)) = (s1 : Int) + (s2 : Int) ∧ wrap64 ((D : Int) - ((s1 : Int) + (s2 : Int))) = (F : Int) ∧ wrap64 (n.tmod (F : Int) + (F : Int)) = n.tmod (F : Int) + (F : Int) ∧ wrap64 ((s1 : Int) + (s2 : Int) + (x : Int)) = ((s1 + s2 + x : Nat) : Int) ∧ s1 + s2 + x ≤ D ∧ ((F : Int) == 0) = false ∧ (¬ F = 0) ∧ (wrap64 ((D : Int) - ((s1 : Int) + (s2 : Int))) == 0) = false := by
  generalize n.tmod (F : Int) = y at hlt hgt ⊢
  have e1 : wrap64 ((D : Int) - ((s1 : Int) + (s2 : Int))) = (F : Int) := by rw [w64 (by omega) (by omega)]; omega
  have e2 : ((F : Int) == 0) = false := by rw [beq_eq_false_iff_ne]; omega
  exact ⟨w64 (by omega) (by omega), e1, w64 (by omega) (by omega), by rw [w64 (by omega) (by omega)]; omega, by omega, e2, by omega, by rw [e1]; exact e2⟩
theorem cut_take (S1 S2 F D : List Int) (x : Nat) (hD : S1 ++ S2 ++ F = D) : D.take (S1.length + S2.length + x) = S1 ++ S2 ++ F.take x := by
  rw [← hD, List.take_append, List.take_of_length_le (by rw [List.length_append]; omega), List.length_append]
  congr 2; omega
theorem cut_len (D : List Int) (n : Nat) (h : n ≤ D.length) : (D.take n).length = n := by rw [List.length_take]; omega
theorem cut_base {n : Nat} (h : n ≤ 1000000) : n ≤ 140737488355328 := by omega
theorem cut_most {s1 s2 F x : Nat} (h1 : s1 ≤ 9) (h2 : s2 ≤ 9) (hF2 : F ≤ 64000) (hx : x < F) : s1 + s2 + x ≤ 140737488355328 := by omega
theorem cut_law (A0 A1 : Option Addr) (c0 c1 : Nat) (base : List Int) (l : List S56) (n : Int) (w : World) (hr0 : Kd.C (Kd.int .u8) w A0 base.length base) (hc0 : base.length ≤ c0) (hr1 : Kd.C k56 w A1 l.length l) (hc1 : l.length ≤ c1)
    (hy : ∀ x ∈ l, Bytes x.f3) (hn0 : -9223372036854775808 ≤ n) (hn1 : n ≤ 9223372036854775807) (e2 : Value) (ao az : Addr) (co cz : Nat) (hE : Env w e2 ao az co cz) :
    Calls Tryd.prog 7 #[.slice A0 base.length c0, .slice A1 l.length c1, .int .i64 n] w fun e w' => e = .returned (.bool true) ∧ Below w.heap.size w w' := by
  obtain ⟨b1, hf1, hf2⟩ := fits_f l
  obtain ⟨b2, hg1, hg2⟩ := good_f base l (Kd.C_max hr0) (Kd.C_max hr1)
  have HF := Aside0.mk (laws_zzFits7.calls _ A1 c1 l b1 w hr1 hc1 hf1)
  have HG := fun W (hb : Below w.heap.size w W) => spec_GoodSteps.calls _ A1 c1 l A0 c0 base b2 W (Kd.C_below hr1 hb) hc1 (Kd.C_below hr0 hb) hc0 hg1
  have HGG := Aside0.mk HG
  have HR0 := Aside0.mk hr0
  have HR1 := Aside0.mk hr1
  have HY := Aside0.mk hy
  have HE := Aside0.mk hE
  have HG2 := Aside0.mk hg2
  have HF2 := Aside0.mk hf2
  clear hf1 hf2 hg1 hg2 HG hr0 hr1 hy hE
  by_cases h31 : 2147483647 < base.length
  · go_enter Tryd.func7, Tryd.ntmps7
    go_wp2_with fail
    all_goals go_ret
    all_goals exact ⟨rfl, Below.refl _ _⟩
  · go_enter Tryd.func7, Tryd.ntmps7
    go_wp2_with fail
    refine HF.out.mono ?_
    rintro e w1 ⟨rfl, hb1⟩
    have HB1 := Aside0.mk hb1
    clear hb1 HF
    cases b1 with
    | false =>
      go_wp2_with fail
      all_goals go_ret
      all_goals exact ⟨rfl, HB1.out⟩
    | true =>
      by_cases hz : base.length = 0
      · go_wp2_with fail
        refine (works_any w1 e2 ao az co cz (HE.out.below HB1.out)).mono ?_
        rintro e w2 ⟨rfl, hb2⟩
        have HB2 := Aside0.mk (below_step HB1.out hb2)
        go_wp2
        go_ret
        exact ⟨rfl, HB2.out⟩
      · have hz1 : ((base.length : Int) == 0) = false := by rw [beq_eq_false_iff_ne]; omega
        go_wp2_with fail
        refine (HGG.out w1 HB1.out).mono ?_
        rintro e w2 ⟨rfl, hb2⟩
        have HB2 := Aside0.mk (below_step HB1.out hb2)
        clear hb2 HB1 HGG
        cases b2 with
        | false =>
          go_wp2_with fail
          refine (works_any w2 e2 ao az co cz (HE.out.below HB2.out)).mono ?_
          rintro e w3 ⟨rfl, hb3⟩
          have HB3 := Aside0.mk (below_step HB2.out hb3)
          go_wp2
          go_ret
          exact ⟨rfl, HB3.out⟩
        | true =>
          go_wp2_with fail
          obtain ⟨hgl, hl1, hl5, hb6⟩ := HG2.out (by trivial)
          clear HG2 HF2
          have hml := madeAll_len base l hgl
          have hfl := flat_len l hgl
          have hfb := flat_bytes l hgl HY.out
          have hDe := delta_f base l hb6 hl5 hgl 700 (by omega)
          have hMe := made_f base l hb6 hl5 hgl 700 (by omega)
          have hPc := fun m (hm : m < (flat l).length) => patch_list_cut hb6 l (madeAll base l).length m [] hgl (Nat.le_refl _) hm
          have hSz := fun m => sized_of base ((flat l).take m) (madeAll base l).length hb6 (by omega) (by omega) (fun x hx => hfb x (List.mem_of_mem_take hx))
          have hs1 := seven_len base.length (by omega)
          have hs2 := seven_len (madeAll base l).length (by omega)
          generalize hFe : flat l = F at hfl hDe hPc hSz
          generalize hMe' : madeAll base l = M at hml hDe hMe hPc hSz hs2
          obtain ⟨S1, hS1⟩ : ∃ S1, seven base.length = S1 := ⟨_, rfl⟩
          obtain ⟨S2, hS2⟩ : ∃ S2, seven M.length = S2 := ⟨_, rfl⟩
          rw [hS1] at hs1
          rw [hS2] at hs2
          rw [hS1, hS2] at hDe hSz
          obtain ⟨D, hD⟩ : ∃ D, S1 ++ S2 ++ F = D := ⟨_, rfl⟩
          rw [hD] at hDe
          have hDl : D.length = S1.length + S2.length + F.length := by rw [← hD, List.length_append, List.length_append]
          have hq1 := size7 700 base.length (by omega) (by omega)
          have hq2 := size7 700 M.length (by omega) (by omega)
          rw [hS1] at hq1
          rw [hS2] at hq2
          have HDL := Aside0.mk hDl
          have HDD := Aside0.mk hD
          have HPC := Aside0.mk hPc
          have HSZ := Aside0.mk hSz
          have HQ2 := Aside0.mk hq2
          have HQ1 := Aside0.mk hq1
          have HME := Aside0.mk hMe
          refine (spec_Delta.calls 700 A0 c0 base A1 c1 l D w2 (Kd.C_below HR0.out HB2.out) hc0 (Kd.C_below HR1.out HB2.out) hc1 hDe).mono ?_
          clear hq1 hq2 hPc hSz hD hDl hMe hDe hS1 hS2 hFe hMe' hfb hgl
          rintro e w3 ⟨v3, rfl, hR3, hb3⟩
          obtain ⟨A3, c3, rfl⟩ := Kd.R_slice hR3
          obtain ⟨_, hc3, hC3⟩ := Kd.R_reads' hR3
          have HB3 := Aside0.mk (below_step HB2.out hb3)
          have HC3 := Aside0.mk hC3
          clear hR3 hC3 hb3
          go_wp2_with fail
          refine (spec_Size7.calls 700 base.length S1 w3 HQ1.out).mono ?_
          rintro e w4 ⟨v4, rfl, hR4, hb4⟩
          obtain ⟨A4, c4, rfl⟩ := Kd.R_slice hR4
          have HB4 := Aside0.mk (below_step HB3.out hb4)
          have HC4 := Aside0.mk (Kd.C_below HC3.out hb4)
          clear hR4 hb4
          go_wp2_with fail
          refine (spec_Made.calls 700 A0 c0 base A1 c1 l M w4 (Kd.C_below HR0.out HB4.out) hc0 (Kd.C_below HR1.out HB4.out) hc1 HME.out).mono ?_
          rintro e w5 ⟨v5, rfl, hR5, hb5⟩
          obtain ⟨A5, c5, rfl⟩ := Kd.R_slice hR5
          have HB5 := Aside0.mk (below_step HB4.out hb5)
          have HC5 := Aside0.mk (Kd.C_below HC4.out hb5)
          clear hR5 hb5
          go_wp2_with fail
          refine (spec_Size7.calls 700 M.length S2 w5 HQ2.out).mono ?_
          rintro e w6 ⟨v6, rfl, hR6, hb6⟩
          obtain ⟨A6, c6, rfl⟩ := Kd.R_slice hR6
          have HB6 := Aside0.mk (below_step HB5.out hb6)
          have HC6 := Aside0.mk (Kd.C_below HC5.out hb6)
          clear hR6 hb6
          have hDl := HDL.out
          have hF1 : 1 ≤ F.length := by omega
          have hF2 : F.length ≤ 64000 := by omega
          obtain ⟨x, hxF, hx, hgt, hlt⟩ := cut_at F.length n hF1
          obtain ⟨w0, w1, w2, w3, hPD, hF0, hF00, hD0⟩ := cut_sums S1.length S2.length F.length D.length x n hDl hs1 hs2 hF1 hF2 hxF hgt hlt
          have hPc3 : S1.length + S2.length + x ≤ c3 := Nat.le_trans hPD hc3
          have htake := cut_take S1 S2 F D x HDD.out
          have hlen := cut_len D (S1.length + S2.length + x) hPD
          have hC7 := Kd.C_take HC6.out hPD
          have hlp : S1.length + S2.length + x ≤ 140737488355328 := cut_most hs1 hs2 hF2 hxF
          have hSx := HSZ.out x
          rw [← htake] at hSx
          have hI := impl_any A0 A3 c0 c3 base (D.take (S1.length + S2.length + x)) (F.take x) M.length none w6 (Kd.C_below HR0.out HB6.out) hc0 hC7 (by rw [hlen]; exact hPc3) (cut_base hb6) (by rw [hlen]; exact hlp) e2 ao az co cz (HE.out.below HB6.out) hSx (Nat.pos_of_ne_zero hz) (HPC.out x hxF)
          rw [hlen] at hI
          have HI := Aside0.mk hI
          clear hI hC7 hlen htake hDl hlt hgt hSx hlp
          clear w0 w3 hD0
          go_wp2_with fail
          refine HI.out.mono ?_
          clear HI
          rintro e w7 ⟨⟨v, rfl⟩, hb7⟩
          have HB7 := Aside0.mk (below_step HB6.out hb7)
          clear hb7
          go_wp2_with fail
          refine (works_any w7 e2 ao az co cz (HE.out.below HB7.out)).mono ?_
          rintro e w8 ⟨rfl, hb8⟩
          have HB8 := Aside0.mk (below_step HB7.out hb8)
          go_wp2
          go_ret
          exact ⟨rfl, HB8.out⟩
end Go.Proofs.YtoofbppfbbhliaaDoor.steps
