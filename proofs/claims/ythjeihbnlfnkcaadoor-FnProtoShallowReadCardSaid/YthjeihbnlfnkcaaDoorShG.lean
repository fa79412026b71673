/- Shallow lines: the law FnProtoShallowRead. -/
import Derived.Test.YthjeihbnlfnkcaaDoorShF
namespace Go.Proofs.YthjeihbnlfnkcaaDoor.shal
open Go.RowKit Go.Lib Go.Proofs.YthjeihbnlfnkcaaDoorW.PrintWords Go.Proofs.YthjeihbnlfnkcaaDoorW.PrintLast Go.Proofs.YthjeihbnlfnkcaaDoorW.PrintMore Go.Proofs.YthjeihbnlfnkcaaDoor.PFnProtoShallowRead Go.Proofs.YthjeihbnlfnkcaaDoor.pkt Go.Proofs.YthjeihbnlfnkcaaDoor.hash
set_option linter.unusedVariables false
set_option linter.unusedSimpArgs false
set_option maxHeartbeats 2000000
set_option maxRecDepth 100000
theorem items_names {SL UL : List ByteArray} (h0 : ∀ s ∈ SL, name40 s = true) (h1 : ∀ s ∈ UL, name40 s = true) : ∀ x ∈ items SL UL, name40 x.2 = true := by
  intro x hx
  unfold items at hx
  rcases List.mem_append.1 hx with hx | hx
  · obtain ⟨s, hs, rfl⟩ := List.mem_map.1 hx; exact h0 s hs
  · obtain ⟨s, hs, rfl⟩ := List.mem_map.1 hx; exact h1 s hs
theorem text_bytes {l : List (Bool × ByteArray)} (h : ∀ x ∈ l, name40 x.2 = true) : ∀ x ∈ plines (lines l), 0 ≤ x ∧ x < 256 := by
  refine plines_bytes (lines l) (fun p hp x hx => ?_)
  unfold lines at hp
  rcases List.mem_append.1 hp with hp | hp
  · obtain ⟨y, hy, rfl⟩ := List.mem_map.1 hp
    have := line_range (h y hy) x hx
    omega
  · simp at hp
    subst hp
    cases hx
theorem read_law (w : World) (A0 A1 : Option Addr) (c0 c1 : Nat) (SL UL : List ByteArray) (hC0 : Kd.string.C w A0 SL.length SL) (hc0 : SL.length ≤ c0) (hC1 : Kd.string.C w A1 UL.length UL) (hc1 : UL.length ≤ c1) (a1 a2 a3 : Addr) (hE : Errs w a1 a2 a3) (ev : Value) (hEL : w.cell? ⟨14, 0, none⟩ = some ev) (hT : Lib.TabIs Tryd.prog w "bytes.asciiSpace" .u8 Lib.asciiSpaceTab) :
    Calls Tryd.prog 4 #[.slice A0 SL.length c0, .slice A1 UL.length c1] w fun e w' => e = .returned (.bool true) ∧ Below w.heap.size w w' := by
  have HC0 := Aside0.mk hC0
  have HC1 := Aside0.mk hC1
  have HE := Aside0.mk hE
  have HEL := Aside0.mk hEL
  have HT := Aside0.mk hT
  obtain ⟨r0, hf0, hq0⟩ := fits_says SL
  obtain ⟨r1, hf1, hq1⟩ := fits_says UL
  have HF0 := Aside0.mk (laws_zzFits16.calls _ A0 c0 SL r0 w hC0 hc0 hf0)
  have HF1 := Aside0.mk (fun n : Nat => laws_zzFits16.calls _ A1 c1 UL r1 (w.drewN n) (Kd.C_drewN hC1 n) hc1 hf1)
  have HW := Aside0.mk (fun n : Nat => pktWorks_any (w.drewN n) a1 a2 a3 (hE.below (pw_below_drewN (Below.refl _ _) _)))
  clear hC0 hC1 hE hEL hT hf0 hf1
  cases r0 with
  | false =>
    go_enter Tryd.func4, Tryd.ntmps4
    go_wp2_with fail
    refine HF0.out.mono ?_
    rintro e w1 ⟨rfl, ⟨n1, rfl⟩⟩
    go_wp2_with fail
    go_ret
    exact ⟨rfl, pw_below_drewN (Below.refl _ _) _⟩
  | true =>
    cases r1 with
    | false =>
      go_enter Tryd.func4, Tryd.ntmps4
      go_wp2_with fail
      refine HF0.out.mono ?_
      rintro e w1 ⟨rfl, ⟨n1, rfl⟩⟩
      go_wp2_with fail
      refine (HF1.out n1).mono ?_
      rintro e w2 ⟨rfl, ⟨n2, rfl⟩⟩
      go_wp2_with fail
      go_ret
      exact ⟨rfl, pw_below_drewN (Below.refl _ _) _⟩
    | true =>
      obtain ⟨hl0, hs0⟩ := hq0 rfl
      obtain ⟨hl1, hs1⟩ := hq1 rfl
      obtain ⟨k0, b0, hg0, hh0⟩ := goodHashes_says SL hl0 hs0
      obtain ⟨k1, b1, hg1, hh1⟩ := goodHashes_says UL hl1 hs1
      have HG0 := Aside0.mk (fun n : Nat => spec_GoodHashes.calls k0 A0 c0 SL b0 (w.drewN n) (Kd.C_drewN HC0.out n) hc0 hg0)
      have HG1 := Aside0.mk (fun n : Nat => spec_GoodHashes.calls k1 A1 c1 UL b1 (w.drewN n) (Kd.C_drewN HC1.out n) hc1 hg1)
      have HS0 := Aside0.mk (same_says SL hl0)
      have HS1 := Aside0.mk (same_says UL hl1)
      clear hg0 hg1 hs0 hs1 hq0 hq1
      cases b0 with
      | false =>
        go_enter Tryd.func4, Tryd.ntmps4
        go_wp2_with fail
        refine HF0.out.mono ?_
        rintro e w1 ⟨rfl, ⟨n1, rfl⟩⟩
        go_wp2_with fail
        refine (HF1.out n1).mono ?_
        rintro e w2 ⟨rfl, ⟨n2, rfl⟩⟩
        go_wp2_with fail
        refine (HG0.out (n1 + n2)).mono ?_
        rintro e w3 ⟨rfl, ⟨n3, rfl⟩⟩
        go_wp2_with fail
        refine (HW.out (n1 + n2 + n3)).mono ?_
        rintro e w9 ⟨rfl, hb9⟩
        have HB9 := Aside0.mk (below_step (pw_below_drewN (Below.refl w.heap.size w) (n1 + n2 + n3)) hb9)
        clear hb9
        go_wp2_with fail
        go_ret
        exact ⟨rfl, HB9.out⟩
      | true =>
        cases b1 with
        | false =>
          go_enter Tryd.func4, Tryd.ntmps4
          go_wp2_with fail
          refine HF0.out.mono ?_
          rintro e w1 ⟨rfl, ⟨n1, rfl⟩⟩
          go_wp2_with fail
          refine (HF1.out n1).mono ?_
          rintro e w2 ⟨rfl, ⟨n2, rfl⟩⟩
          go_wp2_with fail
          refine (HG0.out (n1 + n2)).mono ?_
          rintro e w3 ⟨rfl, ⟨n3, rfl⟩⟩
          go_wp2_with fail
          refine (HG1.out (n1 + n2 + n3)).mono ?_
          rintro e w4 ⟨rfl, ⟨n4, rfl⟩⟩
          go_wp2_with fail
          refine (HW.out (n1 + n2 + n3 + n4)).mono ?_
          rintro e w9 ⟨rfl, hb9⟩
          have HB9 := Aside0.mk (below_step (pw_below_drewN (Below.refl w.heap.size w) (n1 + n2 + n3 + n4)) hb9)
          clear hb9
          go_wp2_with fail
          go_ret
          exact ⟨rfl, HB9.out⟩
        | true =>
          obtain ⟨hk0, hn0⟩ := hh0 rfl
          obtain ⟨hk1, hn1⟩ := hh1 rfl
          have HTX := Aside0.mk (fun n : Nat => shallowText_any (w.drewN n) A0 A1 c0 c1 SL UL (Kd.C_drewN HC0.out n) (Kd.C_drewN HC1.out n) hk0 hk1 hn0 hn1)
          obtain ⟨xs, hxs⟩ : ∃ xs, plines (lines (items SL UL)) = xs := ⟨_, rfl⟩
          have hil : (items SL UL).length ≤ 2000 := by unfold items; rw [List.length_append, List.length_map, List.length_map]; omega
          have hxl : xs.length ≤ 2147483647 := by
            rw [← hxs, items_text, List.length_append, List.length_append]
            have h1 := part_len true SL hn0
            have h2 := part_len false UL hn1
            show _ + 4 ≤ _
            omega
          have HBY := Aside0.mk (show ∀ x ∈ xs, 0 ≤ x ∧ x < 256 from hxs ▸ text_bytes (items_names hn0 hn1))
          have HIN := Aside0.mk (items_names hn0 hn1)
          have HXS := Aside0.mk hxs
          have HSE := Aside0.mk (sel_items SL UL)
          simp only [hxs] at HTX
          clear hn0 hn1 hh0 hh1 hxs
          go_enter Tryd.func4, Tryd.ntmps4
          go_wp2_with fail
          refine HF0.out.mono ?_
          rintro e w1 ⟨rfl, ⟨n1, rfl⟩⟩
          go_wp2_with fail
          refine (HF1.out n1).mono ?_
          rintro e w2 ⟨rfl, ⟨n2, rfl⟩⟩
          go_wp2_with fail
          refine (HG0.out (n1 + n2)).mono ?_
          rintro e w3 ⟨rfl, ⟨n3, rfl⟩⟩
          go_wp2_with fail
          refine (HG1.out (n1 + n2 + n3)).mono ?_
          rintro e w4 ⟨rfl, ⟨n4, rfl⟩⟩
          go_wp2_with fail
          refine (HTX.out (n1 + n2 + n3 + n4)).mono ?_
          rintro e w5 ⟨A5, c5, rfl, hc5, hC5, hb5⟩
          have HB5 := Aside0.mk (below_step (pw_below_drewN (Below.refl w.heap.size w) (n1 + n2 + n3 + n4)) hb5)
          have HRS := Aside0.mk (readShallow_any w5 A5 c5 (items SL UL) xs HXS.out a1 a2 a3 ev HIN.out hil hC5 hc5 HBY.out hxl (HE.out.below HB5.out) ((HB5.out.cell (World.block_lt_of_cell? _ _ HEL.out)).trans HEL.out) (tab_below (g := 2) (by kernel_rfl) HT.out HB5.out) (by rw [HSE.out.1]; exact hk0) (by rw [HSE.out.2]; exact hk1))
          rw [HSE.out.1, HSE.out.2] at HRS
          clear HF0 HF1 HG0 HG1 HTX hb5 hC5
          go_wp2_with fail
          refine HRS.out.mono ?_
          rintro e w6 ⟨T1, d1, T2, d2, rfl, hd1, hd2, hD1, hD2, hb6⟩
          have HB6 := Aside0.mk (below_step HB5.out hb6)
          have HD2 := Aside0.mk hD2
          have HSM := Aside0.mk (spec_SameTexts.calls _ T1 d1 SL A0 c0 SL _ w6 hD1 hd1 (Kd.C_below HC0.out HB6.out) hc0 HS0.out)
          clear HRS hb6 hD1 hD2
          go_wp2_with fail
          refine HSM.out.mono ?_
          rintro e w7 ⟨rfl, ⟨n7, rfl⟩⟩
          have HB7 := Aside0.mk (pw_below_drewN HB6.out n7)
          have HSM2 := Aside0.mk (spec_SameTexts.calls _ T2 d2 UL A1 c1 UL _ (w6.drewN n7) (Kd.C_drewN HD2.out n7) hd2 (Kd.C_below HC1.out HB7.out) hc1 HS1.out)
          clear HSM
          go_wp2_with fail
          refine HSM2.out.mono ?_
          rintro e w8 ⟨rfl, ⟨n8, rfl⟩⟩
          have HB8 := Aside0.mk (show Below w.heap.size w (w6.drewN (n7 + n8)) from pw_below_drewN HB6.out _)
          have HW8 := Aside0.mk (pktWorks_any (w6.drewN (n7 + n8)) a1 a2 a3 (HE.out.below HB8.out))
          clear HSM2
          go_wp2_with fail
          refine HW8.out.mono ?_
          rintro e w9 ⟨rfl, hb9⟩
          have HB9 := Aside0.mk (below_step HB8.out hb9)
          clear hb9 HW8
          go_wp2_with fail
          go_ret
          exact ⟨rfl, HB9.out⟩
end Go.Proofs.YthjeihbnlfnkcaaDoor.shal
