/- The law FnIgnoreElsewhere. -/
import Derived.Test.YtbiflpbajgafaaaIgnK
namespace Go.Proofs.Ytbiflpbajgafaaa.ign
open Go.RowKit Go.Proofs.YtbiflpbajgafaaaW.PrintWords Go.Proofs.YtbiflpbajgafaaaW.PrintLast Go.Proofs.YtbiflpbajgafaaaW.PrintMore Go.Proofs.Ytbiflpbajgafaaa.PFnIgnoreRoot
set_option linter.unusedVariables false
set_option linter.unusedSimpArgs false
set_option maxHeartbeats 4000000
set_option maxRecDepth 100000
theorem off_says {w : World} {p : ByteArray} {parts ds ns : List ByteArray} {tail dir : Bool} {D B : Option Addr} {cd c2 : Nat} (hp : Pat p parts tail) (hD : Kd.string.C w D ds.length ds) (hcd : ds.length ≤ cd) (hds : PathOK ds) (hN : Kd.string.C w B ns.length ns) (hcc : ns.length ≤ c2) (hns : PathOK ns) (k : Nat) (hk : k < ds.length) (hoff : ∀ h : k < ns.length, ns[k] ≠ ds[k]) :
    Says w 13 #[.string p, .slice D ds.length cd, .slice B ns.length c2, .bool dir] (.int .i64 0) := by
  intro W hW
  refine (pattern_off W p parts ds ns tail dir D B cd c2 hp (Kd.C_below hD hW) hcd (by have := hds.len; omega) (fun h => absurd hds.pos (by rw [h]; decide)) (Kd.C_below hN hW) hcc (fun h => absurd hns.pos (by rw [h]; decide)) (by have := hns.len; omega) k hk hoff).mono ?_
  rintro e w' ⟨h1, h2⟩
  exact ⟨h1, below_step hW h2⟩
/-- The fixed call with a folder. -/
theorem fixed_two (w W : World) (hb : Below w.heap.size w W) :
    Calls Try.prog 13 #[.string ⟨#[97]⟩, .slice (some ⟨W.heap.size, 0, none⟩) 1 1, .slice (some ⟨W.heap.size + 1, 0, none⟩) 2 2, .bool false] ((W.alloc (.cells #[.string ⟨#[98]⟩] 9 (0, 0))).alloc (.cells #[.string ⟨#[98]⟩, .string ⟨#[97]⟩] 9 (0, 0))) fun e w' => e = .returned (.int .i64 1) ∧ Below w.heap.size w w' := by
  have hs : (W.alloc (.cells #[.string ⟨#[98]⟩] 9 (0, 0))).heap.size = W.heap.size + 1 := by simp
  have h2 := two_str (W.alloc (.cells #[.string ⟨#[98]⟩] 9 (0, 0))) pb pa
  rw [hs] at h2
  refine (pattern_on _ pa [pa] [pb] [pa] false false (some ⟨W.heap.size, 0, none⟩) (some ⟨W.heap.size + 1, 0, none⟩) 1 2 pa_pat (Kd.C_alloc (one_str W pb) _) (Nat.le_refl _) (by decide) (fun h => by cases h) h2 (Nat.le_refl _) pa_nm (by decide) (by simp)).mono ?_
  rintro e w' ⟨he, hb2⟩
  rw [pa_takes, if_pos rfl] at he
  exact ⟨he, below_step (below_alloc (below_alloc hb _) _) hb2⟩
theorem else_law (w : World) (A D B : Option Addr) (c cd c2 : Nat) (ps ds ns : List ByteArray) (folder dir : Bool) (hP : Kd.string.C w A ps.length ps) (hc : ps.length ≤ c) (hD : Kd.string.C w D ds.length ds) (hcd : ds.length ≤ cd) (hN : Kd.string.C w B ns.length ns) (hc2 : ns.length ≤ c2) :
    Calls Try.prog 4 #[.slice A ps.length c, .bool folder, .slice D ds.length cd, .slice B ns.length c2, .bool dir] w fun e w' => e = .returned (.bool true) ∧ Below w.heap.size w w' := by
  have HP := Aside0.mk hP
  have HDD := Aside0.mk hD
  have HN := Aside0.mk hN
  have HB0 := Aside0.mk (Below.refl w.heap.size w)
  obtain ⟨b1, h1, g1⟩ := fits_says hP hc
  have H1 := Aside0.mk h1
  have G1 := Aside0.mk g1
  clear hP hN hD h1 g1
  go_enter Try.func4, Try.ntmps4
  go_wp2_with fail
  refine (H1.out _ HB0.out).mono ?_
  rintro e w1 ⟨rfl, hb⟩
  have HB1 := Aside0.mk hb
  clear hb H1
  cases b1 with
  | false =>
    go_wp2_with fail
    go_ret
    exact ⟨rfl, HB1.out⟩
  | true =>
    have F1 := Aside0.mk (G1.out rfl)
    obtain ⟨b2, h2, g2⟩ := fits_says HDD.out hcd
    have H2 := Aside0.mk h2
    have G2 := Aside0.mk g2
    clear h2 g2 G1
    go_wp2_with fail
    refine (H2.out _ HB1.out).mono ?_
    rintro e w2 ⟨rfl, hb⟩
    have HB2 := Aside0.mk hb
    clear hb H2
    cases b2 with
    | false =>
      go_wp2_with fail
      go_ret
      exact ⟨rfl, HB2.out⟩
    | true =>
      have F2 := Aside0.mk (G2.out rfl)
      obtain ⟨b3, h3, g3⟩ := fits_says HN.out hc2
      have H3 := Aside0.mk h3
      have G3 := Aside0.mk g3
      clear h3 g3 G2
      go_wp2_with fail
      refine (H3.out _ HB2.out).mono ?_
      rintro e w3 ⟨rfl, hb⟩
      have HB3 := Aside0.mk hb
      clear hb H3
      cases b3 with
      | false =>
        go_wp2_with fail
        go_ret
        exact ⟨rfl, HB3.out⟩
      | true =>
        have F3 := Aside0.mk (G3.out rfl)
        obtain ⟨b4, h4, g4⟩ := globs_says HP.out hc F1.out
        have H4 := Aside0.mk h4
        have G4 := Aside0.mk g4
        clear h4 g4 G3
        go_wp2_with fail
        refine (H4.out _ HB3.out).mono ?_
        rintro e w4 ⟨rfl, hb⟩
        have HB4 := Aside0.mk hb
        clear hb H4
        cases b4 with
        | false =>
          go_wp2_with fail
          go_ret
          exact ⟨rfl, HB4.out⟩
        | true =>
          have F4 := Aside0.mk (G4.out rfl)
          obtain ⟨b5, h5, g5⟩ := path_says HN.out hc2 F3.out
          have H5 := Aside0.mk h5
          have G5 := Aside0.mk g5
          clear h5 g5 G4
          go_wp2_with fail
          refine (H5.out _ HB4.out).mono ?_
          rintro e w5 ⟨rfl, hb⟩
          have HB5 := Aside0.mk hb
          clear hb H5
          cases b5 with
          | false =>
            go_wp2_with fail
            go_ret
            exact ⟨rfl, HB5.out⟩
          | true =>
            have F5 := Aside0.mk (G5.out rfl)
            obtain ⟨b6, h6, g6⟩ := path_says HDD.out hcd F2.out
            have H6 := Aside0.mk h6
            have G6 := Aside0.mk g6
            clear h6 g6 G5
            go_wp2_with fail
            refine (H6.out _ HB5.out).mono ?_
            rintro e w6 ⟨rfl, hb⟩
            have HB6 := Aside0.mk hb
            clear hb H6
            cases b6 with
            | false =>
              go_wp2_with fail
              go_ret
              exact ⟨rfl, HB6.out⟩
            | true =>
              have F6 := Aside0.mk (G6.out rfl)
              clear G6
              have hdl : ds.length ≤ 100 := F6.out.len
              have hnl : ns.length ≤ 100 := F5.out.len
              go_wp2_with fail
              go_loopg [41] (ds.length + 1) (fun kq v41 w' => ∃ (i : Nat), v41 = .int .i64 (i : Int) ∧ i ≤ ds.length ∧ Aside0 (kq + i = ds.length + 1) ∧ Aside0 (Below w.heap.size w w'))
              case atStart => exact ⟨0, rfl, Nat.zero_le _, ⟨by omega⟩, HB6⟩
              case round =>
                obtain ⟨i, rfl, hi, HK, HB7⟩ := hrel
                cases gk with
                | zero => exact absurd HK.out (by omega)
                | succ k1 =>
                  by_cases hlt : i < ds.length
                  · have c0 : decide ((i : Int) < (ds.length : Int)) = true := decide_eq_true (by omega)
                    have c1 : decide (i < ds.length) = true := decide_eq_true hlt
                    have p1 : (0 : Int) ≤ (i : Int) := by omega
                    have p2 : (i : Int) < (ds.length : Int) := by omega
                    have w1 : wrap64 ((i : Int) + 1) = (i : Int) + 1 := w64 (by omega) (by omega)
                    obtain ⟨dd, hdd, hcl⟩ := str_at HDD.out i hlt
                    subst hdd
                    have hcl2 := (HB7.out.cell (World.block_lt_of_cell? w _ hcl)).trans hcl
                    obtain ⟨x, hx⟩ : ∃ x, ds[i] = x := ⟨_, rfl⟩
                    rw [hx] at hcl2
                    have HX := Aside0.mk hx
                    clear hcl hx
                    by_cases hin : i < ns.length
                    · have d0 : decide ((ns.length : Int) ≤ (i : Int)) = false := decide_eq_false (by omega)
                      have d1 : decide (ns.length ≤ i) = false := decide_eq_false (by omega)
                      have p3 : (i : Int) < (ns.length : Int) := by omega
                      obtain ⟨bd, hbd, hcb⟩ := str_at HN.out i hin
                      subst hbd
                      have hcb2 := (HB7.out.cell (World.block_lt_of_cell? w _ hcb)).trans hcb
                      obtain ⟨y, hy⟩ : ∃ y, ns[i] = y := ⟨_, rfl⟩
                      rw [hy] at hcb2
                      have HY := Aside0.mk hy
                      clear hcb hy
                      by_cases hxy : y = x
                      · have e1 : (y.toList == x.toList) = true := by rw [hxy]; simp
                        have e2 : (!(y.toList == x.toList)) = false := by rw [hxy]; simp
                        clear hxy
                        go_wp2_with fail
                        go_roundg k1
                        case measure => omega
                        case rel => exact ⟨i + 1, by go_num, by omega, ⟨by have := HK.out; omega⟩, HB7⟩
                      · have e1 : (y.toList == x.toList) = false := by
                          rw [beq_eq_false_iff_ne, ByteArray.toList_eq, ByteArray.toList_eq]
                          exact fun h => hxy (Go.WideShapes.bytes_inj h)
                        have e2 : (!(y.toList == x.toList)) = true := by rw [e1]; rfl
                        have HOFF := Aside0.mk (show ∀ h : i < ns.length, ns[i] ≠ ds[i] from fun h he => hxy (HY.out.symm.trans (he.trans HX.out)))
                        clear hxy
                        obtain ⟨s, h8, hs, hsz⟩ := slashed_says HP.out hc F4.out
                        obtain ⟨t, h9, ht, htz⟩ := tail_says w folder
                        have H8 := Aside0.mk h8
                        have H9 := Aside0.mk h9
                        have HPT := Aside0.mk (pat_globs (p := s ++ t) (tail := folder) F4.out (by rw [ByteArray.data_append, Array.toList_append, hs, ht]))
                        have H10 := Aside0.mk (off_says (w := w) (dir := dir) HPT.out HDD.out hcd F6.out HN.out hc2 F5.out i hlt HOFF.out)
                        clear h8 h9 hs ht HPT
                        go_wp2_with fail
                        refine (H8.out _ HB7.out).mono ?_
                        rintro e w8 ⟨rfl, hb⟩
                        have HB8 := Aside0.mk hb
                        clear hb H8
                        go_wp2_with fail
                        refine (H9.out _ HB8.out).mono ?_
                        rintro e w9 ⟨rfl, hb⟩
                        have HB9 := Aside0.mk hb
                        clear hb H9
                        go_wp2_with fail
                        refine (H10.out _ HB9.out).mono ?_
                        rintro e w10 ⟨rfl, hb⟩
                        have HB10 := Aside0.mk hb
                        clear hb H10
                        have HFX := Aside0.mk (fixed_two w w10 HB10.out)
                        go_wp2_with fail
                        refine HFX.out.mono ?_
                        rintro e w11 ⟨rfl, hb⟩
                        have HB11 := Aside0.mk hb
                        clear hb HFX
                        go_wp2_with fail
                        go_ret
                        exact ⟨rfl, HB11.out⟩
                    · have d0 : decide ((ns.length : Int) ≤ (i : Int)) = true := decide_eq_true (by omega)
                      have d1 : decide (ns.length ≤ i) = true := decide_eq_true (by omega)
                      have HOFF := Aside0.mk (show ∀ h : i < ns.length, ns[i] ≠ ds[i] from fun h => absurd h hin)
                      clear hin
                      obtain ⟨s, h8, hs, hsz⟩ := slashed_says HP.out hc F4.out
                      obtain ⟨t, h9, ht, htz⟩ := tail_says w folder
                      have H8 := Aside0.mk h8
                      have H9 := Aside0.mk h9
                      have HPT := Aside0.mk (pat_globs (p := s ++ t) (tail := folder) F4.out (by rw [ByteArray.data_append, Array.toList_append, hs, ht]))
                      have H10 := Aside0.mk (off_says (w := w) (dir := dir) HPT.out HDD.out hcd F6.out HN.out hc2 F5.out i hlt HOFF.out)
                      clear h8 h9 hs ht HPT
                      go_wp2_with fail
                      refine (H8.out _ HB7.out).mono ?_
                      rintro e w8 ⟨rfl, hb⟩
                      have HB8 := Aside0.mk hb
                      clear hb H8
                      go_wp2_with fail
                      refine (H9.out _ HB8.out).mono ?_
                      rintro e w9 ⟨rfl, hb⟩
                      have HB9 := Aside0.mk hb
                      clear hb H9
                      go_wp2_with fail
                      refine (H10.out _ HB9.out).mono ?_
                      rintro e w10 ⟨rfl, hb⟩
                      have HB10 := Aside0.mk hb
                      clear hb H10
                      have HFX := Aside0.mk (fixed_two w w10 HB10.out)
                      go_wp2_with fail
                      refine HFX.out.mono ?_
                      rintro e w11 ⟨rfl, hb⟩
                      have HB11 := Aside0.mk hb
                      clear hb HFX
                      go_wp2_with fail
                      go_ret
                      exact ⟨rfl, HB11.out⟩
                  · have c0 : decide ((i : Int) < (ds.length : Int)) = false := decide_eq_false (by omega)
                    have c1 : decide (i < ds.length) = false := decide_eq_false hlt
                    go_wp2_with fail
                    go_ret
                    exact ⟨rfl, HB7.out⟩
end Go.Proofs.Ytbiflpbajgafaaa.ign
