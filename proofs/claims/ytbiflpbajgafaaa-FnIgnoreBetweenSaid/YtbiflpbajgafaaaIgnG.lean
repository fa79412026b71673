/- A pattern's match of names, one behind the other: globMatch. -/
import Derived.Test.YtbiflpbajgafaaaIgnF
namespace Go.Proofs.Ytbiflpbajgafaaa.ign
open Go.RowKit Go.Proofs.YtbiflpbajgafaaaW.PrintWords Go.Proofs.YtbiflpbajgafaaaW.PrintLast Go.Proofs.YtbiflpbajgafaaaW.PrintMore
set_option linter.unusedVariables false
set_option linter.unusedSimpArgs false
set_option maxHeartbeats 4000000
set_option maxRecDepth 100000
/-- What may stand between slashes; two stars do not stand last. -/
def Part (p : ByteArray) : Prop := p.data.toList = [] ∨ p.data.toList = [42, 42] ∨ Gl p
theorem gmat_cons {tail dir m t : Bool} {p : ByteArray} {ps path : List ByteArray} : gmat tail dir (p :: ps) path m t = if p.data.toList = [] then gmat tail dir ps path m false
    else if p.data.toList = [42, 42] then gmat tail dir ps path m true
    else match path with
      | [] => false
      | n :: r => if t = true then (match trav p.data.toList (n :: r) with | some r' => gmat tail dir ps r' true false | none => gmat tail dir ps [] false false)
        else if globs p.data.toList n.data.toList = true then gmat tail dir ps r true false else false := by
  cases path <;> rfl
theorem gmat_gl {tail dir m t : Bool} {p : ByteArray} {ps path : List ByteArray} (hp : Gl p) : gmat tail dir (p :: ps) path m t = (match path with
      | [] => false
      | n :: r => if t = true then (match trav p.data.toList (n :: r) with | some r' => gmat tail dir ps r' true false | none => gmat tail dir ps [] false false)
        else if globs p.data.toList n.data.toList = true then gmat tail dir ps r true false else false) := by
  rw [gmat_cons, if_neg hp.2.2.2, if_neg (fun h => hp.2.2.1 0 (by rw [h]; decide) (by simp [h]))]
theorem glob_any (w : World) (g : Nat) (vd : Value) (Ap : Option Addr) (cp : Nat) (parts ns : List ByteArray) (tail gl dir : Bool) (B : Option Addr) (c : Nat)
    (hA : AtPat w g vd (.slice Ap parts.length cp) tail gl) (hP : Kd.string.C w Ap parts.length parts) (hpp : ∀ p ∈ parts, Part p) (hlast : ∀ (i : Nat) (h : i < parts.length), parts[i].data.toList = [42, 42] → i + 1 < parts.length) (hpl : parts.length ≤ 1000000)
    (hN : Kd.string.C w B ns.length ns) (hcc : ns.length ≤ c) (hn : ∀ n ∈ ns, Nm n) (hnl : ns.length ≤ 1000000) :
    Calls Try.prog 43 #[.pointer (some ⟨g, 0, none⟩), .slice B ns.length c, .bool dir] w fun e w' => e = .returned (.bool (gmat tail dir parts ns false false)) ∧ Drn w w' := by
  have HA := Aside0.mk hA
  have HP := Aside0.mk hP
  have HPP := Aside0.mk hpp
  have HLA := Aside0.mk hlast
  have HN := Aside0.mk hN
  have HNM := Aside0.mk hn
  have HCC := Aside0.mk hcc
  obtain ⟨b, hb⟩ : ∃ b, gmat tail dir parts ns false false = b := ⟨_, rfl⟩
  rw [hb]
  have HBB := Aside0.mk hb
  have hc1 := (blk_cell HA.out 1).trans (show _ = some (Value.slice Ap parts.length cp) from rfl)
  clear hA hP hpp hlast hN hn hb hcc
  go_enter Try.func43, Try.ntmps43
  go_wp2_with fail
  clear hc1
  go_loopg [1, 7, 8, 21] (parts.length + 1) (fun kq v1 v7 v8 v21 w' => ∃ (i : Nat) (path : List ByteArray) (B1 : Option Addr) (c1 : Nat) (m t : Bool), v1 = .slice B1 path.length c1 ∧ v7 = .bool m ∧ v8 = .bool t ∧ v21 = .int .i64 (i : Int) ∧ i ≤ parts.length ∧ Aside0 (kq + i = parts.length + 1) ∧ Aside0 (gmat tail dir (parts.drop i) path m t = b) ∧ Aside0 (Kd.string.C w B1 path.length path) ∧ Aside0 (path.length ≤ c1) ∧ Aside0 (∀ n ∈ path, Nm n) ∧ Aside0 (path.length ≤ 1000000) ∧ Aside0 (Drn w w'))
  case atStart => exact ⟨0, ns, B, c, false, false, rfl, rfl, rfl, rfl, Nat.zero_le _, ⟨by omega⟩, ⟨by rw [List.drop_zero]; exact HBB.out⟩, HN, HCC, HNM, ⟨hnl⟩, ⟨Drn.refl w⟩⟩
  case round =>
    clear HBB HN HNM HCC hnl
    obtain ⟨i, path, B1, c1, m, t, rfl, rfl, rfl, rfl, hi, HK, HB, HN, HCC, HNM, HNL, HD⟩ := hrel
    have hnl := HNL.out
    cases gk with
    | zero => exact absurd HK.out (by omega)
    | succ k1 =>
      by_cases hlt : i < parts.length
      · have c0 : decide ((i : Int) < (parts.length : Int)) = true := decide_eq_true (by omega)
        have c1' : decide (i < parts.length) = true := decide_eq_true hlt
        have p1 : (0 : Int) ≤ (i : Int) := by omega
        have p2 : (i : Int) < (parts.length : Int) := by omega
        have w1 : wrap64 ((i : Int) + 1) = (i : Int) + 1 := w64 (by omega) (by omega)
        have p3 : (1 : Int) ≤ (parts.length : Int) := by omega
        have w2 : wrap64 ((parts.length : Int) - 1) = (parts.length : Int) - 1 := w64 (by omega) (by omega)
        obtain ⟨pd, hpd, hcell⟩ := str_at HP.out i hlt
        subst hpd
        have hdrop : parts.drop i = parts[i] :: parts.drop (i + 1) := List.drop_eq_getElem_cons hlt
        have hla := HLA.out i hlt
        have hpx := HPP.out _ (List.getElem_mem hlt)
        obtain ⟨p, hx⟩ : ∃ x, parts[i] = x := ⟨_, rfl⟩
        rw [hx] at hcell hdrop hla hpx
        have HB2 := HB.out
        rw [hdrop] at HB2
        replace hcell := (HD.out.cell _).trans hcell
        have hc1 := (HD.out.cell ⟨g, 1, none⟩).trans ((blk_cell HA.out 1).trans (show _ = some (Value.slice (some pd) parts.length cp) from rfl))
        have HE1 := Aside0.mk hla
        clear hx hdrop HB hla
        rcases hpx with hp0 | hp2 | hpg
        · have e1 : p.toList.isEmpty = true := by rw [ByteArray.toList_eq, hp0]; rfl
          have e2 : (p.toList == []) = true := by rw [ByteArray.toList_eq, hp0]; rfl
          rw [gmat_cons, if_pos hp0] at HB2
          have HB3 := Aside0.mk HB2
          clear hp0 HB2 hc1
          go_wp2_with fail
          go_roundg k1
          case measure => omega
          case rel => exact ⟨i + 1, path, B1, c1, m, false, rfl, rfl, rfl, by go_num, by omega, ⟨by have := HK.out; omega⟩, HB3, HN, HCC, HNM, HNL, HD⟩
        · have hle := HE1.out hp2
          have e1 : p.toList.isEmpty = false := by rw [ByteArray.toList_eq, hp2]; rfl
          have e2 : (p.toList == []) = false := by rw [ByteArray.toList_eq, hp2]; rfl
          have e3 : (p.toList == [42, 42]) = true := by rw [ByteArray.toList_eq, hp2]; rfl
          have z1 : ((i : Int) == (parts.length : Int) - 1) = false := by rw [beq_eq_false_iff_ne]; omega
          rw [gmat_cons, if_neg (by rw [hp2]; decide), if_pos hp2] at HB2
          have HB3 := Aside0.mk HB2
          clear hp2 HB2
          go_wp2_with fail
          go_roundg k1
          case measure => omega
          case rel => exact ⟨i + 1, path, B1, c1, m, true, rfl, rfl, rfl, by go_num, by omega, ⟨by have := HK.out; omega⟩, HB3, HN, HCC, HNM, HNL, HD⟩
        · rw [gmat_gl hpg] at HB2
          have HB3 := Aside0.mk HB2
          have HGP := Aside0.mk hpg
          have HCT := Aside0.mk (contains_dbl p hpg.1 hpg.2.2.1 wr)
          have e1 : p.toList.isEmpty = false := by rw [ByteArray.toList_eq, List.isEmpty_eq_false_iff]; exact hpg.2.2.2
          have e2 : (p.toList == []) = false := by rw [ByteArray.toList_eq, beq_eq_false_iff_ne]; exact hpg.2.2.2
          have e3 : (p.toList == [42, 42]) = false := by
            rw [ByteArray.toList_eq, beq_eq_false_iff_ne]
            exact fun h => hpg.2.2.1 0 (by rw [h]; decide) (by simp [h])
          clear hpg HB2 hc1
          by_cases hpe : path = []
          · subst hpe
            have hb : b = false := by have := HB3.out; exact this.symm
            subst hb
            clear HB3
            go_wp2_with (go_at_call 22; refine HCT.out.mono ?_; rintro e w' ⟨rfl, rfl⟩)
            go_ret
            exact ⟨rfl, HD.out⟩
          · obtain ⟨n, r, hnr⟩ : ∃ n r, path = n :: r := by
              cases h : path with
              | nil => exact absurd h hpe
              | cons n r => exact ⟨n, r, rfl⟩
            have z0 : 0 < path.length := List.length_pos_iff.2 hpe
            have y1 : ((path.length : Int) == 0) = false := by rw [beq_eq_false_iff_ne]; omega
            have y2 : (path.length == 0) = false := by rw [beq_eq_false_iff_ne]; omega
            have HNR := Aside0.mk hnr
            have HZ0 := Aside0.mk z0
            clear hpe hnr
            cases t with
            | true =>
              have HTV := Aside0.mk (show (match trav p.data.toList path with | some r' => gmat tail dir (parts.drop (i + 1)) r' true false | none => gmat tail dir (parts.drop (i + 1)) [] false false) = b from by
                have h := HB3.out
                rw [HNR.out] at h ⊢
                simpa using h)
              clear HB3 HNR
              go_wp2_with (go_at_call 22; refine HCT.out.mono ?_; rintro e w' ⟨rfl, rfl⟩)
              clear y1 y2 z0
              go_loopg [1, 7] (path.length + 1) (fun kq v1 v7 w' => ∃ (q : List ByteArray) (B2 : Option Addr) (c2 : Nat) (m2 : Bool), v1 = .slice B2 q.length c2 ∧ v7 = .bool m2 ∧ Aside0 (q = [] → m2 = false) ∧ Aside0 (q.length < kq) ∧ Aside0 (q.length ≤ path.length) ∧ Aside0 (trav p.data.toList path = trav p.data.toList q) ∧ Aside0 (Kd.string.C w B2 q.length q) ∧ Aside0 (q.length ≤ c2) ∧ Aside0 (∀ n ∈ q, Nm n) ∧ Aside0 (Drn w w'))
              case atStart => exact ⟨path, B1, c1, m, rfl, rfl, ⟨fun h => by have z0 := HZ0.out; rw [h] at z0; exact absurd z0 (by decide)⟩, ⟨by omega⟩, ⟨Nat.le_refl _⟩, ⟨rfl⟩, HN, HCC, HNM, HD⟩
              case round =>
                obtain ⟨q, B2, c2, m2, rfl, rfl, HM2, HK2, HQL, HTQ, HQ, HCQ, HQN, HD2⟩ := hrel
                have hql := HQL.out
                cases gk with
                | zero => exact absurd HK2.out (by omega)
                | succ k2 =>
                  by_cases hqe : q = []
                  · subst hqe
                    have hm2 := HM2.out rfl
                    subst hm2
                    have HB4 := HTV.out
                    rw [HTQ.out, trav] at HB4
                    have HB4 := Aside0.mk HB4
                    clear HTV HTQ
                    go_wp2_with fail
                    go_roundg k1
                    case measure => omega
                    case rel => exact ⟨i + 1, [], B2, c2, false, false, rfl, rfl, rfl, by go_num, by omega, ⟨by have := HK.out; omega⟩, HB4, HQ, HCQ, HQN, ⟨by simp⟩, HD2⟩
                  · obtain ⟨n, r, hnr⟩ : ∃ n r, q = n :: r := by
                      cases h : q with
                      | nil => exact absurd h hqe
                      | cons n r => exact ⟨n, r, rfl⟩
                    have z5 : 0 < q.length := List.length_pos_iff.2 hqe
                    have y3 : decide ((0 : Int) < (q.length : Int)) = true := decide_eq_true (by omega)
                    have y4 : decide (0 < q.length) = true := decide_eq_true z5
                    have z6 : (0 : Int) < (q.length : Int) := by omega
                    obtain ⟨bd, hbd, hcl⟩ := str_at HQ.out 0 z5
                    subst hbd
                    have hcl2 : w.cell? bd = some (.string n) := by
                      have h := hcl
                      rw [show bd.add 0 = bd from by unfold Addr.add; rw [if_pos rfl]] at h
                      rw [h]
                      simp only [hnr, List.getElem_cons_zero]
                    replace hcl2 := (HD2.out.cell _).trans hcl2
                    obtain ⟨B3, hsl, hC3, hl3⟩ := tail_of (B := some bd) (c := c2) (n := n) (r := r) (by have := HQ.out; rwa [hnr] at this) (by have := HCQ.out; rwa [hnr] at this)
                    rw [← hnr] at hsl
                    have HX := Aside0.mk (HQN.out n (by rw [hnr]; simp))
                    have HQN3 := Aside0.mk (show ∀ x ∈ r, Nm x from fun x hx => HQN.out x (by rw [hnr]; exact List.mem_cons_of_mem _ hx))
                    have HC3 := Aside0.mk hC3
                    have HL3 := Aside0.mk hl3
                    have HRL := Aside0.mk (show r.length + 1 = q.length from by rw [hnr]; rfl)
                    have HTQ2 := HTQ.out
                    rw [hnr, trav] at HTQ2
                    have HMT := Aside0.mk (match_any p n HGP.out.2.1 HX.out.2 HGP.out.1 HX.out.1 wr)
                    obtain ⟨mm, hm⟩ : ∃ mm, globs p.data.toList n.data.toList = mm := ⟨_, rfl⟩
                    rw [hm] at HTQ2 HMT
                    have HTQ2 := Aside0.mk HTQ2
                    unfold GlobPost at HMT
                    clear hqe hnr hcl hC3 hl3 hm HTQ HQ HCQ HQN HX
                    go_wp2_with fail
                    refine HMT.out.mono ?_
                    rintro e w3 ⟨rfl, hdr⟩
                    have HD3 := Aside0.mk (HD2.out.trans hdr)
                    clear HMT hdr HD2 hcl2 hsl
                    cases mm with
                    | true =>
                      have HB4 := HTV.out
                      rw [HTQ2.out, if_pos rfl] at HB4
                      have HB4 := Aside0.mk HB4
                      clear HTV HTQ2
                      go_wp2_with fail
                      go_roundg k1
                      case measure => omega
                      case rel => exact ⟨i + 1, r, B3, c2 - 1, true, false, rfl, rfl, rfl, by go_num, by omega, ⟨by have := HK.out; omega⟩, HB4, HC3, HL3, HQN3, ⟨by have := HRL.out; omega⟩, HD3⟩
                    | false =>
                      have HT4 := Aside0.mk (show trav p.data.toList path = trav p.data.toList r from by rw [HTQ2.out, if_neg (by decide)])
                      clear HTQ2
                      by_cases hre : r.length = 0
                      · have y5 : ((r.length : Int) == 0) = true := by rw [hre]; rfl
                        have y6 : (r.length == 0) = true := by rw [hre]; rfl
                        clear hre
                        go_wp2_with fail
                        go_roundg k2
                        case measure => omega
                        case rel => exact ⟨r, B3, c2 - 1, false, rfl, rfl, ⟨fun _ => rfl⟩, ⟨by have := HRL.out; have := HK2.out; omega⟩, ⟨by have := HRL.out; omega⟩, HT4, HC3, HL3, HQN3, HD3⟩
                      · have y5 : ((r.length : Int) == 0) = false := by rw [beq_eq_false_iff_ne]; omega
                        have y6 : (r.length == 0) = false := by rw [beq_eq_false_iff_ne]; omega
                        have HRE := Aside0.mk hre
                        clear hre
                        go_wp2_with fail
                        go_roundg k2
                        case measure => omega
                        case rel => exact ⟨r, B3, c2 - 1, m2, rfl, rfl, ⟨fun h => absurd (by rw [h]; rfl) HRE.out⟩, ⟨by have := HRL.out; have := HK2.out; omega⟩, ⟨by have := HRL.out; omega⟩, HT4, HC3, HL3, HQN3, HD3⟩
            | false =>
              have HB4 := HB3.out
              rw [HNR.out] at HB4
              simp only [Bool.false_eq_true, if_false] at HB4
              have z6 : (0 : Int) < (path.length : Int) := by omega
              obtain ⟨bd, hbd, hcl⟩ := str_at HN.out 0 z0
              subst hbd
              have hcl2 : w.cell? bd = some (.string n) := by
                have h := hcl
                rw [show bd.add 0 = bd from by unfold Addr.add; rw [if_pos rfl]] at h
                rw [h]
                simp only [HNR.out, List.getElem_cons_zero]
              replace hcl2 := (HD.out.cell _).trans hcl2
              obtain ⟨B3, hsl, hC3, hl3⟩ := tail_of (B := some bd) (c := c1) (n := n) (r := r) (by have := HN.out; rwa [HNR.out] at this) (by have := HCC.out; rwa [HNR.out] at this)
              rw [← HNR.out] at hsl
              have HX := Aside0.mk (HNM.out n (by rw [HNR.out]; simp))
              have HQN3 := Aside0.mk (show ∀ x ∈ r, Nm x from fun x hx => HNM.out x (by rw [HNR.out]; exact List.mem_cons_of_mem _ hx))
              have HC3 := Aside0.mk hC3
              have HL3 := Aside0.mk hl3
              have HRL := Aside0.mk (show r.length + 1 = path.length from by rw [HNR.out]; rfl)
              have HMT := Aside0.mk (match_any p n HGP.out.2.1 HX.out.2 HGP.out.1 HX.out.1 wr)
              obtain ⟨mm, hm⟩ : ∃ mm, globs p.data.toList n.data.toList = mm := ⟨_, rfl⟩
              rw [hm] at HB4 HMT
              have HB4 := Aside0.mk HB4
              unfold GlobPost at HMT
              clear hcl hC3 hl3 hm HX HB3 HNR
              go_wp2_with (go_at_call 22; refine HCT.out.mono ?_; rintro e w' ⟨rfl, rfl⟩)
              refine HMT.out.mono ?_
              rintro e w3 ⟨rfl, hdr⟩
              have HD3 := Aside0.mk (HD.out.trans hdr)
              clear HMT hdr HD hcl2
              cases mm with
              | true =>
                have HB5 := Aside0.mk (show gmat tail dir (parts.drop (i + 1)) r true false = b from by have := HB4.out; rwa [if_pos rfl] at this)
                clear HB4
                go_wp2_with fail
                go_roundg k1
                case measure => omega
                case rel => exact ⟨i + 1, r, B3, c1 - 1, true, false, rfl, rfl, rfl, by go_num, by omega, ⟨by have := HK.out; omega⟩, HB5, HC3, HL3, HQN3, ⟨by have := HRL.out; omega⟩, HD3⟩
              | false =>
                have hb : b = false := by have := HB4.out; rw [if_neg (by decide)] at this; exact this.symm
                subst hb
                clear HB4
                go_wp2_with fail
                go_ret
                exact ⟨rfl, HD3.out⟩
      · have c0 : decide ((i : Int) < (parts.length : Int)) = false := decide_eq_false (by omega)
        have c1' : decide (i < parts.length) = false := decide_eq_false hlt
        have HB2 := HB.out
        rw [List.drop_of_length_le (by omega), gmat] at HB2
        have HB2 := Aside0.mk HB2
        have hc3 := (HD.out.cell ⟨g, 3, none⟩).trans ((blk_cell HA.out 3).trans (show _ = some (Value.bool tail) from rfl))
        clear HB
        by_cases hpe : path = []
        · have he : path.isEmpty = true := by rw [hpe]; rfl
          have hl0 : path.length = 0 := by rw [hpe]; rfl
          have y1 : ((path.length : Int) == 0) = true := by rw [hl0]; rfl
          have y2 : (path.length == 0) = true := by rw [hl0]; rfl
          have HB3 := HB2.out
          rw [he] at HB3
          have HB3 := Aside0.mk HB3
          clear hpe he hl0 HB2
          cases m <;> cases tail <;> cases dir
          all_goals
            have hb := HB3.out.symm
            simp at hb
            subst hb
            go_wp2_with fail
            go_ret
            exact ⟨rfl, HD.out⟩
        · have he : path.isEmpty = false := by rw [List.isEmpty_eq_false_iff]; exact hpe
          have hl0 : 0 < path.length := List.length_pos_iff.2 hpe
          have y1 : ((path.length : Int) == 0) = false := by rw [beq_eq_false_iff_ne]; omega
          have y2 : (path.length == 0) = false := by rw [beq_eq_false_iff_ne]; omega
          have HB3 := HB2.out
          rw [he] at HB3
          have HB3 := Aside0.mk HB3
          clear hpe he hl0 HB2
          cases m <;> cases tail <;> cases dir
          all_goals
            have hb := HB3.out.symm
            simp at hb
            subst hb
            go_wp2_with fail
            go_ret
            exact ⟨rfl, HD.out⟩
end Go.Proofs.Ytbiflpbajgafaaa.ign
