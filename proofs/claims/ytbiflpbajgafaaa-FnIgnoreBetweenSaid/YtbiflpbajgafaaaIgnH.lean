/- A pattern's Match; impl.MatchPattern. -/
import Derived.Test.YtbiflpbajgafaaaIgnG
import Derived.Deep.RegionLaw
namespace Go.Proofs.Ytbiflpbajgafaaa.ign
open Go.RowKit Go.Proofs.YtbiflpbajgafaaaW.PrintWords Go.Proofs.YtbiflpbajgafaaaW.PrintLast Go.Proofs.YtbiflpbajgafaaaW.PrintMore
set_option linter.unusedVariables false
set_option linter.unusedSimpArgs false
set_option maxHeartbeats 4000000
set_option maxRecDepth 100000
/-- What is behind the first names of a path. -/
theorem drop_of {w : World} {B : Option Addr} {c : Nat} {ns : List ByteArray} (m : Nat) (hm : m ≤ ns.length) (h : Kd.string.C w B ns.length ns) (hc : ns.length ≤ c) :
    ∃ B', (∀ W : World, (Instr.slice 22 (.slice B ns.length c) (some (.int .i64 (m : Int))) none none).run Try.prog W = .ok (.slice B' (ns.drop m).length (c - m)) W) ∧ Kd.string.C w B' (ns.drop m).length (ns.drop m) ∧ (ns.drop m).length ≤ c - m := by
  obtain ⟨i5, hi5, hz5, hs5, hb5⟩ := info_parts infoS
  obtain ⟨A8, hsr, hA8, hl8⟩ := print_drop_of (P := Try.prog) Value.string ByteArray.empty 22 9 .i64 Try.underlying22 hi5 hs5 B c ns (m : Int) (by omega) (by omega) hc
  have HC8 : Kd.string.C w A8 _ _ := Kd.C_of_reads (h1 := fun _ => rfl) (hA8 w (Kd.reads_of_C (d := ByteArray.empty) h))
  rw [Int.toNat_natCast] at hsr hl8 HC8
  exact ⟨A8, hsr, HC8, hl8⟩
/-- Does a pattern take what is left of a path. -/
def takes (parts ns : List ByteArray) (tail dir : Bool) : Bool := if 1 < parts.length then gmat tail dir parts ns false false else simpleM (parts.headD ⟨#[]⟩).data.toList tail dir ns
structure Pats (parts : List ByteArray) : Prop where
  part : ∀ p ∈ parts, Part p
  last : ∀ (i : Nat) (h : i < parts.length), parts[i].data.toList = [42, 42] → i + 1 < parts.length
  len : parts.length ≤ 1000000
  one : parts.length = 1 → Gl (parts.headD ⟨#[]⟩)
  pos : 0 < parts.length
theorem match_on (w : World) (g : Nat) (Ad Ap : Option Addr) (cd cp : Nat) (parts doms rest : List ByteArray) (tail dir : Bool) (B : Option Addr) (c : Nat)
    (hA : AtPat w g (.slice Ad doms.length cd) (.slice Ap parts.length cp) tail (decide (1 < parts.length))) (hP : Kd.string.C w Ap parts.length parts) (hpp : Pats parts) (hD : Kd.string.C w Ad doms.length doms) (hdl : doms.length ≤ 1000000)
    (hN : Kd.string.C w B (doms ++ rest).length (doms ++ rest)) (hcc : (doms ++ rest).length ≤ c) (hn : ∀ n ∈ rest, Nm n) (hnl : rest.length ≤ 1000000) (hre : rest ≠ []) :
    Calls Try.prog 42 #[.pointer (some ⟨g, 0, none⟩), .slice B (doms ++ rest).length c, .bool dir] w fun e w' => e = .returned (.int .i64 (if takes parts rest tail dir = true then 1 else 0)) ∧ Drn w w' := by
  obtain ⟨ns, hns⟩ : ∃ ns, doms ++ rest = ns := ⟨_, rfl⟩
  have HNS := Aside0.mk hns
  obtain ⟨b, hb⟩ : ∃ b, takes parts rest tail dir = b := ⟨_, rfl⟩
  have HTK := Aside0.mk hb
  rw [hb]
  clear hb
  have hnl2 : ns.length = doms.length + rest.length := by rw [← hns, List.length_append]
  have hrp : 0 < rest.length := List.length_pos_iff.2 hre
  rw [hns] at hN hcc ⊢
  have HA := Aside0.mk hA
  have HP := Aside0.mk hP
  have HPP := Aside0.mk hpp
  have HDM := Aside0.mk hD
  have HN := Aside0.mk hN
  have HNM := Aside0.mk hn
  have HCC := Aside0.mk hcc
  have HRL := Aside0.mk hnl2
  have c0 : decide ((ns.length : Int) ≤ (doms.length : Int)) = false := decide_eq_false (by omega)
  have c1 : decide (ns.length ≤ doms.length) = false := decide_eq_false (by omega)
  have b1 : doms.length ≤ ns.length := by omega
  have b2 : ns.length ≤ 2000000 := by omega
  have hc0 := (blk_cell HA.out 0).trans (show _ = some (Value.slice Ad doms.length cd) from rfl)
  clear hA hP hpp hD hN hn hcc hns hnl2 hre
  go_enter Try.func42, Try.ntmps42
  go_wp2_with fail
  clear c0 c1 hc0
  go_loopg [22] (doms.length + 1) (fun kq v22 w' => ∃ (i : Nat), v22 = .int .i64 (i : Int) ∧ i ≤ doms.length ∧ Aside0 (kq + i = doms.length + 1) ∧ Aside0 (Drn w w'))
  case atStart => exact ⟨0, rfl, Nat.zero_le _, ⟨by omega⟩, ⟨Drn.refl w⟩⟩
  case round =>
    obtain ⟨i, rfl, hi, HK, HD⟩ := hrel
    cases gk with
    | zero => exact absurd HK.out (by omega)
    | succ k1 =>
      by_cases hlt : i < doms.length
      · have c0 : decide ((i : Int) < (doms.length : Int)) = true := decide_eq_true (by omega)
        have c1 : decide (i < doms.length) = true := decide_eq_true hlt
        have p1 : (0 : Int) ≤ (i : Int) := by omega
        have p2 : (i : Int) < (doms.length : Int) := by omega
        have p3 : (i : Int) < (ns.length : Int) := by omega
        have w1 : wrap64 ((i : Int) + 1) = (i : Int) + 1 := w64 (by omega) (by omega)
        obtain ⟨dd, hdd, hcd⟩ := str_at HDM.out i hlt
        obtain ⟨bd, hbd, hcb⟩ := str_at HN.out i (by omega)
        subst hdd hbd
        have heq : ns[i] = doms[i] := by simp only [← HNS.out, List.getElem_append_left hlt]
        obtain ⟨x, hx⟩ : ∃ x, doms[i] = x := ⟨_, rfl⟩
        rw [heq, hx] at hcb
        rw [hx] at hcd
        replace hcd := (HD.out.cell _).trans hcd
        replace hcb := (HD.out.cell _).trans hcb
        have e1 : (x.toList == x.toList) = true := by simp
        have e2 : (!(x.toList == x.toList)) = false := by simp
        clear heq hx
        go_wp2_with fail
        go_roundg k1
        case measure => omega
        case rel => exact ⟨i + 1, by go_num, by omega, ⟨by have := HK.out; omega⟩, HD⟩
      · have c0 : decide ((i : Int) < (doms.length : Int)) = false := decide_eq_false (by omega)
        have c1 : decide (i < doms.length) = false := decide_eq_false hlt
        have hc0 := (HD.out.cell ⟨g, 0, none⟩).trans ((blk_cell HA.out 0).trans (show _ = some (Value.slice Ad doms.length cd) from rfl))
        obtain ⟨B', hsl, hC', hl'⟩ := drop_of doms.length b1 HN.out HCC.out
        have hdr : ns.drop doms.length = rest := by rw [← HNS.out, List.drop_left]
        rw [hdr] at hsl hC' hl'
        have HC' := Aside0.mk hC'
        have HL' := Aside0.mk hl'
        clear hC' hl' hdr hi HK
        have hc2 := (HD.out.cell ⟨g, 2, none⟩).trans ((blk_cell HA.out 2).trans (show _ = some (Value.bool false) from rfl))
        by_cases hgl : 1 < parts.length
        · have hc4 := (HD.out.cell ⟨g, 4, none⟩).trans ((blk_cell HA.out 4).trans (show _ = some (Value.bool true) from by rw [decide_eq_true hgl]; rfl))
          have hT : gmat tail dir parts rest false false = b := (show takes parts rest tail dir = gmat tail dir parts rest false false from if_pos hgl).symm.trans HTK.out
          have HGM := Aside0.mk (glob_any wr g (.slice Ad doms.length cd) Ap cp parts rest tail (decide (1 < parts.length)) dir B' (c - doms.length) (HA.out.drn HD.out) (HD.out.C HP.out) HPP.out.part HPP.out.last HPP.out.len (HD.out.C HC'.out) HL'.out HNM.out hnl)
          rw [hT] at HGM
          clear hT hgl HTK
          cases b with
          | true =>
            go_wp2_with fail
            refine HGM.out.mono ?_
            rintro e w3 ⟨rfl, hdr⟩
            have HD3 := Aside0.mk (HD.out.trans hdr)
            have hc24 := (HD3.out.cell ⟨g, 4, none⟩).trans (((HD.out.cell ⟨g, 4, none⟩).symm).trans hc4)
            have hc22 := (HD3.out.cell ⟨g, 2, none⟩).trans (((HD.out.cell ⟨g, 2, none⟩).symm).trans hc2)
            clear HGM hdr HD hc2 hc4 hc0 hsl
            go_wp2_with fail
            go_ret
            exact ⟨by first | rfl | (simp; done), HD3.out⟩
          | false =>
            go_wp2_with fail
            refine HGM.out.mono ?_
            rintro e w3 ⟨rfl, hdr⟩
            have HD3 := Aside0.mk (HD.out.trans hdr)
            clear HGM hdr HD hc2 hc4 hc0 hsl
            go_wp2_with fail
            go_ret
            exact ⟨by first | rfl | (simp; done), HD3.out⟩
        · have hone : parts.length = 1 := by have := HPP.out.pos; omega
          have hc4 := (HD.out.cell ⟨g, 4, none⟩).trans ((blk_cell HA.out 4).trans (show _ = some (Value.bool false) from by rw [decide_eq_false hgl]; rfl))
          have hT : simpleM (parts.headD ⟨#[]⟩).data.toList tail dir rest = b := (show takes parts rest tail dir = simpleM (parts.headD ⟨#[]⟩).data.toList tail dir rest from if_neg hgl).symm.trans HTK.out
          have hhd : parts[0]'HPP.out.pos = parts.headD ⟨#[]⟩ := by
            rw [List.headD_eq_head?_getD, List.head?_eq_getElem?, List.getElem?_eq_getElem HPP.out.pos]; rfl
          have HSM := Aside0.mk (simple_any wr g (.slice Ad doms.length cd) Ap cp parts rest (parts.headD ⟨#[]⟩) tail (decide (1 < parts.length)) dir B' (c - doms.length) (HA.out.drn HD.out) (HD.out.C HP.out) HPP.out.pos hhd (HPP.out.one hone) (HD.out.C HC'.out) HNM.out hnl)
          rw [hT] at HSM
          clear hT hgl hone hhd HTK
          cases b with
          | true =>
            go_wp2_with fail
            refine HSM.out.mono ?_
            rintro e w3 ⟨rfl, hdr⟩
            have HD3 := Aside0.mk (HD.out.trans hdr)
            have hc22 := (HD3.out.cell ⟨g, 2, none⟩).trans (((HD.out.cell ⟨g, 2, none⟩).symm).trans hc2)
            clear HSM hdr HD hc2 hc4 hc0 hsl
            go_wp2_with fail
            go_ret
            exact ⟨by first | rfl | (simp; done), HD3.out⟩
          | false =>
            go_wp2_with fail
            refine HSM.out.mono ?_
            rintro e w3 ⟨rfl, hdr⟩
            have HD3 := Aside0.mk (HD.out.trans hdr)
            clear HSM hdr HD hc2 hc4 hc0 hsl
            go_wp2_with fail
            go_ret
            exact ⟨by first | rfl | (simp; done), HD3.out⟩
/-- A path that does not stand in the pattern's folder. -/
theorem match_off (w : World) (g : Nat) (Ad Ap : Option Addr) (cd cp : Nat) (parts doms ns : List ByteArray) (tail dir : Bool) (B : Option Addr) (c : Nat)
    (hA : AtPat w g (.slice Ad doms.length cd) (.slice Ap parts.length cp) tail (decide (1 < parts.length))) (hD : Kd.string.C w Ad doms.length doms) (hdl : doms.length ≤ 1000000)
    (hN : Kd.string.C w B ns.length ns) (hnl : ns.length ≤ 1000000) (k : Nat) (hk : k < doms.length) (hoff : ∀ h : k < ns.length, ns[k] ≠ doms[k]) :
    Calls Try.prog 42 #[.pointer (some ⟨g, 0, none⟩), .slice B ns.length c, .bool dir] w fun e w' => e = .returned (.int .i64 0) ∧ Drn w w' := by
  have HA := Aside0.mk hA
  have HDM := Aside0.mk hD
  have HN := Aside0.mk hN
  have HOF := Aside0.mk hoff
  have hc0 := (blk_cell HA.out 0).trans (show _ = some (Value.slice Ad doms.length cd) from rfl)
  clear hA hD hN hoff
  by_cases hle : ns.length ≤ doms.length
  · have c0 : decide ((ns.length : Int) ≤ (doms.length : Int)) = true := decide_eq_true (by omega)
    have c1 : decide (ns.length ≤ doms.length) = true := decide_eq_true hle
    go_enter Try.func42, Try.ntmps42
    go_wp2_with fail
    go_ret
    exact ⟨rfl, Drn.refl w⟩
  · have c0 : decide ((ns.length : Int) ≤ (doms.length : Int)) = false := decide_eq_false (by omega)
    have c1 : decide (ns.length ≤ doms.length) = false := decide_eq_false hle
    go_enter Try.func42, Try.ntmps42
    go_wp2_with fail
    clear c0 c1 hc0
    go_loopg [22] (k + 1) (fun kq v22 w' => ∃ (i : Nat), v22 = .int .i64 (i : Int) ∧ i ≤ k ∧ Aside0 (kq + i = k + 1) ∧ Aside0 (Drn w w'))
    case atStart => exact ⟨0, rfl, Nat.zero_le _, ⟨by omega⟩, ⟨Drn.refl w⟩⟩
    case round =>
      obtain ⟨i, rfl, hi, HK, HD⟩ := hrel
      cases gk with
      | zero => exact absurd HK.out (by omega)
      | succ k1 =>
        have hlt : i < doms.length := by omega
        have c0 : decide ((i : Int) < (doms.length : Int)) = true := decide_eq_true (by omega)
        have c1 : decide (i < doms.length) = true := decide_eq_true hlt
        have p1 : (0 : Int) ≤ (i : Int) := by omega
        have p2 : (i : Int) < (doms.length : Int) := by omega
        have p3 : (i : Int) < (ns.length : Int) := by omega
        have w1 : wrap64 ((i : Int) + 1) = (i : Int) + 1 := w64 (by omega) (by omega)
        obtain ⟨dd, hdd, hcd⟩ := str_at HDM.out i hlt
        obtain ⟨bd, hbd, hcb⟩ := str_at HN.out i (by omega)
        subst hdd hbd
        obtain ⟨x, hx⟩ : ∃ x, doms[i] = x := ⟨_, rfl⟩
        obtain ⟨y, hy⟩ : ∃ y, ns[i]'(by omega) = y := ⟨_, rfl⟩
        have HXY := Aside0.mk (show i = k → y ≠ x from by
          intro he
          subst he
          rw [← hx, ← hy]
          exact HOF.out _)
        rw [hx] at hcd
        rw [hy] at hcb
        replace hcd := (HD.out.cell _).trans hcd
        replace hcb := (HD.out.cell _).trans hcb
        clear hx hy
        by_cases hxy : y = x
        · have e1 : (y.toList == x.toList) = true := by rw [hxy]; simp
          have e2 : (!(y.toList == x.toList)) = false := by rw [hxy]; simp
          have hik : i ≠ k := fun h => HXY.out h hxy
          clear hxy
          go_wp2_with fail
          go_roundg k1
          case measure => omega
          case rel => exact ⟨i + 1, by go_num, by omega, ⟨by have := HK.out; omega⟩, HD⟩
        · have e1 : (y.toList == x.toList) = false := by
            rw [beq_eq_false_iff_ne, ByteArray.toList_eq, ByteArray.toList_eq]
            exact fun h => hxy (Go.WideShapes.bytes_inj h)
          have e2 : (!(y.toList == x.toList)) = true := by rw [e1]; rfl
          clear hxy
          go_wp2_with fail
          go_ret
          exact ⟨rfl, HD.out⟩
end Go.Proofs.Ytbiflpbajgafaaa.ign
