/- A pattern's match of names: simpleNameMatch, globMatch. -/
import Derived.Test.YtbiflpbajgafaaaIgnE
namespace Go.Proofs.Ytbiflpbajgafaaa.ign
open Go.RowKit Go.Proofs.YtbiflpbajgafaaaW.PrintWords Go.Proofs.YtbiflpbajgafaaaW.PrintLast Go.Proofs.YtbiflpbajgafaaaW.PrintMore
set_option linter.unusedVariables false
set_option linter.unusedSimpArgs false
set_option maxHeartbeats 4000000
set_option maxRecDepth 100000
theorem Drn.cell {w w' : World} (h : Drn w w') (a : Addr) : w'.cell? a = w.cell? a := by
  obtain ⟨n, rfl⟩ := h
  rfl
theorem Drn.C {w w' : World} (h : Drn w w') {A : Option Addr} {n : Nat} {xs : List ByteArray} (hc : Kd.string.C w A n xs) : Kd.string.C w' A n xs := by
  obtain ⟨m, rfl⟩ := h
  exact Kd.C_drewN hc m
/-- A name of letters, digits and points. -/
def Nm (n : ByteArray) : Prop := n.size ≤ 1000000 ∧ ∀ x ∈ n.data.toList, x.toNat < 128 ∧ x ≠ 47
/-- A pattern of names. -/
def Gl (p : ByteArray) : Prop := p.size ≤ 1000000 ∧ (∀ x ∈ p.data.toList, Plain x) ∧ NoDbl p.data.toList ∧ p.data.toList ≠ []
/-- A name that fits, at the end of the path a folder if folders alone are meant. -/
def simpleM (p : List UInt8) (tail dir : Bool) : List ByteArray → Bool
  | [] => false
  | n :: r => if globs p n.data.toList = true then !(tail && !dir && r.isEmpty) else simpleM p tail dir r
theorem str_at {w : World} {A : Option Addr} {xs : List ByteArray} (h : Kd.string.C w A xs.length xs) (i : Nat) (hi : i < xs.length) : ∃ ad, A = some ad ∧ w.cell? (ad.add i) = some (.string xs[i]) := by
  obtain ⟨ad, h1, h2⟩ := Kd.at_string h (i : Int) (by omega) (by omega)
  refine ⟨ad, h1, ?_⟩
  rw [Int.toNat_natCast] at h2
  rw [h2]
  unfold rdOf
  rw [Int.toNat_natCast, List.getD_eq_getElem?_getD, List.getElem?_eq_getElem hi]; rfl
theorem simple_any (w : World) (g : Nat) (vd : Value) (Ap : Option Addr) (cp : Nat) (parts ns : List ByteArray) (a : ByteArray) (tail gl dir : Bool) (B : Option Addr) (c : Nat)
    (hA : AtPat w g vd (.slice Ap parts.length cp) tail gl) (hP : Kd.string.C w Ap parts.length parts) (hpl : 0 < parts.length) (hpa : parts[0] = a) (hga : Gl a) (hN : Kd.string.C w B ns.length ns) (hn : ∀ n ∈ ns, Nm n) (hnl : ns.length ≤ 1000000) :
    Calls Try.prog 44 #[.pointer (some ⟨g, 0, none⟩), .slice B ns.length c, .bool dir] w fun e w' => e = .returned (.bool (simpleM a.data.toList tail dir ns)) ∧ Drn w w' := by
  have HA := Aside0.mk hA
  have HN := Aside0.mk hN
  have HNM := Aside0.mk hn
  have HGA := Aside0.mk hga
  obtain ⟨pd, hpd, hpc⟩ := str_at hP 0 hpl
  rw [hpa] at hpc
  subst hpd
  have HPC := Aside0.mk (show w.cell? pd = some (.string a) from by have h := hpc; rwa [show pd.add 0 = pd from by unfold Addr.add; rw [if_pos rfl]] at h)
  obtain ⟨b, hb⟩ : ∃ b, simpleM a.data.toList tail dir ns = b := ⟨_, rfl⟩
  rw [hb]
  have HBB := Aside0.mk hb
  have hz0 : 0 < parts.length := hpl
  have hz1 : (0 : Int) < (parts.length : Int) := by omega
  clear hA hP hpa hga hN hn hpc hb hpl
  go_enter Try.func44, Try.ntmps44
  go_wp2_with fail
  go_loopg [13] (ns.length + 1) (fun kq v13 w' => ∃ (i : Nat), v13 = .int .i64 (i : Int) ∧ i ≤ ns.length ∧ Aside0 (kq + i = ns.length + 1) ∧ Aside0 (simpleM a.data.toList tail dir (ns.drop i) = b) ∧ Aside0 (Drn w w'))
  case atStart => exact ⟨0, rfl, Nat.zero_le _, ⟨by omega⟩, ⟨by rw [List.drop_zero]; exact HBB.out⟩, ⟨Drn.refl w⟩⟩
  case round =>
    clear HBB
    obtain ⟨i, rfl, hi, HK, HB, HD⟩ := hrel
    cases gk with
    | zero => exact absurd HK.out (by omega)
    | succ k1 =>
      by_cases hlt : i < ns.length
      · have c0 : decide ((i : Int) < (ns.length : Int)) = true := decide_eq_true (by omega)
        have c1 : decide (i < ns.length) = true := decide_eq_true hlt
        have p1 : (0 : Int) ≤ (i : Int) := by omega
        have p2 : (i : Int) < (ns.length : Int) := by omega
        have w1 : wrap64 ((i : Int) + 1) = (i : Int) + 1 := w64 (by omega) (by omega)
        have p3 : (1 : Int) ≤ (ns.length : Int) := by omega
        have w2 : wrap64 ((ns.length : Int) - 1) = (ns.length : Int) - 1 := w64 (by omega) (by omega)
        obtain ⟨bd, hbd, hcell⟩ := str_at HN.out i hlt
        subst hbd
        have hdrop : ns.drop i = ns[i] :: ns.drop (i + 1) := List.drop_eq_getElem_cons hlt
        obtain ⟨x, hx⟩ : ∃ x, ns[i] = x := ⟨_, rfl⟩
        have HX := Aside0.mk (HNM.out _ (List.getElem_mem hlt))
        rw [hx] at hcell hdrop HX
        have HB2 := HB.out
        rw [hdrop, simpleM] at HB2
        replace hcell := (HD.out.cell _).trans hcell
        have hc1 := (HD.out.cell ⟨g, 1, none⟩).trans ((blk_cell HA.out 1).trans (show _ = some (Value.slice (some pd) parts.length cp) from rfl))
        have hc2 := (HD.out.cell pd).trans HPC.out
        have HM := Aside0.mk (match_any a x HGA.out.2.1 HX.out.2 HGA.out.1 HX.out.1 wr)
        obtain ⟨m, hm⟩ : ∃ m, globs a.data.toList x.data.toList = m := ⟨_, rfl⟩
        rw [hm] at HB2 HM
        have HB2 := Aside0.mk HB2
        unfold GlobPost at HM
        clear hx hdrop hm HB HX
        go_wp2_with fail
        refine HM.out.mono ?_
        rintro e w3 ⟨rfl, hdr⟩
        have HD3 := Aside0.mk (HD.out.trans hdr)
        have hc3 := (HD3.out.cell ⟨g, 3, none⟩).trans ((blk_cell HA.out 3).trans (show _ = some (Value.bool tail) from rfl))
        clear HM hdr HD hcell hc1 hc2
        cases m with
        | false =>
          have HB3 := Aside0.mk (show simpleM a.data.toList tail dir (ns.drop (i + 1)) = b from by have := HB2.out; rwa [if_neg (by decide)] at this)
          clear HB2 hc3
          go_wp2_with fail
          go_roundg k1
          case measure => omega
          case rel => exact ⟨i + 1, by go_num, by omega, ⟨by have := HK.out; omega⟩, HB3, HD3⟩
        | true =>
          have HB3 := HB2.out
          rw [if_pos rfl] at HB3
          by_cases hla : i + 1 = ns.length
          · have he : (ns.drop (i + 1)).isEmpty = true := by rw [List.isEmpty_iff]; exact List.drop_eq_nil_of_le (by omega)
            rw [he] at HB3
            have HB3 := Aside0.mk HB3
            have z1 : ((i : Int) == (ns.length : Int) - 1) = true := by rw [beq_iff_eq]; omega
            clear HB2 he hla
            cases tail <;> cases dir
            all_goals
              have hb := HB3.out.symm
              simp at hb
              subst hb
              go_wp2_with fail
              go_ret
              exact ⟨rfl, HD3.out⟩
          · have he : (ns.drop (i + 1)).isEmpty = false := by
              rw [List.isEmpty_eq_false_iff]
              intro h
              have := congrArg List.length h
              rw [List.length_drop, List.length_nil] at this
              omega
            rw [he] at HB3
            have HB3 := Aside0.mk HB3
            have z1 : ((i : Int) == (ns.length : Int) - 1) = false := by rw [beq_eq_false_iff_ne]; omega
            clear HB2 he hla
            cases tail <;> cases dir
            all_goals
              have hb := HB3.out.symm
              simp at hb
              subst hb
              go_wp2_with fail
              go_ret
              exact ⟨rfl, HD3.out⟩
      · have c0 : decide ((i : Int) < (ns.length : Int)) = false := decide_eq_false (by omega)
        have c1 : decide (i < ns.length) = false := decide_eq_false hlt
        have hb : b = false := by
          rw [← HB.out, List.drop_of_length_le (by omega), simpleM]
        subst hb
        go_wp2_with fail
        go_ret
        exact ⟨rfl, HD.out⟩
/-- Behind the first name that fits. -/
def trav (p : List UInt8) : List ByteArray → Option (List ByteArray)
  | [] => none
  | n :: r => if globs p n.data.toList = true then some r else trav p r
/-- Names, one behind the other; two stars stand for any folders. -/
def gmat (tail dir : Bool) : List ByteArray → List ByteArray → Bool → Bool → Bool
  | [], path, m, _ => m && !(tail && !dir && path.isEmpty)
  | p :: ps, path, m, t =>
    if p.data.toList = [] then gmat tail dir ps path m false
    else if p.data.toList = [42, 42] then gmat tail dir ps path m true
    else match path with
      | [] => false
      | n :: r => if t = true then (match trav p.data.toList (n :: r) with | some r' => gmat tail dir ps r' true false | none => gmat tail dir ps [] false false)
        else if globs p.data.toList n.data.toList = true then gmat tail dir ps r true false else false
theorem info22 : (Try.prog.info? 22).map (fun i => (i.zero, i.size, i.bytes)) = some (some (.slice none 0 0), 1, 24) := by kernel_rfl
/-- What is behind the first name of a path. -/
theorem tail_of {w : World} {B : Option Addr} {c : Nat} {n : ByteArray} {r : List ByteArray} (h : Kd.string.C w B (n :: r).length (n :: r)) (hc : (n :: r).length ≤ c) :
    ∃ B', (∀ W : World, (Instr.slice 22 (.slice B (n :: r).length c) (some (.int .i64 1)) none none).run Try.prog W = .ok (.slice B' r.length (c - 1)) W) ∧ Kd.string.C w B' r.length r ∧ r.length ≤ c - 1 := by
  obtain ⟨i5, hi5, hz5, hs5, hb5⟩ := info_parts infoS
  obtain ⟨A8, hsr, hA8, hl8⟩ := print_drop_of (P := Try.prog) Value.string ByteArray.empty 22 9 .i64 Try.underlying22 hi5 hs5 B c (n :: r) (1 : Int) (by omega) (by simp only [List.length_cons]; omega) hc
  have HC8 : Kd.string.C w A8 _ _ := Kd.C_of_reads (h1 := fun _ => rfl) (hA8 w (Kd.reads_of_C (d := ByteArray.empty) h))
  have e1 : (1 : Int).toNat = 1 := rfl
  rw [e1] at hsr hl8 HC8
  exact ⟨A8, hsr, HC8, hl8⟩
end Go.Proofs.Ytbiflpbajgafaaa.ign
