/- A report: ReportStatus.Encode. -/
import Derived.Test.YtfjhgmnmadobjaaDoorRepA
namespace Go.Proofs.YtfjhgmnmadobjaaDoor.rep
open Go.RowKit Go.Proofs.YtfjhgmnmadobjaaDoorW.PrintWords Go.Proofs.YtfjhgmnmadobjaaDoorW.PrintLast Go.Proofs.YtfjhgmnmadobjaaDoorW.PrintMore Go.Proofs.YtfjhgmnmadobjaaDoor.PFnProtoReportWritten Go.Proofs.YtfjhgmnmadobjaaDoor.pkt Go.Proofs.YtfjhgmnmadobjaaDoor.buf Go.Proofs.YtfjhgmnmadobjaaDoor.enc Go.Proofs.YtfjhgmnmadobjaaDoor.ptr
set_option linter.unusedVariables false
set_option linter.unusedSimpArgs false
set_option maxHeartbeats 2000000
set_option maxRecDepth 100000
abbrev kCS : Kd S53 := ptr 63 k53
abbrev RC (w : World) (B : Nat) (v : Value) (l : List S53) : Prop := Kd.R kCS 60 w B (fun _ => True) v l
theorem tys {q : Nat} (h : q ∈ 60 :: kCS.E) : q ≠ 5 ∧ q ≠ 45 ∧ q ≠ 59 ∧ q ≠ 53 := by
  rcases List.mem_cons.1 h with h | h
  · subst h; decide
  · rcases List.mem_cons.1 h with h | h
    · subst h; decide
    · exact absurd (show q ∈ ([] : List Nat) from h) List.not_mem_nil
def HasBuf (w : World) (gb : Nat) : Prop := ∃ cs, w.heap[gb]? = some (.cells cs 45 (0, 0))
theorem isB_has {B gb : Nat} {bs : List Value} {w : World} (hI : IsB B gb bs w) : HasBuf w gb := by
  obtain ⟨_, v, lr, h, _⟩ := hI
  exact ⟨_, h⟩
theorem has_ne {w : World} {gb g t : Nat} {cs : Array Value} (h : HasBuf w gb) (hg : w.heap[g]? = some (.cells cs t (0, 0))) (ht : t ≠ 45) : g ≠ gb := by
  rintro rfl
  obtain ⟨c, h⟩ := h
  rw [h] at hg
  injection hg with hg
  injection hg with _ hg _
  exact ht hg.symm
theorem keep_blk {w w' : World} {gb g t : Nat} {cs : Array Value} (hg : w.heap[g]? = some (.cells cs t (0, 0))) (h : HasBuf w gb) (hk : Keeps gb w w') (ht : t ≠ 45) (ht' : t ≠ 5) : w'.heap[g]? = some (.cells cs t (0, 0)) :=
  hk g _ hg (has_ne h hg ht) (fun c e => by injection e with _ e _; exact ht' e)
theorem RC_keeps {w w' : World} {B gb : Nat} {v : Value} {l : List S53} (h : RC w B v l) (hk : Keeps gb w w') (hI : HasBuf w gb) : RC w' B v l := by
  refine Kd.R_mono (Kd.R_move (Kd.R_bound h) ?_) (fun _ _ => trivial)
  rintro k ⟨_, _, _, q, hq, cells, hc⟩
  obtain ⟨h1, h2, _⟩ := tys hq
  exact (keep_blk hc hI hk h2 h1).trans hc.symm
theorem Wrote.seq {B gb : Nat} {xs ys : List Int} {w w1 w2 : World} (h : Wrote B gb [] xs w w1) (k : Wrote B gb xs ys w1 w2) : Wrote B gb [] (xs ++ ys) w w2 :=
  ⟨k.isB, h.below.trans k.below, h.keeps.trans k.keeps⟩
theorem rsEncode_any (w : World) (B gb gr : Nat) (u : ByteArray) (v : Value) (l : List S53) (ok : RepOk u l) (hI : IsB B gb (bv []) w) (hB : B ≤ w.heap.size) (hG : w.heap[gr]? = some (.cells #[.string u, v] 59 (0, 0))) (hR : RC w B v l) :
    Calls Tryd.prog 23 #[.pointer (some ⟨gr, 0, none⟩), .iface 49 (.pointer (some ⟨gb, 0, none⟩))] w (WPost B gb [] (repL u l) w) := by
  obtain ⟨Av, cv, hcv, ev, _⟩ : ∃ A c, l.length ≤ c ∧ v = .slice A l.length c ∧ True := by
    obtain ⟨A, c, e, h, _⟩ := Kd.R_reads hR
    exact ⟨A, c, h, e, trivial⟩
  subst ev
  have HI := Aside0.mk hI
  have HB := Aside0.mk hB
  have HG := Aside0.mk hG
  have HR := Aside0.mk hR
  have HOK := Aside0.mk ok
  have HHB := Aside0.mk (isB_has hI)
  have hu := ok.u.2
  have HSZ := Aside0.mk (lineU_size hu)
  have HT := Aside0.mk (show lineU u = lineU u from rfl)
  have HREP := Aside0.mk (show repL u l = (pline (Go.Proofs.YtfjhgmnmadobjaaDoorW.PrintWords.bytesOf (lineU u)) ++ stL l) ++ fl from rfl)
  obtain ⟨T, hT⟩ : ∃ T, lineU u = T := ⟨_, rfl⟩
  rw [hT] at HSZ HT HREP
  rw [← hT] at HT
  replace HT : Aside0 (lineU u = T) := ⟨hT⟩
  unfold lineU at HT
  obtain ⟨PU, hPU⟩ : ∃ PU, pline (Go.Proofs.YtfjhgmnmadobjaaDoorW.PrintWords.bytesOf T) = PU := ⟨_, rfl⟩
  have HPU := Aside0.mk hPU
  have HPL := Aside0.mk (show PU.length ≤ 65520 by rw [← hPU]; exact pline_small T HSZ.out.2)
  rw [hPU] at HREP
  have HLEN := Aside0.mk (show ∀ j, (stL (l.take j)).length ≤ 65520 * 30 from fun j => by
    have h1 := stL_len (l.take j) (fun x hx => ok.l x (List.mem_of_mem_take hx))
    have h2 : (l.take j).length ≤ 30 := by rw [List.length_take]; have := ok.n; omega
    omega)
  have hn := ok.n
  have r0 : 7 + u.size ≤ 9223372036854775807 := by omega
  have r0a := eq_true r0
  have r0b := decide_eq_true r0
  have r0c := eq_false (Nat.not_lt.2 r0)
  have r1 : 7 + u.size + 1 ≤ 9223372036854775807 := by omega
  have r1a := eq_true r1
  have r1b := decide_eq_true r1
  have r1c := eq_false (Nat.not_lt.2 r1)
  clear hI hB hG hR ok hT hPU hcv
  go_enter Tryd.func23, Tryd.ntmps23
  go_wp2_with fail
  refine (newEnc_any _ gb).mono ?_
  rintro e w1 ⟨ge, hge, rfl, hE1, hb1⟩
  have HE1 := Aside0.mk hE1
  have HB1 := Aside0.mk hb1
  have HG1 := Aside0.mk (blk_below HG.out hb1)
  clear hge hE1 hb1
  have q0 := (blk_cell HG1.out 0).trans (show _ = some (Value.string u) from rfl)
  go_wp2_with fail
  refine (encStr_new B gb ge [] _ _ (IsB.below HI.out HB1.out) (Nat.le_trans HB.out HB1.out.size) HE1.out (by rw [HT.out]; exact HSZ.out.1) (by rw [HT.out]; have := HSZ.out.2; omega) (by decide)).mono ?_
  rintro e w2 hq
  rw [HT.out, HPU.out] at hq
  obtain ⟨rfl, hq⟩ := hq
  have HQ := Aside0.mk (Wrote.after HB.out HB1.out hq)
  have HE2 := Aside0.mk (HE1.out.keeps (IsB.below HI.out HB1.out) hq.keeps)
  have HG2 := Aside0.mk (keep_blk HG.out HHB.out HQ.out.keeps (by decide) (by decide))
  clear hq q0
  have q1 := (blk_cell HG2.out 1).trans (show _ = some (Value.slice Av l.length cv) from rfl)
  go_wp2_with fail
  go_loopg [29] (l.length + 1) (fun kq v29 w' => ∃ j : Nat, v29 = .int .i64 (j : Int) ∧ j ≤ l.length ∧ Aside0 (kq + j = l.length + 1) ∧ Aside0 (Wrote B gb [] (PU ++ stL (l.take j)) w w') ∧ Aside0 (IsEnc w' ge gb))
  case atStart => exact ⟨0, rfl, Nat.zero_le _, ⟨by omega⟩, ⟨by rw [List.take_zero]; show Wrote B gb [] (PU ++ []) w w2; rw [List.append_nil]; exact HQ.out⟩, HE2⟩
  case round =>
    clear q1 HG2 HE2 HQ
    obtain ⟨j, rfl, hj, HK, HW, HE⟩ := hrel
    cases gk with
    | zero => exact absurd HK.out (by omega)
    | succ k1 =>
      by_cases hlt : j < l.length
      · have c0 : decide ((j : Int) < (l.length : Int)) = true := decide_eq_true (by omega)
        have c1 : decide (j < l.length) = true := decide_eq_true hlt
        have p1 : (0 : Int) ≤ (j : Int) := by omega
        have p2 : (j : Int) < (l.length : Int) := by omega
        have w1 : wrap64 ((j : Int) + 1) = (j : Int) + 1 := w64 (by omega) (by omega)
        obtain ⟨ad, c, gc, arr, ev, hcc, hcell, _, _, hblk, hM⟩ := at_ptrM (RC_keeps HR.out HW.out.keeps HHB.out) j hlt
        injection ev with e1 e2 e3
        subst e1
        have harr := k53_openM hM
        have HX := Aside0.mk (HOK.out.l _ (List.getElem_mem hlt))
        have HTK := Aside0.mk (show PU ++ stL (l.take (j + 1)) = (PU ++ stL (l.take j)) ++ pline (Go.Proofs.YtfjhgmnmadobjaaDoorW.PrintWords.bytesOf (stT l[j])) by rw [stL_take l j hlt, List.append_assoc])
        obtain ⟨x, hx⟩ : ∃ x, l[j] = x := ⟨_, rfl⟩
        rw [hx] at harr HX HTK
        have HC := Aside0.mk (show CsBlk wr gc x by
          unfold CsBlk
          rw [hblk]
          have : arr = #[.string x.f0, .string x.f1] := Array.toList_inj.1 harr
          rw [this])
        have HLJ := Aside0.mk (HLEN.out j)
        clear hblk hM harr hx e2 e3 hcc
        go_wp2_with fail
        refine (csEncode_any wr B gb gc (PU ++ stL (l.take j)) x HW.out.isB (Nat.le_trans HB.out HW.out.below.size) HC.out HX.out (by rw [List.length_append]; have := HLJ.out; have := HPL.out; omega)).mono ?_
        rintro e w3 ⟨rfl, hq⟩
        have HE3 := Aside0.mk (HE.out.keeps HW.out.isB hq.keeps)
        have HW3 := Aside0.mk (Wrote.seq HW.out hq)
        clear hq hcell
        go_wp2_with fail
        go_roundg k1
        case measure => have := HK.out; omega
        case rel => exact ⟨j + 1, by go_num, by omega, ⟨by have := HK.out; omega⟩, ⟨by rw [HTK.out]; exact HW3.out⟩, HE3⟩
      · have c0 : decide ((j : Int) < (l.length : Int)) = false := decide_eq_false (by omega)
        have c1 : decide (j < l.length) = false := decide_eq_false hlt
        have hTK : l.take j = l := List.take_of_length_le (by omega)
        rw [hTK] at HW
        have HLJ := Aside0.mk (show (stL l).length ≤ 65520 * 30 from by have := HLEN.out j; rwa [hTK] at this)
        clear hTK
        go_wp2_with fail
        refine (flush_any wr B gb ge (PU ++ stL l) HW.out.isB (Nat.le_trans HB.out HW.out.below.size) HE.out (by rw [List.length_append]; have := HLJ.out; have := HPL.out; omega)).mono ?_
        rintro e w3 ⟨rfl, hq⟩
        have HW3 := Aside0.mk (Wrote.seq HW.out hq)
        clear hq
        go_wp2_with fail
        go_ret
        exact ⟨rfl, by rw [HREP.out]; exact HW3.out⟩
end Go.Proofs.YtfjhgmnmadobjaaDoor.rep
