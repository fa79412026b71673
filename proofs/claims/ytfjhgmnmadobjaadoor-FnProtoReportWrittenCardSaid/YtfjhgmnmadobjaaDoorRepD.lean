/- A report: spec.ReportText. -/
import Derived.Test.YtfjhgmnmadobjaaDoorRepB
import Derived.Test.YtfjhgmnmadobjaaDoorPktO
namespace Go.Proofs.YtfjhgmnmadobjaaDoor.rep
open Go.RowKit Go.Proofs.YtfjhgmnmadobjaaDoorW.PrintWords Go.Proofs.YtfjhgmnmadobjaaDoorW.PrintLast Go.Proofs.YtfjhgmnmadobjaaDoorW.PrintMore Go.Proofs.YtfjhgmnmadobjaaDoor.PFnProtoReportWritten Go.Proofs.YtfjhgmnmadobjaaDoor.pkt Go.Proofs.YtfjhgmnmadobjaaDoor.buf Go.Proofs.YtfjhgmnmadobjaaDoor.enc Go.Proofs.YtfjhgmnmadobjaaDoor.ptr
set_option linter.unusedVariables false
set_option linter.unusedSimpArgs false
set_option maxHeartbeats 2000000
set_option maxRecDepth 100000
theorem info5 : (Tryd.prog.info? 5).map (fun i => (i.zero, i.size, i.bytes)) = some (some (.int .u8 0), 1, 1) := by kernel_rfl
/-- A text turned into bytes in a world, and the line that is made of it. -/
structure Conv (W : World) (s : ByteArray) (W1 : World) (k c : Nat) : Prop where
  run : (convert 9 26 (.string s)).run Tryd.prog W = .ok (.slice (some ⟨W.heap.size, 0, none⟩) k c) W1
  line : Calls Tryd.prog 19 #[.slice (some ⟨W.heap.size, 0, none⟩) k c] W1 fun e w' => ∃ v, e = .returned v ∧ Kd.R (Kd.int .u8) 5 w' W.heap.size (fun _ => True) v (pline (Go.Proofs.YtfjhgmnmadobjaaDoorW.PrintWords.bytesOf s)) ∧ Below W.heap.size W w'
theorem conv_any (W : World) (s : ByteArray) (h0 : 0 < s.size) (h1 : s.size ≤ 65516) : ∃ W1 k c, Conv W s W1 k c := by
  obtain ⟨p, hp⟩ : ∃ p, Go.Proofs.YtfjhgmnmadobjaaDoorW.PrintWords.bytesOf s = p := ⟨_, rfl⟩
  have hsz : s.size = p.length := by rw [← Go.Proofs.YtfjhgmnmadobjaaDoorW.PrintWords.bytesOf_length s, hp]
  have hcv := print_bytes (P := Tryd.prog) 9 26 5 Tryd.underlying9 Tryd.underlying26 Tryd.underlying5 s W
  have hrb := bytes_reads W 5 s (by omega)
  have hbb := bytes_below (Below.refl W.heap.size W) (Nat.le_refl _) 5 s
  have hgc := (grownCap_ge W s.size 0 5)
  rw [hp] at hrb
  rw [hsz] at hcv hrb hgc
  obtain ⟨W1, hW1⟩ : ∃ W1, Lib.bytesWorld W 5 s = W1 := ⟨_, rfl⟩
  rw [hW1] at hcv hrb hbb
  have hpn : p ≠ [] := by rintro rfl; rw [hsz] at h0; exact absurd h0 (by decide)
  refine ⟨W1, p.length, _, hcv, ?_⟩
  refine (line_own W1 _ _ p (Kd.C_of_reads (h1 := fun _ => rfl) hrb) hgc (by omega) hpn).mono ?_
  rintro e w2 ⟨v, rfl, hR, hb⟩
  rw [hp]
  exact ⟨v, rfl, Kd.R_lower hR hbb.size, below_step hbb hb⟩
theorem reportText_any (w : World) (u : ByteArray) (A : Option Addr) (cc : Nat) (l : List S53) (ok : RepOk u l) (hC : Kd.C k53 w A l.length l) (hcc : l.length ≤ cc) :
    Calls Tryd.prog 14 #[.string u, .slice A l.length cc] w fun e w' => ∃ A' c', e = .returned (.slice A' (repL u l).length c') ∧ (repL u l).length ≤ c' ∧ (Kd.int .u8).C w' A' (repL u l).length (repL u l) ∧ Below w.heap.size w w' := by
  have HC := Aside0.mk hC
  have HOK := Aside0.mk ok
  have hn := ok.n
  have hu := ok.u.2
  have HREP := Aside0.mk (show repL u l = (pline (Go.Proofs.YtfjhgmnmadobjaaDoorW.PrintWords.bytesOf (lineU u)) ++ stL l) ++ fl from rfl)
  obtain ⟨PU, hPU⟩ : ∃ PU, pline (Go.Proofs.YtfjhgmnmadobjaaDoorW.PrintWords.bytesOf (lineU u)) = PU := ⟨_, rfl⟩
  have HPL := Aside0.mk (show PU.length ≤ 65520 by rw [← hPU]; exact pline_small _ (lineU_size hu).2)
  have hsu := lineU_size hu
  rw [hPU] at HREP
  unfold lineU at hPU hsu
  have HPU := Aside0.mk hPU
  have HLEN := Aside0.mk (show ∀ j, (stL (l.take j)).length ≤ 65520 * 30 from fun j => by
    have h1 := stL_len (l.take j) (fun x hx => ok.l x (List.mem_of_mem_take hx))
    have h2 : (l.take j).length ≤ 30 := by rw [List.length_take]; have := ok.n; omega
    omega)
  have r0 : 7 + u.size ≤ 9223372036854775807 := by omega
  have r0a := eq_true r0
  have r0b := decide_eq_true r0
  have r0c := eq_false (Nat.not_lt.2 r0)
  have r1 : 7 + u.size + 1 ≤ 9223372036854775807 := by omega
  have r1a := eq_true r1
  have r1b := decide_eq_true r1
  have r1c := eq_false (Nat.not_lt.2 r1)
  obtain ⟨WU, kU, cU, HCU⟩ := conv_any w (((⟨#[117, 110, 112, 97, 99, 107, 32]⟩ : ByteArray) ++ u) ++ (⟨#[10]⟩ : ByteArray)) hsu.1 (by omega)
  have hcv := HCU.run
  have HLU := Aside0.mk HCU.line
  have hu53 := Tryd.underlying53
  clear ok hC hPU hsu HCU
  go_enter Tryd.func14, Tryd.ntmps14
  go_wp2_with fail
  refine HLU.out.mono ?_
  rintro e w1 ⟨v1, rfl, hR1, hb1⟩
  rw [HPU.out] at hR1
  have HO1 := Aside0.mk hR1
  have HB1 := Aside0.mk hb1
  clear hR1 hb1 HLU hcv
  go_wp2_with fail
  go_loopg [5, 16] (l.length + 1) (fun kq v5 v16 w' => ∃ (j : Nat) (ov : Value), ov = v5 ∧ v16 = .int .i64 (j : Int) ∧ j ≤ l.length ∧ Aside0 (kq + j = l.length + 1) ∧ Aside0 (Kd.R (Kd.int .u8) 5 w' w.heap.size (fun _ => True) ov (PU ++ stL (l.take j))) ∧ Aside0 (Below w.heap.size w w'))
  case atStart => exact ⟨0, v1, rfl, rfl, Nat.zero_le _, ⟨by omega⟩, ⟨by rw [List.take_zero]; show Kd.R _ _ _ _ _ _ (PU ++ []); rw [List.append_nil]; exact HO1.out⟩, HB1⟩
  case round =>
    clear HO1 HB1
    obtain ⟨j, ov, hov, rfl, hj, HK, HO, HB⟩ := hrel
    subst hov
    cases gk with
    | zero => exact absurd HK.out (by omega)
    | succ k1 =>
      obtain ⟨wo, hwo⟩ : ∃ wo : World, wo = wr := ⟨_, rfl⟩
      subst hwo
      by_cases hlt : j < l.length
      · have p150 : 0 ≤ (j : Int) := by omega
        have q150 : (j : Int) < (l.length : Int) := by omega
        have c5b0 : decide ((j : Int) < (l.length : Int)) = true := decide_eq_true q150
        have c5b1 : decide (j < l.length) = true := decide_eq_true hlt
        have w1 : wrap64 ((j : Int) + 1) = (j : Int) + 1 := w64 (by omega) (by omega)
        obtain ⟨ad, e0, y0, y1⟩ := at_T53 HC.out j p150 q150
        subst e0
        rw [rd_list l j hlt, Int.toNat_natCast] at y0 y1
        replace y0 := (HB.out.cell (World.block_lt_of_cell? w _ y0)).trans y0
        replace y1 := (HB.out.cell (World.block_lt_of_cell? w _ y1)).trans y1
        have HOX := HOK.out.l _ (List.getElem_mem hlt)
        have HTU : PU ++ stL (l.take (j + 1)) = (PU ++ stL (l.take j)) ++ pline (Go.Proofs.YtfjhgmnmadobjaaDoorW.PrintWords.bytesOf (stT l[j])) := by rw [stL_take l j hlt, List.append_assoc]
        obtain ⟨x, hx⟩ : ∃ x, l[j] = x := ⟨_, rfl⟩
        rw [hx] at y0 y1 HTU HOX
        have HI := Aside0.mk hlt
        have HLJ := Aside0.mk (HLEN.out j)
        have hsz := stT_size HOX
        have hx0 := HOX.1
        have hx1 := HOX.2
        clear hx HOX
        by_cases hk : x.f1.toList = [111, 107]
        · have hst : stT x = ((⟨#[111, 107, 32]⟩ : ByteArray) ++ x.f0) ++ (⟨#[10]⟩ : ByteArray) := if_pos hk
          have i1 : (x.f1.toList == [111, 107]) = true := beq_iff_eq.2 hk
          rw [hst] at hsz HTU
          have HH := Aside0.mk (fun (W : World) => conv_any W (((⟨#[111, 107, 32]⟩ : ByteArray) ++ x.f0) ++ (⟨#[10]⟩ : ByteArray)) hsz.1 (by omega))
          have HTX := Aside0.mk HTU
          have HPS := Aside0.mk (pline_small (((⟨#[111, 107, 32]⟩ : ByteArray) ++ x.f0) ++ (⟨#[10]⟩ : ByteArray)) hsz.2)
          have r0 : 3 + x.f0.size ≤ 9223372036854775807 := by omega
          have r0a := eq_true r0
          have r0b := decide_eq_true r0
          have r0c := eq_false (Nat.not_lt.2 r0)
          have r1 : 3 + x.f0.size + 1 ≤ 9223372036854775807 := by omega
          have r1a := eq_true r1
          have r1b := decide_eq_true r1
          have r1c := eq_false (Nat.not_lt.2 r1)
          have r2 : 3 + x.f0.size + 1 + x.f1.size ≤ 9223372036854775807 := by omega
          have r2a := eq_true r2
          have r2b := decide_eq_true r2
          have r2c := eq_false (Nat.not_lt.2 r2)
          have r3 : 3 + x.f0.size + 1 + x.f1.size + 1 ≤ 9223372036854775807 := by omega
          have r3a := eq_true r3
          have r3b := decide_eq_true r3
          have r3c := eq_false (Nat.not_lt.2 r3)
          clear hst hk hsz HTU
          go_wp2_with (first | ((with_reducible refine gate_dst (N := 7) rfl ?_); refine box_event ?hg (N := 7) ?hd (cs := #[.string (⟨#[]⟩ : ByteArray), .string (⟨#[]⟩ : ByteArray)]) (t := 53) ?hr ?_; (case hd => rfl); (case hg => rfl); (case hr => first | (go_simp; done) | (go_simp; rfl)); intro gs hgs wa hbox hb; have BFa := Aside0.mk hbox; have HBa := Aside0.mk (show Below wo.heap.size wo wa from hb); have GF := Aside0.mk (show wo.heap.size ≤ gs by rw [hgs]; exact Nat.le_refl _); have z0 := (blk_cell hbox 0).trans (show _ = some (Value.string ⟨#[]⟩) from rfl); have z1 := (blk_cell hbox 1).trans (show _ = some (Value.string ⟨#[]⟩) from rfl); have f0 := blk_frozen hbox 0; have f1 := blk_frozen hbox 1; replace y0 := (hb.cell (World.block_lt_of_cell? wo _ y0)).trans y0; replace y1 := (hb.cell (World.block_lt_of_cell? wo _ y1)).trans y1; clear hbox hb hgs) | fail)
          have HBe := Aside0.mk (below_set (j := 1) (v := .string x.f1) (below_set (j := 0) (v := .string x.f0) HBa.out GF.out) GF.out)
          have BFe := blk_put (cs := #[.string x.f0, .string (⟨#[]⟩ : ByteArray)]) (blk_put (cs := #[.string (⟨#[]⟩ : ByteArray), .string (⟨#[]⟩ : ByteArray)]) BFa.out 0 (.string x.f0) rfl) 1 (.string x.f1) rfl
          generalize hW : World.setCell (World.setCell _ _ _) _ _ = W2
          rw [hW] at HBe BFe
          have BF2 := Aside0.mk (show W2.heap[gs]? = some (.cells #[.string x.f0, .string x.f1] 53 (0, 0)) from BFe)
          obtain ⟨W3, k3, c3, HCV⟩ := HH.out W2
          have q0 := (blk_cell BF2.out 0).trans (show _ = some (Value.string x.f0) from rfl)
          have q1 := (blk_cell BF2.out 1).trans (show _ = some (Value.string x.f1) from rfl)
          have HO2 := Aside0.mk (Kd.R_below HO.out HBe.out)
          have HB2 := Aside0.mk (below_step HB.out HBe.out)
          have hcv := HCV.run
          have HLN := Aside0.mk HCV.line
          clear hW y0 y1 z0 z1 f0 f1 BFa HBa BF2 BFe HH HCV HO HB
          rw [hcv]
          go_wp2_with fail
          refine HLN.out.mono ?_
          rintro e w4 ⟨v4, rfl, hR4, hb4⟩
          obtain ⟨A4, c4, e4, hc4, hC4⟩ := Kd.R_reads hR4
          subst e4
          have HC4 := Aside0.mk hC4
          have HO3 := Aside0.mk (Kd.R_below HO2.out hb4)
          have HB3 := Aside0.mk (below_step HB2.out hb4)
          clear hR4 hb4 hC4 hc4 HLN hcv q0 q1
          go_wp2_with (first | ((with_reducible refine gate_builtin (b := .append) (xs := #[.tmp 35, .tmp 38]) rfl ?_); at_builtin; go_must (refine Kd.R_append_row (Value.int .u8) 0 (w0 := w) w.heap.size rfl (.tmp 35) (.tmp 38) 26 5 (.int .u8 0) 1 rfl Tryd.underlying26 info5 rfl (by decide) ov _ (pline (Go.Proofs.YtfjhgmnmadobjaaDoorW.PrintWords.bytesOf (((⟨#[111, 107, 32]⟩ : ByteArray) ++ x.f0) ++ (⟨#[10]⟩ : ByteArray)))) A4 (pline (Go.Proofs.YtfjhgmnmadobjaaDoorW.PrintWords.bytesOf (((⟨#[111, 107, 32]⟩ : ByteArray) ++ x.f0) ++ (⟨#[10]⟩ : ByteArray)))).length c4 (fun _ => True) rfl rfl (fun _ _ => trivial) HO3.out HC4.out HB3.out HB3.out.size (by have := HLJ.out; have := HPL.out; have := HPS.out; rw [List.length_append]; omega) ?_); intro v5 w5 hR5 hB5 _ _; go_must (have HR5 := Aside0.mk hR5; have HB5 := Aside0.mk hB5; clear hR5 hB5)) | fail)
          go_roundg k1
          case measure => have := HK.out; omega
          case rel => exact ⟨j + 1, _, rfl, by go_num, HI.out, ⟨by have := HK.out; omega⟩, ⟨by rw [HTX.out]; exact HR5.out⟩, HB5⟩
        · have hst : stT x = ((((⟨#[110, 103, 32]⟩ : ByteArray) ++ x.f0) ++ (⟨#[32]⟩ : ByteArray)) ++ x.f1) ++ (⟨#[10]⟩ : ByteArray) := if_neg hk
          have i1 : (x.f1.toList == [111, 107]) = false := beq_eq_false_iff_ne.2 hk
          rw [hst] at hsz HTU
          have HH := Aside0.mk (fun (W : World) => conv_any W (((((⟨#[110, 103, 32]⟩ : ByteArray) ++ x.f0) ++ (⟨#[32]⟩ : ByteArray)) ++ x.f1) ++ (⟨#[10]⟩ : ByteArray)) hsz.1 (by omega))
          have HTX := Aside0.mk HTU
          have HPS := Aside0.mk (pline_small (((((⟨#[110, 103, 32]⟩ : ByteArray) ++ x.f0) ++ (⟨#[32]⟩ : ByteArray)) ++ x.f1) ++ (⟨#[10]⟩ : ByteArray)) hsz.2)
          have r0 : 3 + x.f0.size ≤ 9223372036854775807 := by omega
          have r0a := eq_true r0
          have r0b := decide_eq_true r0
          have r0c := eq_false (Nat.not_lt.2 r0)
          have r1 : 3 + x.f0.size + 1 ≤ 9223372036854775807 := by omega
          have r1a := eq_true r1
          have r1b := decide_eq_true r1
          have r1c := eq_false (Nat.not_lt.2 r1)
          have r2 : 3 + x.f0.size + 1 + x.f1.size ≤ 9223372036854775807 := by omega
          have r2a := eq_true r2
          have r2b := decide_eq_true r2
          have r2c := eq_false (Nat.not_lt.2 r2)
          have r3 : 3 + x.f0.size + 1 + x.f1.size + 1 ≤ 9223372036854775807 := by omega
          have r3a := eq_true r3
          have r3b := decide_eq_true r3
          have r3c := eq_false (Nat.not_lt.2 r3)
          clear hst hk hsz HTU
          go_wp2_with (first | ((with_reducible refine gate_dst (N := 7) rfl ?_); refine box_event ?hg (N := 7) ?hd (cs := #[.string (⟨#[]⟩ : ByteArray), .string (⟨#[]⟩ : ByteArray)]) (t := 53) ?hr ?_; (case hd => rfl); (case hg => rfl); (case hr => first | (go_simp; done) | (go_simp; rfl)); intro gs hgs wa hbox hb; have BFa := Aside0.mk hbox; have HBa := Aside0.mk (show Below wo.heap.size wo wa from hb); have GF := Aside0.mk (show wo.heap.size ≤ gs by rw [hgs]; exact Nat.le_refl _); have z0 := (blk_cell hbox 0).trans (show _ = some (Value.string ⟨#[]⟩) from rfl); have z1 := (blk_cell hbox 1).trans (show _ = some (Value.string ⟨#[]⟩) from rfl); have f0 := blk_frozen hbox 0; have f1 := blk_frozen hbox 1; replace y0 := (hb.cell (World.block_lt_of_cell? wo _ y0)).trans y0; replace y1 := (hb.cell (World.block_lt_of_cell? wo _ y1)).trans y1; clear hbox hb hgs) | fail)
          have HBe := Aside0.mk (below_set (j := 1) (v := .string x.f1) (below_set (j := 0) (v := .string x.f0) HBa.out GF.out) GF.out)
          have BFe := blk_put (cs := #[.string x.f0, .string (⟨#[]⟩ : ByteArray)]) (blk_put (cs := #[.string (⟨#[]⟩ : ByteArray), .string (⟨#[]⟩ : ByteArray)]) BFa.out 0 (.string x.f0) rfl) 1 (.string x.f1) rfl
          generalize hW : World.setCell (World.setCell _ _ _) _ _ = W2
          rw [hW] at HBe BFe
          have BF2 := Aside0.mk (show W2.heap[gs]? = some (.cells #[.string x.f0, .string x.f1] 53 (0, 0)) from BFe)
          obtain ⟨W3, k3, c3, HCV⟩ := HH.out W2
          have q0 := (blk_cell BF2.out 0).trans (show _ = some (Value.string x.f0) from rfl)
          have q1 := (blk_cell BF2.out 1).trans (show _ = some (Value.string x.f1) from rfl)
          have HO2 := Aside0.mk (Kd.R_below HO.out HBe.out)
          have HB2 := Aside0.mk (below_step HB.out HBe.out)
          have hcv := HCV.run
          have HLN := Aside0.mk HCV.line
          clear hW y0 y1 z0 z1 f0 f1 BFa HBa BF2 BFe HH HCV HO HB
          rw [hcv]
          go_wp2_with fail
          refine HLN.out.mono ?_
          rintro e w4 ⟨v4, rfl, hR4, hb4⟩
          obtain ⟨A4, c4, e4, hc4, hC4⟩ := Kd.R_reads hR4
          subst e4
          have HC4 := Aside0.mk hC4
          have HO3 := Aside0.mk (Kd.R_below HO2.out hb4)
          have HB3 := Aside0.mk (below_step HB2.out hb4)
          clear hR4 hb4 hC4 hc4 HLN hcv q0 q1
          go_wp2_with (first | ((with_reducible refine gate_builtin (b := .append) (xs := #[.tmp 35, .tmp 38]) rfl ?_); at_builtin; go_must (refine Kd.R_append_row (Value.int .u8) 0 (w0 := w) w.heap.size rfl (.tmp 35) (.tmp 38) 26 5 (.int .u8 0) 1 rfl Tryd.underlying26 info5 rfl (by decide) ov _ (pline (Go.Proofs.YtfjhgmnmadobjaaDoorW.PrintWords.bytesOf (((((⟨#[110, 103, 32]⟩ : ByteArray) ++ x.f0) ++ (⟨#[32]⟩ : ByteArray)) ++ x.f1) ++ (⟨#[10]⟩ : ByteArray)))) A4 (pline (Go.Proofs.YtfjhgmnmadobjaaDoorW.PrintWords.bytesOf (((((⟨#[110, 103, 32]⟩ : ByteArray) ++ x.f0) ++ (⟨#[32]⟩ : ByteArray)) ++ x.f1) ++ (⟨#[10]⟩ : ByteArray)))).length c4 (fun _ => True) rfl rfl (fun _ _ => trivial) HO3.out HC4.out HB3.out HB3.out.size (by have := HLJ.out; have := HPL.out; have := HPS.out; rw [List.length_append]; omega) ?_); intro v5 w5 hR5 hB5 _ _; go_must (have HR5 := Aside0.mk hR5; have HB5 := Aside0.mk hB5; clear hR5 hB5)) | fail)
          go_roundg k1
          case measure => have := HK.out; omega
          case rel => exact ⟨j + 1, _, rfl, by go_num, HI.out, ⟨by have := HK.out; omega⟩, ⟨by rw [HTX.out]; exact HR5.out⟩, HB5⟩
      · have c5b0 : decide ((j : Int) < (l.length : Int)) = false := decide_eq_false (by omega)
        have c5b1 : decide (j < l.length) = false := decide_eq_false hlt
        have hTK : l.take j = l := List.take_of_length_le (by omega)
        rw [hTK] at HO
        have HLJ := Aside0.mk (show (stL l).length ≤ 65520 * 30 from by have := HLEN.out j; rwa [hTK] at this)
        have HOW := Aside0.mk (Kd.own_of_R HO.out)
        clear hTK
        go_wp2_with (first | ((with_reducible refine gate_builtin (b := .append) (xs := #[.tmp 41, .const (.string ⟨#[48, 48, 48, 48]⟩)]) rfl ?_); at_builtin; go_must (refine print_append_str (w0 := w) w.heap.size rfl (.tmp 41) (.const (.string ⟨#[48, 48, 48, 48]⟩)) 26 9 5 rfl Tryd.underlying26 Tryd.underlying9 info5 ov _ ⟨#[48, 48, 48, 48]⟩ rfl rfl HOW.out HB.out HB.out.size (by have := HPL.out; have := HLJ.out; rw [List.length_append]; show _ + 4 ≤ _; omega) ?_); intro v4 w4 hR4 hB4 _; go_must (have HR4 := Aside0.mk hR4; have HB4 := Aside0.mk hB4; clear hR4 hB4)) | fail)
        have hR5 : Kd.R (Kd.int .u8) 5 w4 w.heap.size (fun _ => True) v4 (repL u l) := by rw [HREP.out]; exact Kd.R_of_own HR4.out (fun _ _ => trivial)
        obtain ⟨A4, c4, e4, hl4, hC4⟩ := Kd.R_reads hR5
        subst e4
        go_wp2_with fail
        go_ret
        exact ⟨A4, c4, rfl, hl4, hC4, HB4.out⟩
end Go.Proofs.YtfjhgmnmadobjaaDoor.rep
