/- Revisions: a parser of a text. -/
import Derived.Test.YtiibeefadgmicaaDoorRevL
import Derived.Test.YtiibeefadgmicaaDoorRevN
import Derived.Laws.Tables
import Derived.Lib.ConvBytes
namespace Go.Proofs.YtiibeefadgmicaaDoor.rev
open Go.RowKit Go.Proofs.YtiibeefadgmicaaDoorW.PrintWords Go.Proofs.YtiibeefadgmicaaDoorW.PrintLast Go.Proofs.YtiibeefadgmicaaDoorW.PrintMore Go.Proofs.YtiibeefadgmicaaDoor.PFnRevSteps
set_option linter.unusedVariables false
set_option linter.unusedSimpArgs false
set_option maxHeartbeats 2000000
set_option maxRecDepth 100000
theorem newBuf_any (w : World) (l : List UInt8) (hl : 0 < l.length) :
    Calls Tryd.prog 23 #[.string (txt l)] w fun e w' => ∃ gx gu c, e = .returned (.pointer (some ⟨gu, 0, none⟩)) ∧ w.heap.size ≤ gx ∧ gx < gu ∧ w'.heap[gu]? = some (.cells (buC (some ⟨gx, 0, none⟩) l.length c 0 0) 94 (0, 0)) ∧ l.length ≤ c ∧ (∀ (j : Nat) (v : Value), (bv l)[j]? = some v → w'.cell? ⟨gx, j, none⟩ = some v) ∧ gx < w'.heap.size ∧ Below w.heap.size w w' := by
  have hcv := fun W : World => Lib.run_convert_string_bytes (P := Tryd.prog) W 9 90 5 (txt l) (u := .string) Tryd.underlying9 Tryd.underlying90 Tryd.underlying5
  have hsz := txt_size l
  have HC := Aside0.mk (show ∀ j : Nat, ∀ v, (bv l)[j]? = some v → (Lib.bytesWorld w 5 (txt l)).cell? ⟨w.heap.size, j, none⟩ = some v from fun j v hj => by
    have hlt : j < l.length := by rw [← bv_len]; exact (List.getElem?_eq_some_iff.1 hj).1
    rw [Lib.bytesWorld_cell w 5 (txt l) j (by rw [txt_size]; exact hlt), ← hj]
    unfold bv txt
    rw [List.getElem?_map, List.getElem?_eq_getElem hlt, List.getD_eq_getElem?_getD]
    simp [hlt])
  have HB := Aside0.mk (Lib.bytesWorld_below w 5 (txt l))
  have HZ := Aside0.mk (Lib.bytesWorld_size w 5 (txt l))
  have HG := Aside0.mk (grownCap_ge w (txt l).size 0 5)
  obtain ⟨s, hs⟩ : ∃ s, txt l = s := ⟨_, rfl⟩
  rw [hs] at hcv hsz HC HB HZ HG ⊢
  obtain ⟨n, hn⟩ : ∃ n, l.length = n := ⟨_, rfl⟩
  have HN := Aside0.mk hn
  rw [hn] at hsz hl ⊢
  obtain ⟨cp, hcp⟩ : ∃ cp, grownCap w s.size 0 5 = cp := ⟨_, rfl⟩
  obtain ⟨W1, hW1⟩ : ∃ W1, Lib.bytesWorld w 5 s = W1 := ⟨_, rfl⟩
  have hcv1 := hcv w
  rw [hcp, hW1, hsz] at hcv1
  rw [hcp, hsz] at HG
  rw [hW1] at HC HB HZ
  have HCV := Aside0.mk hcv1
  clear hcv hs hn hcp hW1 hsz
  go_enter Tryd.func23, Tryd.ntmps23
  go_wp2_with (first | ((with_reducible refine gate_dst (N := 6) rfl ?_); refine box_event ?hg (N := 6) ?hd (cs := buC (some ⟨w.heap.size, 0, none⟩) n cp 0 0) (t := 94) ?hr ?_; (case hd => rfl); (case hg => rfl); (case hr => first | (go_simp; done) | (go_simp; rfl)); intro gu hgu w2 hbox hb2; have HBX := Aside0.mk hbox; have HB2 := Aside0.mk hb2; have HGU := Aside0.mk hgu; clear hbox hb2 hgu) | fail)
  go_ret
  refine ⟨w.heap.size, gu, cp, rfl, Nat.le_refl _, by rw [HGU.out, HZ.out]; exact Nat.lt_succ_self _, HBX.out, HG.out, fun j v hj => (HB2.out.cell (show w.heap.size < W1.heap.size by rw [HZ.out]; exact Nat.lt_succ_self _)).trans (HC.out j v hj), ?_, below_step HB.out HB2.out⟩
  have := HB2.out.size
  rw [HZ.out] at this
  omega
theorem limit_any (w : World) (gu : Nat) :
    Calls Tryd.prog 44 #[.iface 50 (.pointer (some ⟨gu, 0, none⟩)), .int .i64 131072] w fun e w' => ∃ gl, e = .returned (.iface 124 (.pointer (some ⟨gl, 0, none⟩))) ∧ w.heap.size ≤ gl ∧ w'.heap[gl]? = some (.cells (liC gu 131072) 126 (0, 0)) ∧ Below w.heap.size w w' := by
  go_enter Tryd.func44, Tryd.ntmps44
  go_wp2_with (first | ((with_reducible refine gate_dst (N := 8) rfl ?_); refine box_event ?hg (N := 8) ?hd (cs := liC gu 131072) (t := 126) ?hr ?_; (case hd => rfl); (case hg => rfl); (case hr => first | (go_simp; done) | (go_simp; rfl)); intro gl hgl w2 hbox hb2; have HBX := Aside0.mk hbox; have HB2 := Aside0.mk hb2; have HGL := Aside0.mk hgl; clear hbox hb2 hgl) | fail)
  go_ret
  exact ⟨gl, rfl, by rw [HGL.out]; exact Nat.le_refl _, HBX.out, HB2.out⟩
theorem info5 : (Tryd.prog.info? 5).map (fun i => (i.zero, i.size, i.bytes)) = some (some (.int .u8 0), 1, 1) := by kernel_rfl
theorem make4096 (w : World) : ∃ W1 cur, (Instr.makeSlice 90 (.int .i64 4096) (.int .i64 4096)).run Tryd.prog w = .ok (.slice (some ⟨w.heap.size, 0, none⟩) 4096 4096) W1 ∧ Below w.heap.size w W1 ∧ W1.heap[w.heap.size]? = some (.cells (cur : List Value).toArray 5 (0, 0)) ∧ cur.length = 4096 ∧ W1.heap.size = w.heap.size + 1 := by
  obtain ⟨i0, hi, hzz⟩ := Option.map_eq_some_iff.1 info5
  simp only [Prod.mk.injEq] at hzz
  obtain ⟨hz0, hz1, hz2⟩ := hzz
  refine ⟨_, (madeCells (Value.int .u8 0).cells (4096 * i0.size)).toList, run_makeSlice w 90 5 i0 _ Tryd.underlying90 hi hz0 .i64 .i64 4096 4096 (by decide) (by decide) (by rw [hz1]; decide) (by rw [hz2]; decide) (by decide), below_alloc (Below.refl _ _) _, ?_, ?_, by simp⟩
  · rw [Array.toArray_toList]
    exact blk_new w _
  · rw [Array.length_toList, hz1]
    simp [madeCells]
def rd0 : Array Value := #[.slice none 0 0, .nilIface, .int .i64 0, .int .i64 0, .nilIface, .int .i64 0, .int .i64 0]
theorem reset_any (w : World) (gr gb gl : Nat) (hG : w.heap[gr]? = some (.cells rd0 128 (0, 0))) :
    Calls Tryd.prog 76 #[.pointer (some ⟨gr, 0, none⟩), .slice (some ⟨gb, 0, none⟩) 4096 4096, .iface 124 (.pointer (some ⟨gl, 0, none⟩))] w fun e w' => e = .returned (.tuple #[]) ∧ w'.heap[gr]? = some (.cells (rdC gl gb 0 0 .nilIface (-1) (-1)) 128 (0, 0)) ∧ Off (In [gr]) w w' ∧ w'.heap.size = w.heap.size := by
  have HG := Aside0.mk hG
  clear hG
  go_enter Tryd.func76, Tryd.ntmps76
  go_wp2_with (first | ((with_reducible refine gate_dst (N := 10) rfl ?_); refine wpList_plain rfl ?_) | fail)
  intro K hK
  go_simp
  refine hK _ _ ?_
  clear hK K
  refine wpList_store_row rfl 128 (.tmp 10) (.tmp 9) rfl gr (rdC gl gb 0 0 .nilIface (-1) (-1)) rfl rfl 128 rd0 HG.out (by kernel_rfl) rfl (by simp [rdC, Value.oneCell']) ?_
  go_wp2
  refine bodyPost_end (results_none rfl _ _ _) rfl ?_
  exact ⟨rfl, setRow_heap w gr _ _ _ (0, 0) HG.out, (Off.refl _ w).row (by simp [In]) _, by simp⟩
theorem taB (v : Value) (w : World) : (Instr.typeAssert (.iface 124 v) 84 103 true).run Tryd.prog w = .ok (.tuple #[.pointer none, .bool false]) w := by kernel_rfl
theorem newReader_any (w : World) (gl : Nat) :
    Calls Tryd.prog 59 #[.iface 124 (.pointer (some ⟨gl, 0, none⟩)), .int .i64 4096] w fun e w' => ∃ gr gb cur, e = .returned (.pointer (some ⟨gr, 0, none⟩)) ∧ w.heap.size ≤ gr ∧ gr < gb ∧ w'.heap[gr]? = some (.cells (rdC gl gb 0 0 .nilIface (-1) (-1)) 128 (0, 0)) ∧ w'.heap[gb]? = some (.cells (cur : List Value).toArray 5 (0, 0)) ∧ cur.length = 4096 ∧ Below w.heap.size w w' := by
  have hta := taB (.pointer (some ⟨gl, 0, none⟩))
  have hmx : max (4096 : Int) 16 = 4096 := by decide
  obtain ⟨W0, hW0⟩ : ∃ W0, w.alloc (.cells rd0 128 (0, 0)) = W0 := ⟨_, rfl⟩
  have HG0 := Aside0.mk (show W0.heap[w.heap.size]? = some (.cells rd0 128 (0, 0)) from by rw [← hW0]; exact blk_new w _)
  have HB0 := Aside0.mk (show Below w.heap.size w W0 from by rw [← hW0]; exact below_alloc (Below.refl _ _) _)
  have HZ0 := Aside0.mk (show W0.heap.size = w.heap.size + 1 from by rw [← hW0]; simp)
  obtain ⟨W1, cur, hrun, hb1, hg1, hcur, hz1⟩ := make4096 W0
  have HB1 := Aside0.mk hb1
  have HG1 := Aside0.mk hg1
  have HC1 := Aside0.mk hcur
  obtain ⟨gb, hgb⟩ : ∃ gb, W0.heap.size = gb := ⟨_, rfl⟩
  rw [hgb] at hrun HG1
  have HGB := Aside0.mk hgb
  obtain ⟨gr, hgr⟩ : ∃ gr, w.heap.size = gr := ⟨_, rfl⟩
  have HGR := Aside0.mk hgr
  have HRS := Aside0.mk (reset_any W1 gr gb gl (by rw [← hgr]; exact blk_below HG0.out hb1))
  have hW0' : w.alloc (.cells #[.slice none 0 0, .nilIface, .int .i64 0, .int .i64 0, .nilIface, .int .i64 0, .int .i64 0] 128 (0, 0)) = W0 := hW0
  clear hb1 hg1 hcur hz1 hgb hW0
  go_enter Tryd.func59, Tryd.ntmps59
  go_wp2_with fail
  refine HRS.out.mono ?_
  rintro e w5 ⟨rfl, hr5, ho5, hz5⟩
  have HR5 := Aside0.mk hr5
  have HO5 := Aside0.mk ho5
  clear hr5 ho5 hz5 HRS
  go_wp2_with fail
  go_ret
  have h1 := HGR.out
  have h2 := HGB.out
  have h3 := HZ0.out
  have hb5 : Below w.heap.size W1 w5 := HO5.out.below (Nat.le_trans HB0.out.size HB1.out.size) (fun k hk => by simp only [In, List.mem_singleton] at hk; omega)
  exact ⟨gr, gb, cur, rfl, by omega, by omega, HR5.out, HO5.out.blk HG1.out (by simp [In]; omega), HC1.out, (HB0.out.trans (HB1.out.mono HB0.out.size)).trans hb5⟩
theorem newReader0_any (w : World) (gl : Nat) :
    Calls Tryd.prog 43 #[.iface 124 (.pointer (some ⟨gl, 0, none⟩))] w fun e w' => ∃ gr gb cur, e = .returned (.pointer (some ⟨gr, 0, none⟩)) ∧ w.heap.size ≤ gr ∧ gr < gb ∧ w'.heap[gr]? = some (.cells (rdC gl gb 0 0 .nilIface (-1) (-1)) 128 (0, 0)) ∧ w'.heap[gb]? = some (.cells (cur : List Value).toArray 5 (0, 0)) ∧ cur.length = 4096 ∧ Below w.heap.size w w' := by
  go_enter Tryd.func43, Tryd.ntmps43
  go_wp2_with fail
  refine (newReader_any w gl).mono ?_
  rintro e w1 ⟨gr, gb, cur, rfl, h1, h2, h3, h4, h5, h6⟩
  have H := Aside0.mk (And.intro h1 (And.intro h2 (And.intro h3 (And.intro h4 (And.intro h5 h6)))))
  clear h1 h2 h3 h4 h5 h6
  go_wp2_with fail
  go_ret
  exact ⟨gr, gb, cur, rfl, H.out⟩
theorem newScanner_any (w : World) (gu : Nat) :
    Calls Tryd.prog 34 #[.iface 50 (.pointer (some ⟨gu, 0, none⟩))] w fun e w' => ∃ gl gr gb gs cur, e = .returned (.pointer (some ⟨gs, 0, none⟩)) ∧ w.heap.size ≤ gl ∧ gl < gr ∧ gr < gb ∧ gb < gs ∧ w'.heap[gl]? = some (.cells (liC gu 131072) 126 (0, 0)) ∧ w'.heap[gr]? = some (.cells (rdC gl gb 0 0 .nilIface (-1) (-1)) 128 (0, 0)) ∧ w'.heap[gb]? = some (.cells (cur : List Value).toArray 5 (0, 0)) ∧ cur.length = 4096 ∧ w'.heap[gs]? = some (.cells (scC gr) 107 (0, 0)) ∧ Below w.heap.size w w' := by
  go_enter Tryd.func34, Tryd.ntmps34
  go_wp2_with fail
  refine (limit_any w gu).mono ?_
  rintro e w1 ⟨gl, rfl, h1, h2, hb1⟩
  have H1 := Aside0.mk h1
  have H2 := Aside0.mk h2
  have HB1 := Aside0.mk hb1
  clear h1 h2 hb1
  go_wp2_with fail
  refine (newReader0_any w1 gl).mono ?_
  rintro e w2 ⟨gr, gb, cur, rfl, h3, h4, h5, h6, h7, hb2⟩
  have H3 := Aside0.mk (Nat.lt_of_lt_of_le (blk_lt H2.out) h3)
  have H4 := Aside0.mk h4
  have H5 := Aside0.mk h5
  have H6 := Aside0.mk h6
  have H7 := Aside0.mk h7
  have H8 := Aside0.mk (blk_below H2.out hb2)
  have HB2 := Aside0.mk (below_step HB1.out hb2)
  clear h3 h4 h5 h6 h7 hb2
  go_wp2_with (first | ((with_reducible refine gate_dst (N := 7) rfl ?_); refine box_event ?hg (N := 7) ?hd (cs := scC gr) (t := 107) ?hr ?_; (case hd => rfl); (case hg => rfl); (case hr => first | (go_simp; done) | (go_simp; rfl)); intro gs hgs w3 hbox hb3; have HBX := Aside0.mk hbox; have HB3 := Aside0.mk hb3; have HGS := Aside0.mk hgs; clear hbox hb3 hgs) | fail)
  go_ret
  exact ⟨gl, gr, gb, gs, cur, rfl, H1.out, H3.out, H4.out, by rw [HGS.out]; exact blk_lt H6.out, blk_below H8.out HB3.out, blk_below H5.out HB3.out, blk_below H6.out HB3.out, H7.out, HBX.out, below_step HB2.out HB3.out⟩
theorem newParser_any (w : World) (gu : Nat) :
    Calls Tryd.prog 22 #[.iface 50 (.pointer (some ⟨gu, 0, none⟩))] w fun e w' => ∃ gl gr gb gs gp cur, e = .returned (.pointer (some ⟨gp, 0, none⟩)) ∧ w.heap.size ≤ gl ∧ gl < gr ∧ gr < gb ∧ gb < gs ∧ gs < gp ∧ w'.heap[gl]? = some (.cells (liC gu 131072) 126 (0, 0)) ∧ w'.heap[gr]? = some (.cells (rdC gl gb 0 0 .nilIface (-1) (-1)) 128 (0, 0)) ∧ w'.heap[gb]? = some (.cells (cur : List Value).toArray 5 (0, 0)) ∧ cur.length = 4096 ∧ w'.heap[gs]? = some (.cells (scC gr) 107 (0, 0)) ∧ w'.heap[gp]? = some (.cells (paC gs 0 ⟨#[]⟩ false) 89 (0, 0)) ∧ Below w.heap.size w w' := by
  go_enter Tryd.func22, Tryd.ntmps22
  go_wp2_with fail
  refine (newScanner_any w gu).mono ?_
  rintro e w1 ⟨gl, gr, gb, gs, cur, rfl, h1, h2, h3, h4, h5, h6, h7, h8, h9, hb1⟩
  have H1 := Aside0.mk (And.intro h1 (And.intro h2 (And.intro h3 h4)))
  have H5 := Aside0.mk h5
  have H6 := Aside0.mk h6
  have H7 := Aside0.mk h7
  have H8 := Aside0.mk h8
  have H9 := Aside0.mk h9
  have HB1 := Aside0.mk hb1
  clear h1 h2 h3 h4 h5 h6 h7 h8 h9 hb1
  go_wp2_with (first | ((with_reducible refine gate_dst (N := 6) rfl ?_); refine box_event ?hg (N := 6) ?hd (cs := paC gs 0 ⟨#[]⟩ false) (t := 89) ?hr ?_; (case hd => rfl); (case hg => rfl); (case hr => first | (go_simp; done) | (go_simp; rfl)); intro gp hgp w3 hbox hb3; have HBX := Aside0.mk hbox; have HB3 := Aside0.mk hb3; have HGP := Aside0.mk hgp; clear hbox hb3 hgp) | fail)
  go_ret
  exact ⟨gl, gr, gb, gs, gp, cur, rfl, H1.out.1, H1.out.2.1, H1.out.2.2.1, H1.out.2.2.2, by rw [HGP.out]; exact blk_lt H9.out, blk_below H5.out HB3.out, blk_below H6.out HB3.out, blk_below H7.out HB3.out, H8.out, blk_below H9.out HB3.out, HBX.out, below_step HB1.out HB3.out⟩
/-- A parser of a text. -/
theorem parser_any (w : World) (ea : Addr) (l : List UInt8) (hl : 0 < l.length) (hm : l.length ≤ 4000) (hg : Good l) (hT : Tabs w ea) :
    Calls Tryd.prog 19 #[.string (txt l)] w fun e w' => ∃ p : Pa, e = .returned (.pointer (some ⟨p.gp, 0, none⟩)) ∧ AtP w' p ⟨false, ⟨0, []⟩, l⟩ ∧ Below w.heap.size w w' ∧ ∀ k, p.S k → w.heap.size ≤ k := by
  have HM := Aside0.mk (And.intro hm (And.intro hg hT))
  have HN := Aside0.mk (newBuf_any w l hl)
  have HP := Aside0.mk hl
  clear hl hm hg hT
  go_enter Tryd.func19, Tryd.ntmps19
  go_wp2_with fail
  refine HN.out.mono ?_
  rintro e w1 ⟨gx, gu, c, rfl, h1, h2, h3, h4, h5, h6, hb1⟩
  have H1 := Aside0.mk (And.intro h1 h2)
  have H3 := Aside0.mk h3
  have H4 := Aside0.mk h4
  have H5 := Aside0.mk h5
  have H6 := Aside0.mk h6
  have HB1 := Aside0.mk hb1
  clear h1 h2 h3 h4 h5 h6 hb1 HN
  go_wp2_with fail
  refine (newParser_any w1 gu).mono ?_
  rintro e w2 ⟨gl, gr, gb, gs, gp, cur, rfl, a1, a2, a3, a4, a5, b1, b2, b3, b4, b5, b6, hb2⟩
  have A := Aside0.mk (And.intro a1 (And.intro a2 (And.intro a3 (And.intro a4 a5))))
  have B := Aside0.mk (And.intro b1 (And.intro b2 (And.intro b3 (And.intro b4 (And.intro b5 b6)))))
  have HB2 := Aside0.mk hb2
  clear a1 a2 a3 a4 a5 b1 b2 b3 b4 b5 b6 hb2
  go_wp2_with fail
  go_ret
  obtain ⟨a1, a2, a3, a4, a5⟩ := A.out
  obtain ⟨b1, b2, b3, b4, b5, b6⟩ := B.out
  obtain ⟨c1, c2⟩ := H1.out
  obtain ⟨m1, m2, m3⟩ := HM.out
  have hgu1 := blk_lt H3.out
  have h16 := m3.sz
  have hpl := blk_lt b6
  have hbb : Below w.heap.size w w2 := below_step HB1.out HB2.out
  refine ⟨⟨⟨gx, gu, gl, gr, gb⟩, gs, gp, ea⟩, rfl, ⟨⟨⟨?_, ?_, ?_, ?_, ?_, ?_, ?_, ?_, ?_, ?_, ⟨?_, ?_, ?_, ?_, ?_⟩⟩, ?_, ?_, ?_, ?_, ?_⟩, ⟨⟨?_, ?_, ?_, ?_, ?_⟩, ?_, ?_⟩, b5, b6, ⟨none, .inl ⟨⟨⟨-1, -1, b2⟩, ⟨cur, b3, b4⟩, b1, ⟨c, 0, blk_below H3.out HB2.out, H4.out⟩, fun j v hj => ((HB2.out.cell H6.out).trans (H5.out j v hj)), HP.out, m1⟩, rfl⟩⟩, m3.below hbb, m2, m1⟩, hbb, ?_⟩
  all_goals try dsimp only
  all_goals first | omega | (simp only [Ad.S, Pa.S, In, List.mem_cons, List.not_mem_nil, or_false, not_or]; omega) | (intro k hk; simp only [Pa.S, In, List.mem_cons, List.not_mem_nil, or_false] at hk; omega)
end Go.Proofs.YtiibeefadgmicaaDoor.rev
