/- Trees: Encode. -/
import Derived.Test.YtdelomacpmpgoaaDoorTreeC
namespace Go.Proofs.YtdelomacpmpgoaaDoor.tree
open Go.RowKit Go.Proofs.YtdelomacpmpgoaaDoorW.PrintWords Go.Proofs.YtdelomacpmpgoaaDoorW.PrintLast Go.Proofs.YtdelomacpmpgoaaDoorW.PrintMore Go.Proofs.YtdelomacpmpgoaaDoor.PFnTreeUnsorted Go.Proofs.YtdelomacpmpgoaaDoor.ord
set_option linter.unusedVariables false
set_option linter.unusedSimpArgs false
set_option maxHeartbeats 2000000
set_option maxRecDepth 100000
theorem setType_any (w : World) (go : Nat) (marr : Array Value) (t0 : Value) (k : Int) (hM : w.heap[go]? = some (.cells marr 47 (0, 0))) (h0 : marr[0]? = some t0) :
    Calls Tryd.prog 64 #[.pointer (some ⟨go, 0, none⟩), .int .i8 k] w fun e w' => e = .returned (.tuple #[]) ∧ w' = w.setCell ⟨go, 0, none⟩ (.int .i8 k) := by
  have q0 := (blk_cell hM 0).trans h0
  have f0 := blk_frozen hM 0
  clear hM h0
  go_enter Tryd.func64, Tryd.ntmps64
  go_wp2_with fail
  refine bodyPost_end (results_none rfl _ _ _) rfl ⟨rfl, rfl⟩
theorem writer_any (a : Addr) (w : World) : Calls Tryd.prog 66 #[.pointer (some a)] w fun e w' => e = .returned (.tuple #[.iface 43 (.pointer (some a)), .nilIface]) ∧ w = w' := by
  go_enter Tryd.func66, Tryd.ntmps66
  go_wp2_with fail
  go_ret2
  exact ⟨rfl, rfl⟩
theorem tyT {q : Nat} (h : q ∈ 58 :: kT.E) : q = 58 := by
  rcases List.mem_cons.1 h with h | h
  · exact h
  · exact absurd (show q ∈ ([] : List Nat) from h) List.not_mem_nil
theorem encode_bad (w : World) (B base gt go : Nat) (A : Option Addr) (cc : Nat) (l : List S30) (marr : Array Value) (t0 : Value) (τ : TypeId) (uv : Value) (hT : w.cell? ⟨gt, 0, none⟩ = some (.slice A l.length cc)) (hM : w.heap[go]? = some (.cells marr 47 (0, 0))) (h0 : marr[0]? = some t0) (hne : gt ≠ go)
    (hR : Kd.R kT 58 w base (fun _ => True) (.slice A l.length cc) l) (hs : ∀ x ∈ l, Small x) (hl : l.length ≤ 1000) (js : Nat) (hj : js + 1 < l.length) (hb : Op.bytesLess (kl l[js + 1]) (kl l[js]) = true)
    (hE : w.cell? ⟨0, 0, none⟩ = some (.iface τ uv)) (hgo : 0 ≠ go) (hB : B ≤ go) (hBw : B ≤ w.heap.size) :
    Calls Tryd.prog 12 #[.pointer (some ⟨gt, 0, none⟩), .iface 43 (.pointer (some ⟨go, 0, none⟩))] w fun e w' => e = .returned (.iface τ uv) ∧ Below B w w' := by
  have HT := Aside0.mk hT
  have HM := Aside0.mk hM
  have HR := Aside0.mk hR
  have HE := Aside0.mk hE
  have HBQ := Aside0.mk hb
  have HNE := Aside0.mk hne
  have HGO := Aside0.mk hgo
  have HH0 := Aside0.mk h0
  have HGB := Aside0.mk hB
  have HBW := Aside0.mk hBw
  have hn1 := mo_nil ⟨go, 0, none⟩ "SetType" (.inr (.inl rfl))
  have hn2 := mo_nil ⟨go, 0, none⟩ "Writer" (.inr (.inr (.inl rfl)))
  have hm1 := mo_setType ⟨go, 0, none⟩
  have hm2 := mo_writer ⟨go, 0, none⟩
  clear hT hM hR hE hb hne hgo h0 hB hBw
  go_enter_defers Tryd.func12, Tryd.ntmps12
  go_wp2_with (first | ((with_reducible refine gate_dst (N := 4) rfl ?_); refine box_event ?hg (N := 4) ?hd (cs := #[.nilIface]) (t := 49) ?hr ?_; (case hd => rfl); (case hg => rfl); (case hr => first | (go_simp; done) | (go_simp; rfl)); intro ge hge w1 hbox hb; have BE1 := Aside0.mk hbox; have HB1 := Aside0.mk (show Below w.heap.size w w1 from hb); have GE := Aside0.mk (show ge = w.heap.size from hge); have BM1 := Aside0.mk (blk_below HM.out hb); have HT1 := (hb.cell (World.block_lt_of_cell? w _ HT.out)).trans HT.out; have HR1 := Aside0.mk (Kd.R_below HR.out hb); clear hbox hb hge) | fail)
  refine (setType_any _ go marr t0 2 BM1.out HH0.out).mono ?_
  rintro e w2 ⟨rfl, hw2⟩
  have hlt : gt < w.heap.size := World.block_lt_of_cell? w _ HT.out
  have hlo : go < w.heap.size := blk_lt HM.out
  have hlg : 0 < w.heap.size := World.block_lt_of_cell? w _ HE.out
  have hge := GE.out
  have qt : w2.cell? ⟨gt, 0, none⟩ = some (.slice A l.length cc) := by rw [hw2, World.cell?_setCell_other _ _ _ _ (by intro e; injection e with e; first | exact HNE.out e | exact HNE.out e.symm)]; exact HT1
  have qE : w2.cell? ⟨0, 0, none⟩ = some (.iface τ uv) := by rw [hw2, World.cell?_setCell_other _ _ _ _ (by intro e; injection e with e; first | exact HGO.out e | exact HGO.out e.symm)]; exact (HB1.out.cell hlg).trans HE.out
  have BE2 : w2.heap[ge]? = some (.cells #[.nilIface] 49 (0, 0)) := by rw [hw2]; exact blk_far BE1.out (p := ⟨go, 0, none⟩) (by show ge ≠ go; omega) _
  have HR2 := Aside0.mk (show Kd.R kT 58 w2 base (fun _ => True) (.slice A l.length cc) l by rw [hw2]; exact Kd.R_set HR1.out BM1.out (fun q hq => by rw [tyT hq]; decide) 0 _)
  have HB2 := Aside0.mk (show Below B w w2 by rw [hw2]; exact (HB1.out.mono HBW.out).setCell (show B ≤ go from HGB.out) _)
  have q0 := (blk_cell BE2 0).trans (show _ = some Value.nilIface from rfl)
  have f0 := blk_frozen BE2 0
  have HR3 := Aside0.mk (Kd.R_set HR2.out BE2 (fun q hq => by rw [tyT hq]; decide) 0 .nilIface)
  have BE3 := Aside0.mk (blk_put (cs := #[.nilIface]) BE2 0 .nilIface rfl)
  have HB3 := Aside0.mk (show Below B w (w2.setCell ⟨ge, 0, none⟩ .nilIface) from HB2.out.setCell (show B ≤ ge by have := HBW.out; omega) _)
  have qt3 : (w2.setCell ⟨ge, 0, none⟩ .nilIface).cell? ⟨gt, 0, none⟩ = some (.slice A l.length cc) := by rw [World.cell?_setCell_other _ _ _ _ (by intro e; injection e with e; omega)]; exact qt
  have qE3 := Aside0.mk (show (w2.setCell ⟨ge, 0, none⟩ .nilIface).cell? ⟨0, 0, none⟩ = some (.iface τ uv) by rw [World.cell?_setCell_other _ _ _ _ (by intro e; injection e with e; omega)]; exact qE)
  clear hw2 qt qE HT1 hlt hlo hlg hge
  go_wp2_with fail
  refine (writer_any _ _).mono ?_
  rintro e w3 ⟨rfl, rfl⟩
  obtain ⟨W, hW⟩ : ∃ W, w2.setCell ⟨ge, 0, none⟩ .nilIface = W := ⟨_, rfl⟩
  rw [hW] at HR3 BE3 HB3 qt3 qE3
  have q3 := (blk_cell BE3.out 0).trans (show _ = some Value.nilIface from rfl)
  have f3 := blk_frozen BE3.out 0
  go_wp2_with fail
  refine (isSorted_no W A cc l (by obtain ⟨A', c', e, _, h⟩ := Kd.R_reads HR3.out; cases e; exact h) hs hl js hj HBQ.out).mono ?_
  rintro e w4 ⟨rfl, m, rfl⟩
  have q4 : (W.drewN m).cell? ⟨ge, 0, none⟩ = some Value.nilIface := q3
  have qE4 : (W.drewN m).cell? ⟨0, 0, none⟩ = some (.iface τ uv) := qE3.out
  have f4 : (W.drewN m).frozen? ⟨ge, 0, none⟩ = false := f3
  go_wp2_with fail
  refine leaves_cons (f := 18) (args := #[.iface 43 (.pointer (some ⟨go, 0, none⟩)), .pointer (some ⟨ge, 0, none⟩)]) (by simp) (by simp [go_sem]) ?_
  refine (checkClose_deferred ⟨go, 0, none⟩ ⟨ge, 0, none⟩ .returning _).mono ?_
  rintro e u' w'' ⟨rfl, rfl, rfl⟩
  have q5 : ((W.drewN m).setCell ⟨ge, 0, none⟩ (.iface τ uv)).cell? ⟨ge, 0, none⟩ = some (.iface τ uv) := World.cell?_setCell_same' _ _ _ (by rw [q4]; rfl)
  refine ⟨.iface τ uv, ?_, rfl, ?_⟩
  · simp [results, Tryd.results12, go_sem, q5]
  · exact (pw_below_drewN HB3.out m).setCell (show B ≤ ge by have := HBW.out; have := GE.out; omega) _
theorem encode_nil (w : World) (B base gt go : Nat) (marr : Array Value) (t0 : Value) (hT : w.cell? ⟨gt, 0, none⟩ = some (.slice none 0 0)) (hM : w.heap[go]? = some (.cells marr 47 (0, 0))) (h0 : marr[0]? = some t0) (hne : gt ≠ go)
    (hB : B ≤ go) (hBw : B ≤ w.heap.size) :
    Calls Tryd.prog 12 #[.pointer (some ⟨gt, 0, none⟩), .iface 43 (.pointer (some ⟨go, 0, none⟩))] w fun e w' => e = .returned .nilIface ∧ Below B w w' ∧ ∃ m2, w'.heap[go]? = some (.cells m2 47 (0, 0)) ∧ m2[21]? = marr[21]? := by
  have HT := Aside0.mk hT
  have HM := Aside0.mk hM
  have HNE := Aside0.mk hne
  have HH0 := Aside0.mk h0
  have HGB := Aside0.mk hB
  have HBW := Aside0.mk hBw
  have hn1 := mo_nil ⟨go, 0, none⟩ "SetType" (.inr (.inl rfl))
  have hn2 := mo_nil ⟨go, 0, none⟩ "Writer" (.inr (.inr (.inl rfl)))
  have hm1 := mo_setType ⟨go, 0, none⟩
  have hm2 := mo_writer ⟨go, 0, none⟩
  clear hT hM hne h0 hB hBw
  go_enter_defers Tryd.func12, Tryd.ntmps12
  go_wp2_with (first | ((with_reducible refine gate_dst (N := 4) rfl ?_); refine box_event ?hg (N := 4) ?hd (cs := #[.nilIface]) (t := 49) ?hr ?_; (case hd => rfl); (case hg => rfl); (case hr => first | (go_simp; done) | (go_simp; rfl)); intro ge hge w1 hbox hb; have BE1 := Aside0.mk hbox; have HB1 := Aside0.mk (show Below w.heap.size w w1 from hb); have GE := Aside0.mk (show ge = w.heap.size from hge); have BM1 := Aside0.mk (blk_below HM.out hb); have HT1 := (hb.cell (World.block_lt_of_cell? w _ HT.out)).trans HT.out; clear hbox hb hge) | fail)
  refine (setType_any _ go marr t0 2 BM1.out HH0.out).mono ?_
  rintro e w2 ⟨rfl, hw2⟩
  have hlt : gt < w.heap.size := World.block_lt_of_cell? w _ HT.out
  have hlo : go < w.heap.size := blk_lt HM.out
  have hge := GE.out
  have qt : w2.cell? ⟨gt, 0, none⟩ = some (.slice none 0 0) := by rw [hw2, World.cell?_setCell_other _ _ _ _ (by intro e; injection e with e; first | exact HNE.out e | exact HNE.out e.symm)]; exact HT1
  have BE2 : w2.heap[ge]? = some (.cells #[.nilIface] 49 (0, 0)) := by rw [hw2]; exact blk_far BE1.out (p := ⟨go, 0, none⟩) (by show ge ≠ go; omega) _
  have HB2 := Aside0.mk (show Below B w w2 by rw [hw2]; exact (HB1.out.mono HBW.out).setCell (show B ≤ go from HGB.out) _)
  have q0 := (blk_cell BE2 0).trans (show _ = some Value.nilIface from rfl)
  have f0 := blk_frozen BE2 0
  have BE3 := Aside0.mk (blk_put (cs := #[.nilIface]) BE2 0 .nilIface rfl)
  have HB3 := Aside0.mk (show Below B w (w2.setCell ⟨ge, 0, none⟩ .nilIface) from HB2.out.setCell (show B ≤ ge by have := HBW.out; omega) _)
  have qt3 : (w2.setCell ⟨ge, 0, none⟩ .nilIface).cell? ⟨gt, 0, none⟩ = some (.slice none 0 0) := by rw [World.cell?_setCell_other _ _ _ _ (by intro e; injection e with e; omega)]; exact qt
  have BM2 : w2.heap[go]? = some (.cells (marr.setIfInBounds 0 (.int .i8 2)) 47 (0, 0)) := by rw [hw2]; exact blk_set BM1.out 0 _
  have BM3 := Aside0.mk (blk_far BM2 (p := ⟨ge, 0, none⟩) (by show go ≠ ge; omega) .nilIface)
  clear hw2 qt HT1 hlt hlo hge BM2
  go_wp2_with fail
  refine (writer_any _ _).mono ?_
  rintro e w3 ⟨rfl, rfl⟩
  obtain ⟨W, hW⟩ : ∃ W, w2.setCell ⟨ge, 0, none⟩ .nilIface = W := ⟨_, rfl⟩
  rw [hW] at BE3 HB3 qt3 BM3
  have q3 := (blk_cell BE3.out 0).trans (show _ = some Value.nilIface from rfl)
  have f3 := blk_frozen BE3.out 0
  go_wp2_with fail
  refine (isSorted_nil _).mono ?_
  rintro e w4 ⟨rfl, rfl⟩
  go_wp2_with fail
  go_loopg [32] 1 (fun kq v32 w' => v32 = .int .i64 0 ∧ Aside0 (kq = 1) ∧ W = w')
  case atStart => exact ⟨rfl, ⟨rfl⟩, rfl⟩
  case round =>
    obtain ⟨rfl, HK, rfl⟩ := hrel
    cases gk with
    | zero => exact absurd HK.out (by omega)
    | succ k1 =>
      go_wp2_with fail
      refine leaves_cons (f := 18) (args := #[.iface 43 (.pointer (some ⟨go, 0, none⟩)), .pointer (some ⟨ge, 0, none⟩)]) (by simp) (by simp [go_sem]) ?_
      refine (checkClose_deferred ⟨go, 0, none⟩ ⟨ge, 0, none⟩ .returning _).mono ?_
      rintro e u' w'' ⟨rfl, rfl, rfl⟩
      have q5 : (W.setCell ⟨ge, 0, none⟩ .nilIface).cell? ⟨ge, 0, none⟩ = some .nilIface := World.cell?_setCell_same' _ _ _ (by rw [q3]; rfl)
      have hgo := blk_lt HM.out
      have hge := GE.out
      refine ⟨.nilIface, ?_, rfl, HB3.out.setCell (show B ≤ ge by have := HBW.out; omega) _, _, blk_far BM3.out (p := ⟨ge, 0, none⟩) (by show go ≠ ge; omega) .nilIface, ?_⟩
      · simp [results, Tryd.results12, go_sem, q5]
      · simp
end Go.Proofs.YtdelomacpmpgoaaDoor.tree
