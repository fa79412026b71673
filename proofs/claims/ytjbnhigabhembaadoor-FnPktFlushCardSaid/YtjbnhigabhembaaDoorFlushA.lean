/- Packet lines: an encoder over a bytes.Buffer: Flush; impl.WriteFlush. -/
import Derived.Test.YtjbnhigabhembaaDoorPktI
import Derived.Test.YtjbnhigabhembaaDoorShelf
namespace Go.Proofs.YtjbnhigabhembaaDoor.pkt
open Go.RowKit Go.Proofs.YtjbnhigabhembaaDoorW.PrintWords Go.Proofs.YtjbnhigabhembaaDoorW.PrintLast Go.Proofs.YtjbnhigabhembaaDoorW.PrintMore Go.Proofs.YtjbnhigabhembaaDoor.PFnPktFlush
set_option linter.unusedVariables false
set_option linter.unusedSimpArgs false
set_option maxHeartbeats 2000000
set_option maxRecDepth 100000
/-- The flush line's bytes. -/
def fl : List Int := [48, 48, 48, 48]
theorem flushPkt_any (w : World) : Calls Tryd.prog 27 #[] w fun e w' => ∃ gl, w.heap.size ≤ gl ∧ e = .returned (.slice (some ⟨gl, 0, none⟩) 4 4) ∧ w'.heap[gl]? = some (.cells #[.int .u8 48, .int .u8 48, .int .u8 48, .int .u8 48] 5 (0, 0)) ∧ Below w.heap.size w w' := by
  go_enter Tryd.func27, Tryd.ntmps27
  go_wp2
  go_ret
  exact ⟨w.heap.size, Nat.le_refl _, rfl, blk_new w _, below_alloc (Below.refl _ _) _⟩
theorem newEncoder_any (w : World) (gb : Nat) : Calls Tryd.prog 18 #[.iface 46 (.pointer (some ⟨gb, 0, none⟩))] w fun e w' => ∃ ge, w.heap.size ≤ ge ∧ e = .returned (.pointer (some ⟨ge, 0, none⟩)) ∧ w'.heap[ge]? = some (.cells #[.iface 46 (.pointer (some ⟨gb, 0, none⟩))] 65 (0, 0)) ∧ Below w.heap.size w w' := by
  go_enter Tryd.func18, Tryd.ntmps18
  go_wp2
  go_ret
  exact ⟨w.heap.size, Nat.le_refl _, rfl, blk_new w _, below_alloc (Below.refl _ _) _⟩
theorem buf_nil_ahead (a : Addr) (w : World) : (nilAhead 230 46 (.pointer (some a)) "Write").run Tryd.prog w = .ok (some false) w := by kernel_rfl
theorem buf_method (a : Addr) (w : World) : (method 230 46 (.pointer (some a)) "Write").run Tryd.prog w = .ok (66, .pointer (some a)) w := by kernel_rfl
theorem isBuffer_below {B b : Nat} {bs : List Value} {w w' : World} (h : Lib.IsBuffer 43 5 B b bs w) (hb : Below w.heap.size w w') : Lib.IsBuffer 43 5 B b bs w' := by
  obtain ⟨h1, v, lr, h2, h3, h4⟩ := h
  refine ⟨h1, v, lr, blk_below h2 hb, ⟨h3.1, ?_⟩, h4⟩
  rcases h3.2 with h | ⟨g, cap, cur, e1, e2, e3, e4⟩
  · exact .inl h
  · exact .inr ⟨g, cap, cur, e1, e2, blk_below e3 hb, e4⟩
theorem four_src {w : World} {gl : Nat} (h : w.heap[gl]? = some (.cells #[.int .u8 48, .int .u8 48, .int .u8 48, .int .u8 48] 5 (0, 0))) : ∀ j v, (bv fl)[j]? = some v → w.cell? ((⟨gl, 0, none⟩ : Addr).add j) = some v := by
  intro j v hv
  rw [Lib.addr_add, Nat.zero_add, blk_cell h]
  match j, hv with
  | 0, hv => cases hv; rfl
  | 1, hv => cases hv; rfl
  | 2, hv => cases hv; rfl
  | 3, hv => cases hv; rfl
theorem flush_any (w : World) (B gb ge : Nat) (hI : Lib.IsBuffer 43 5 B gb [] w) (hB : B ≤ w.heap.size) (hE : w.heap[ge]? = some (.cells #[.iface 46 (.pointer (some ⟨gb, 0, none⟩))] 65 (0, 0))) :
    Calls Tryd.prog 19 #[.pointer (some ⟨ge, 0, none⟩)] w fun e w' => e = .returned .nilIface ∧ Lib.IsBuffer 43 5 B gb (bv fl) w' ∧ Below B w w' := by
  have HI := Aside0.mk hI
  have HE := Aside0.mk hE
  have hn1 := buf_nil_ahead ⟨gb, 0, none⟩
  have hn2 := buf_method ⟨gb, 0, none⟩
  have hc := (blk_cell HE.out 0).trans (show _ = some (Value.iface 46 (.pointer (some ⟨gb, 0, none⟩))) from rfl)
  clear hI hE
  go_enter Tryd.func19, Tryd.ntmps19
  go_wp2_with fail
  go_region_with (first | (go_at_call 27; refine (flushPkt_any _).mono ?_; rintro e w2 ⟨gl, hgl, rfl, hbl, hb2⟩; have HGL := Aside0.mk (show w.heap.size ≤ gl from hgl); have HBL := Aside0.mk hbl; have HB2 := Aside0.mk (show Below w.heap.size w w2 from below_step (below_drew1 (Below.refl _ _)) hb2); have hc2 := (blk_cell (blk_below HE.out HB2.out) 0).trans (show _ = some (Value.iface 46 (.pointer (some ⟨gb, 0, none⟩))) from rfl); clear hgl hbl hb2) | (go_at_call 66; refine (Tryd.Buffer_Write_any B gb [] (bv fl) ⟨gl, 0, none⟩ 4 4 w2 (isBuffer_below HI.out HB2.out) (Nat.le_trans hB HB2.out.size) (fun v hv => by cases hv) rfl (by have := HI.out.lt; have := HGL.out; show gl ≠ gb; omega) (four_src HBL.out) (bv_one fl) (by decide)).mono ?_; rintro e w3 ⟨rfl, hi3, hb3, _⟩; have HI3 := Aside0.mk hi3; have HB3 := Aside0.mk hb3; clear hi3 hb3))
  all_goals go_wp2_with fail
  all_goals go_ret
  all_goals exact ⟨rfl, HI3.out, (HB2.out.mono hB).trans HB3.out⟩
theorem writeFlush_any (w : World) : Calls Tryd.prog 8 #[] w fun e w' => ∃ v, e = .returned v ∧ (Kd.int .u8).R 5 w' w.heap.size (fun _ => True) v fl ∧ Below w.heap.size w w' := by
  go_enter Tryd.func8, Tryd.ntmps8
  go_wp2_with (first | ((with_reducible refine gate_dst (N := 1) rfl ?_); refine box_event ?hg (N := 1) ?hd (cs := #[.slice none 0 0, .int .i64 0, .int .i8 0]) (t := 43) ?hr ?_; (case hd => rfl); (case hg => rfl); (case hr => first | (go_simp; done) | (go_simp; rfl)); intro gb hg1 w1 hbox hb; have HBX := Aside0.mk hbox; have HB1 := Aside0.mk (show Below w.heap.size w w1 from hb); have HG := Aside0.mk (show w.heap.size ≤ gb by rw [hg1]; exact Nat.le_refl _); clear hbox hb hg1) | fail)
  have HI1 := Aside0.mk (show Lib.IsBuffer 43 5 w.heap.size gb [] w1 from ⟨HG.out, .slice none 0 0, 0, HBX.out, World.ownsRow_nil _ _ _ _, by simp [Value.ownBlock]⟩)
  refine (newEncoder_any w1 gb).mono ?_
  rintro e w2 ⟨ge, hge, rfl, hbe, hb2⟩
  have HBE := Aside0.mk hbe
  have HI2 := Aside0.mk (isBuffer_below HI1.out hb2)
  have HB2 := Aside0.mk (below_step HB1.out hb2)
  clear hge hbe hb2
  have HFL := Aside0.mk (flush_any w2 w.heap.size gb ge HI2.out HB2.out.size HBE.out)
  go_wp2_with fail
  refine HFL.out.mono ?_
  rintro e w3 ⟨rfl, hi3, hb3⟩
  have HI3 := Aside0.mk hi3
  have HB3 := Aside0.mk (show Below w.heap.size w w3 from HB2.out.trans hb3)
  have HBY := Aside0.mk (Tryd.Buffer_Bytes w.heap.size gb (bv fl) w3 hi3)
  clear HFL hi3 hb3
  go_wp2_with fail
  refine HBY.out.mono ?_
  rintro e w4 ⟨v, rfl, hown, ⟨n4, rfl⟩⟩
  have HOW := Aside0.mk hown
  obtain ⟨A4, n4', c4, rfl⟩ : ∃ A n c, v = .slice A n c := by
    rcases hown.2 with ⟨rfl, _⟩ | ⟨g, cap, cur, rfl, _⟩
    · exact ⟨none, 0, 0, rfl⟩
    · exact ⟨_, _, _, rfl⟩
  clear HBY hown
  go_wp2_with fail
  go_ret
  exact ⟨_, rfl, Kd.R_of_own (enc := Value.int .u8) (h1 := fun _ => rfl) (xs := fl) HOW.out (fun _ _ => trivial), pw_below_drewN HB3.out _⟩
end Go.Proofs.YtjbnhigabhembaaDoor.pkt
