/- Trees: what is read of an object that holds nothing. -/
import Derived.Test.YtdelomacpmpgoaaDoorTreeD
import Derived.Laws.MakeOwn
import Derived.Laws.OwnMore
namespace Go.Proofs.YtdelomacpmpgoaaDoor.tree
open Go.RowKit Go.Proofs.YtdelomacpmpgoaaDoorW.PrintWords Go.Proofs.YtdelomacpmpgoaaDoorW.PrintLast Go.Proofs.YtdelomacpmpgoaaDoorW.PrintMore Go.Proofs.YtdelomacpmpgoaaDoor.PFnTreeUnsorted Go.Proofs.YtdelomacpmpgoaaDoor.ord
set_option linter.unusedVariables false
set_option linter.unusedSimpArgs false
set_option maxHeartbeats 2000000
set_option maxRecDepth 100000
theorem info5 : (Tryd.prog.info? 5).map (fun i => (i.zero, i.size, i.bytes)) = some (some (.int .u8 0), 1, 1) := by kernel_rfl
def Rd (w : World) (gr : Nat) : Prop := w.heap[gr]? = some (.cells #[.slice none 0 0, .int .i64 0, .int .i64 (-1)] 149 (0, 0))
def Eof (w : World) (ae : Addr) : Prop := w.cell? ⟨1, 0, none⟩ = some (.iface 91 (.pointer (some ae)))
theorem Eof.below {w w' : World} {ae : Addr} (h : Eof w ae) (hb : Below w.heap.size w w') : Eof w' ae := (hb.cell (World.block_lt_of_cell? w _ h)).trans h
theorem newReader_nil (w : World) : Calls Tryd.prog 67 #[.slice none 0 0] w fun e w' => ∃ gr, w.heap.size ≤ gr ∧ e = .returned (.pointer (some ⟨gr, 0, none⟩)) ∧ Rd w' gr ∧ Below w.heap.size w w' := by
  go_enter Tryd.func67, Tryd.ntmps67
  go_wp2
  go_ret
  exact ⟨w.heap.size, Nat.le_refl _, rfl, blk_new w _, below_alloc (Below.refl _ _) _⟩
theorem reader_nil (w : World) (go : Nat) (marr : Array Value) (hM : w.heap[go]? = some (.cells marr 47 (0, 0))) (hc : marr[21]? = some (.slice none 0 0)) :
    Calls Tryd.prog 62 #[.pointer (some ⟨go, 0, none⟩)] w fun e w' => ∃ gr, e = .returned (.tuple #[.iface 147 (.agg #[.pointer (some ⟨gr, 0, none⟩)]), .nilIface]) ∧ Rd w' gr ∧ Below w.heap.size w w' := by
  have q0 := (blk_cell hM 21).trans hc
  clear hM hc
  go_enter Tryd.func62, Tryd.ntmps62
  go_wp2_with fail
  refine (newReader_nil _).mono ?_
  rintro e w1 ⟨gr, hgr, rfl, hR, hb⟩
  have HR := Aside0.mk hR
  have HB := Aside0.mk hb
  clear hgr hR hb
  go_wp2_with fail
  go_ret2
  exact ⟨gr, rfl, HR.out, HB.out⟩
theorem read_eof (w : World) (gr : Nat) (ae : Addr) (A : Option Addr) (n c : Nat) (hR : Rd w gr) (hE : Eof w ae) :
    Calls Tryd.prog 81 #[.pointer (some ⟨gr, 0, none⟩), .slice A n c] w fun e w' => e = .returned (.tuple #[.int .i64 0, .iface 91 (.pointer (some ae))]) ∧ Below w.heap.size w w' := by
  have q0 := (blk_cell hR 0).trans (show _ = some (Value.slice none 0 0) from rfl)
  have q1 := (blk_cell hR 1).trans (show _ = some (Value.int .i64 0) from rfl)
  unfold Eof at hE
  clear hR
  go_enter Tryd.func81, Tryd.ntmps81
  go_wp2_with fail
  go_quiet (fail)
  go_wp2_with fail
  go_quiet (fail)
  go_wp2_with fail
  go_ret2
  exact ⟨rfl, by first | exact pw_below_drewN (Below.refl _ _) _ | exact pw_below_drewN (pw_below_drewN (Below.refl _ _) _) _⟩
theorem nc_nil (a : Addr) (m : String) (hm : m = "Close" ∨ m = "Read") (w : World) : (nilAhead 266 147 (.agg #[.pointer (some a)]) m).run Tryd.prog w = .ok (some false) w := by
  rcases hm with rfl | rfl <;> kernel_rfl
theorem nc_read (a : Addr) (w : World) : (method 266 147 (.agg #[.pointer (some a)]) "Read").run Tryd.prog w = .ok (81, .pointer (some a)) w := by kernel_rfl
theorem nc_close (a : Addr) (w : World) : (method 266 147 (.agg #[.pointer (some a)]) "Close").run Tryd.prog w = .ok (83, .agg #[.pointer (some a)]) w := by kernel_rfl
theorem ncClose_any (a : Addr) (w : World) : Calls Tryd.prog 83 #[.agg #[.pointer (some a)]] w fun e w' => e = .returned .nilIface ∧ Below w.heap.size w w' := by
  go_enter Tryd.func83, Tryd.ntmps83
  go_wp2
  go_ret
  exact ⟨rfl, below_alloc (Below.refl _ _) _⟩
theorem make512 (w : World) : ∃ W1, (Instr.makeSlice 25 (.int .i64 512) (.int .i64 512)).run Tryd.prog w = .ok (.slice (some ⟨w.heap.size, 0, none⟩) 512 512) W1 ∧ Below w.heap.size w W1 := by
  obtain ⟨i0, hi, hzz⟩ := Option.map_eq_some_iff.1 info5
  simp only [Prod.mk.injEq] at hzz
  obtain ⟨hz0, hz1, hz2⟩ := hzz
  exact ⟨_, run_makeSlice w 25 5 i0 _ Tryd.underlying25 hi hz0 .i64 .i64 512 512 (by decide) (by decide) (by rw [hz1]; decide) (by rw [hz2]; decide) (by decide), below_alloc (Below.refl _ _) _⟩
theorem err_info : (∃ i : TypeInfo, Tryd.prog.info? 91 = some i ∧ i.comparable = true) ∧ ∃ j : TypeInfo, Tryd.prog.info? 93 = some j ∧ j.size ≠ 0 := by
  refine ⟨?_, ?_⟩
  · obtain ⟨i, hi⟩ := Option.isSome_iff_exists.1 (show (Tryd.prog.info? 91).isSome = true by kernel_rfl)
    have h : (Tryd.prog.info? 91).map (·.comparable) = some true := by kernel_rfl
    rw [hi] at h
    exact ⟨i, hi, by simpa using h⟩
  · obtain ⟨j, hj⟩ := Option.isSome_iff_exists.1 (show (Tryd.prog.info? 93).isSome = true by kernel_rfl)
    have h : (Tryd.prog.info? 93).map (·.size) = some 1 := by kernel_rfl
    rw [hj] at h
    exact ⟨j, hj, by have : j.size = 1 := by simpa using h
                     omega⟩
theorem same_err (a : Addr) (w : World) : (binOp .eql 49 (.iface 91 (.pointer (some a))) (.iface 91 (.pointer (some a)))).run Tryd.prog w = .ok (.bool true) w := by
  obtain ⟨⟨i, hi, hc⟩, j, hj, _⟩ := err_info
  exact run_eql_iface_ptr_same w a Tryd.underlying49 Tryd.underlying91 hi hc hj
theorem readAll_nil (w : World) (gr : Nat) (ae : Addr) (hR : Rd w gr) (hE : Eof w ae) :
    Calls Tryd.prog 24 #[.iface 147 (.agg #[.pointer (some ⟨gr, 0, none⟩)]), .int .i64 512] w fun e w' => ∃ v, e = .returned (.tuple #[v, .bool true]) ∧ Below w.heap.size w w' := by
  obtain ⟨W1, hmk, hb1⟩ := make512 w
  have HB1 := Aside0.mk hb1
  have HR1 := Aside0.mk (show Rd W1 gr from blk_below hR hb1)
  have HE1 := Aside0.mk (Eof.below hE hb1)
  have hn1 := nc_nil ⟨gr, 0, none⟩ "Read" (.inr rfl)
  have hm1 := nc_read ⟨gr, 0, none⟩
  have hmx : max (1 : Int) 512 = 512 := by decide
  have hse := same_err ae
  clear hR hE hb1
  go_enter Tryd.func24, Tryd.ntmps24
  go_wp2_with fail
  go_loopg [6] 1 (fun kq v6 w' => v6 = .slice none 0 0 ∧ Aside0 (kq = 1) ∧ W1 = w')
  case atStart => exact ⟨rfl, ⟨rfl⟩, rfl⟩
  case round =>
    obtain ⟨rfl, HK, rfl⟩ := hrel
    cases gk with
    | zero => exact absurd HK.out (by omega)
    | succ k1 =>
      go_wp2_with fail
      refine (read_eof W1 gr ae _ _ _ HR1.out HE1.out).mono ?_
      rintro e w2 ⟨rfl, hb2⟩
      have HB2 := Aside0.mk (below_step HB1.out hb2)
      have hE2 : w2.cell? ⟨1, 0, none⟩ = some (.iface 91 (.pointer (some ae))) := Eof.below HE1.out hb2
      clear hb2
      go_wp2_with fail
      go_quiet (fail)
      go_wp2_with fail
      go_ret2
      exact ⟨_, rfl, pw_below_drewN HB2.out _⟩
end Go.Proofs.YtdelomacpmpgoaaDoor.tree
