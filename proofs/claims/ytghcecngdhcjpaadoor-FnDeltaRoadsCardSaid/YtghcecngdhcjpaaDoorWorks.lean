/- laws.deltaWorks: a small delta is applied. -/
import Derived.Test.YtghcecngdhcjpaaDoorImplPatch
import Derived.Lib.SlBytesConst
namespace Go.Proofs.YtghcecngdhcjpaaDoor.leb
open Go.RowKit Go.Proofs.YtghcecngdhcjpaaDoorW.PrintWords Go.Proofs.YtghcecngdhcjpaaDoorW.PrintLast Go.Proofs.YtghcecngdhcjpaaDoorW.PrintMore
set_option linter.unusedVariables false
set_option maxHeartbeats 2000000
set_option maxRecDepth 100000
def smallBase : List Int := [98, 97, 115, 101]
def smallDelta : List Int := [4, 6, 144, 4, 2, 45, 33]
def smallOut : List Int := [98, 97, 115, 101, 45, 33]
theorem small_sized : Sized smallBase smallDelta [144, 4, 2, 45, 33] 6 :=
  ⟨⟨[4], [6], rfl, by decide, by decide, by decide, by decide, by decide, by decide, rfl, rfl⟩, by decide, by decide, by unfold Bytes; decide⟩
theorem small_patch : Patch smallBase 6 [144, 4, 2, 45, 33] [] (some smallOut) := by
  refine Patch.copy (c := 144) (o := 0) (s := 4) (d1 := [4, 2, 45, 33]) (d2 := [2, 45, 33]) (by decide) (by decide) (by decide) (by decide) (by decide) (by decide) (by decide) ?_
  refine Patch.ins (c := 2) (d := [45, 33]) (by decide) (by decide) (by decide) (by decide) (by decide) ?_
  exact Patch.done
theorem row_C {w : World} {g : Nat} {xs : List Int} {t : TypeId} {fr : Nat × Nat} (h : w.heap[g]? = some (.cells (vals xs).toArray t fr)) (hm : xs.length ≤ 9223372036854775807) : (Kd.int .u8).C w (some ⟨g, 0, none⟩) xs.length xs := by
  refine Kd.C_of_reads (enc := Value.int .u8) (d := (0 : Int)) (h1 := fun _ => rfl) ⟨rfl, hm, fun h0 => ⟨_, rfl, fun j hj => ?_⟩⟩
  rw [Lib.addr_add, Nat.zero_add, Lib.cell_of_heap h]
  simp [vals, hj]
theorem works_any (w : World) (e2 : Value) (ao az : Addr) (co cz : Nat) (hE : Env w e2 ao az co cz) :
    Calls Tryd.prog 14 #[] w fun e w' => e = .returned (.bool true) ∧ Below w.heap.size w w' := by
  have HE := Aside0.mk hE
  clear hE
  have hcv := Lib.run_convert_bytes_const (P := Tryd.prog) w 25 5 #[.int .u8 98, .int .u8 97, .int .u8 115, .int .u8 101] 4 4 Tryd.underlying25 Tryd.underlying5
  go_enter Tryd.func14, Tryd.ntmps14
  go_wp2_with fail
  have hb1 : Below w.heap.size w ((w.alloc (.cells #[.int .u8 98, .int .u8 97, .int .u8 115, .int .u8 101] 5 (4, 5))).alloc (.cells #[.int .u8 4, .int .u8 6, .int .u8 144, .int .u8 4, .int .u8 2, .int .u8 45, .int .u8 33] 5 (0, 0))) := below_alloc (below_alloc (Below.refl _ _) _) _
  have hz : (w.alloc (.cells #[.int .u8 98, .int .u8 97, .int .u8 115, .int .u8 101] 5 (4, 5))).heap.size = w.heap.size + 1 := by simp
  refine (impl_any (some ⟨w.heap.size, 0, none⟩) (some ⟨w.heap.size + 1, 0, none⟩) 4 7 smallBase smallDelta _ _ _ _
    (row_C (t := 5) (fr := (4, 5)) (((below_alloc (Below.refl _ _) _).block w.heap.size (by simp)).trans (blk_new w _)) (by decide)) (by decide) (row_C (t := 5) (fr := (0, 0)) (by rw [← hz]; exact blk_new _ _) (by decide)) (by decide) (by decide) (by decide) e2 ao az co cz (HE.out.below hb1) small_sized (by decide) small_patch).mono ?_
  rintro e w3 ⟨⟨v, rfl, hR⟩, hb3⟩
  obtain ⟨A, c, rfl⟩ := Kd.R_slice hR
  obtain ⟨_, hc, hC⟩ := Kd.R_reads' hR
  have hcs := Kd.C_string (P := Tryd.prog) (A := A) (c := c) Tryd.underlying25 Tryd.underlying5 Tryd.underlying9 hC
  have hstr : strOfNums smallOut = ⟨#[98, 97, 115, 101, 45, 33]⟩ := by rfl
  rw [hstr] at hcs
  have HB3 := Aside0.mk (below_step hb1 hb3)
  clear hR hC hb1 hb3 hcv
  go_wp2
  go_ret
  exact ⟨rfl, HB3.out⟩
end Go.Proofs.YtghcecngdhcjpaaDoor.leb
