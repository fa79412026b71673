/- Revisions: io.LimitedReader.Read over a bytes.Buffer; bufio.Reader.fill over it. -/
import Derived.Test.YtiibeefadgmicaaDoorRevA
namespace Go.Proofs.YtiibeefadgmicaaDoor.rev
open Go.RowKit Go.Proofs.YtiibeefadgmicaaDoorW.PrintWords Go.Proofs.YtiibeefadgmicaaDoorW.PrintLast Go.Proofs.YtiibeefadgmicaaDoorW.PrintMore Go.Proofs.YtiibeefadgmicaaDoor.PFnRevSteps
set_option linter.unusedVariables false
set_option linter.unusedSimpArgs false
set_option maxHeartbeats 2000000
set_option maxRecDepth 100000
theorem bu_nil (a : Addr) (w : World) : (nilAhead 307 50 (.pointer (some a)) "Read").run Tryd.prog w = .ok (some false) w := by kernel_rfl
theorem bu_read (a : Addr) (w : World) : (method 307 50 (.pointer (some a)) "Read").run Tryd.prog w = .ok (103, .pointer (some a)) w := by kernel_rfl
theorem li_nil (a : Addr) (w : World) : (nilAhead 307 124 (.pointer (some a)) "Read").run Tryd.prog w = .ok (some false) w := by kernel_rfl
theorem li_read (a : Addr) (w : World) : (method 307 124 (.pointer (some a)) "Read").run Tryd.prog w = .ok (111, .pointer (some a)) w := by kernel_rfl
/-- The cells of an io.LimitedReader. -/
def liC (gu : Nat) (N : Int) : Array Value := #[.iface 50 (.pointer (some ⟨gu, 0, none⟩)), .int .i64 N]
theorem lim_any (w : World) (gl gu gb k : Nat) (N m : Int) (v : Value) (tq : Value → Prop) (hN0 : 4096 ≤ N) (hN1 : N ≤ 131072) (hk : k ≤ 4096) (hm0 : 0 ≤ m) (hm1 : m ≤ 4096) (hv : v = .nilIface ∨ ∃ τ u, v = .iface τ u) (hL : w.heap[gl]? = some (.cells (liC gu N) 126 (0, 0))) (hlu : gl ≠ gu) (hlb : gl ≠ gb) (Q : World → Prop)
    (hR : Calls Tryd.prog 103 #[.pointer (some ⟨gu, 0, none⟩), .slice (some ⟨gb, 0, none⟩) k 4096] w fun e w' => e = .returned (.tuple #[.int .i64 m, v]) ∧ Off (In [gu, gb]) w w' ∧ Q w') :
    Calls Tryd.prog 111 #[.pointer (some ⟨gl, 0, none⟩), .slice (some ⟨gb, 0, none⟩) k 4096] w fun e w' => e = .returned (.tuple #[.int .i64 m, v]) ∧ Off (In [gu, gb, gl]) w w' ∧ ∃ w2 : World, Q w2 ∧ (∀ j, j ≠ gl → w'.heap[j]? = w2.heap[j]?) ∧ w'.heap[gl]? = some (.cells (liC gu (N - m)) 126 (0, 0)) := by
  have HL := Aside0.mk hL
  have HR := Aside0.mk hR
  have HX := Aside0.mk (show ¬ In [gu, gb] gl by simp [In]; exact ⟨hlu, hlb⟩)
  have q0 := (blk_cell hL 0).trans (show _ = some (Value.iface 50 (.pointer (some ⟨gu, 0, none⟩))) from rfl)
  have q1 := (blk_cell hL 1).trans (show _ = some (Value.int .i64 N) from rfl)
  have c1 : decide (N ≤ 0) = false := decide_eq_false (by omega)
  have c2 : decide (N < (k : Int)) = false := decide_eq_false (by omega)
  have hn1 := bu_nil ⟨gu, 0, none⟩
  have hn2 := bu_read ⟨gu, 0, none⟩
  clear hL hR hlu hlb
  rcases hv with rfl | ⟨τ, u, rfl⟩
  all_goals go_enter Tryd.func111, Tryd.ntmps111
  all_goals go_wp2_with fail
  all_goals refine HR.out.mono ?_
  all_goals rintro e w2 ⟨rfl, hb2, hq2⟩
  all_goals have HB2 := Aside0.mk hb2
  all_goals have HQ2 := Aside0.mk hq2
  all_goals have HL2 := Aside0.mk (hb2.blk HL.out HX.out)
  all_goals clear hb2 hq2 q0 q1
  all_goals have q1 := (blk_cell HL2.out 1).trans (show _ = some (Value.int .i64 N) from rfl)
  all_goals have f1 := blk_frozen HL2.out 1
  all_goals have w1 : wrap64 (N - m) = N - m := w64 (by omega) (by omega)
  all_goals go_wp2_with fail
  all_goals go_ret2
  all_goals refine ⟨rfl, (HB2.out.mono (fun j hj => by simp only [In, List.mem_cons, List.not_mem_nil, or_false] at hj ⊢; rcases hj with h | h <;> simp [h])).cell (g := gl) (by simp [In]) 1 _, w2, HQ2.out, fun j hj => Below.heap_setCell _ ⟨gl, 1, none⟩ _ j hj, blk_put HL2.out 1 _ rfl⟩
end Go.Proofs.YtiibeefadgmicaaDoor.rev
