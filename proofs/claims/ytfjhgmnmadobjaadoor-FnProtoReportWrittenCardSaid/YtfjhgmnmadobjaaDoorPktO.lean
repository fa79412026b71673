/- Packet lines: spec.Line gives a row of its own. -/
import Derived.Test.YtfjhgmnmadobjaaDoorPktH
namespace Go.Proofs.YtfjhgmnmadobjaaDoor.pkt
open Go.RowKit Go.Proofs.YtfjhgmnmadobjaaDoorW.PrintWords Go.Proofs.YtfjhgmnmadobjaaDoorW.PrintLast Go.Proofs.YtfjhgmnmadobjaaDoorW.PrintMore Go.Proofs.YtfjhgmnmadobjaaDoor.PFnProtoFirstWritten
set_option linter.unusedVariables false
set_option linter.unusedSimpArgs false
set_option maxHeartbeats 2000000
set_option maxRecDepth 100000
theorem line_own (w : World) (A : Option Addr) (c : Nat) (p : List Int) (hC : (Kd.int .u8).C w A p.length p) (hc : p.length ≤ c) (hl : p.length ≤ 65516) (hp : p ≠ []) :
    Calls Tryd.prog 19 #[.slice A p.length c] w fun e w' => ∃ v, e = .returned v ∧ Kd.R (Kd.int .u8) 5 w' w.heap.size (fun _ => True) v (pline p) ∧ Below w.heap.size w w' := by
  have hp0 : 0 < p.length := by
    cases p with
    | nil => exact absurd rfl hp
    | cons a r => simp
  have hpl : pline p = hexs ((p.length : Int) + 4) ++ p := by unfold pline; rw [if_neg hp]
  rw [hpl]
  have HH := fun W : World => spec_Hex4.calls 5 ((p.length : Int) + 4) _ W (hex_law _ (by omega) (by omega))
  have HC := Aside0.mk hC
  have c0 : ((p.length : Int) == 0) = false := by rw [beq_eq_false_iff_ne]; omega
  have c1 : (p.length == 0) = false := by rw [beq_eq_false_iff_ne]; omega
  have w1 : wrap64 ((p.length : Int) + 4) = (p.length : Int) + 4 := w64 (by omega) (by omega)
  have HQ := Aside0.mk hpl
  obtain ⟨hx, hhx⟩ : ∃ hx, hexs ((p.length : Int) + 4) = hx := ⟨_, rfl⟩
  have hx4 : hx.length = 4 := by rw [← hhx]; rfl
  rw [hhx]
  simp only [hhx] at HH
  clear hC hp hpl hhx
  go_enter Tryd.func19, Tryd.ntmps19
  go_wp2_with fail
  refine (HH _).mono ?_
  rintro e w2 ⟨v, rfl, hR, hb⟩
  have HR := Aside0.mk hR
  have HB := Aside0.mk hb
  clear HH hR hb
  go_wp2_with (first | ((with_reducible refine gate_builtin (b := .append) (xs := #[.tmp 11, .tmp 12]) rfl ?_); at_builtin; go_must (refine Kd.R_append_row (Value.int .u8) 0 (w0 := w) w.heap.size rfl (.tmp 11) (.tmp 12) 26 5 (.int .u8 0) 1 rfl Tryd.underlying26 info5 rfl (by decide) v hx p A p.length c (fun _ => True) rfl rfl (fun _ _ => trivial) HR.out (Kd.C_below HC.out HB.out) HB.out HB.out.size (by omega) ?_); intro v4 w4 hR4 hB4 _ _; go_must (have HR4 := Aside0.mk hR4)) | fail)
  go_ret
  exact ⟨v4, rfl, HR4.out, hB4⟩
end Go.Proofs.YtfjhgmnmadobjaaDoor.pkt
