/- A pattern of a folder takes nothing that does not stand in this folder: for all patterns, folders, paths and flags FnIgnoreElsewhere answers true, and what came in reads as it did. No condition of its own. -/
import Derived.Test.YtbiflpbajgafaaaClose
import Derived.Test.YtbiflpbajgafaaaOpens
import Derived.Test.YtbiflpbajgafaaaIgnM
namespace Go.Proofs.Ytbiflpbajgafaaa.fnIgnoreElsewhere
open Go.ChangeShapes Go.WideShapes Go.ChangeAt Go.RowKit
open Go.Proofs.YtbiflpbajgafaaaW.PrintWords
set_option linter.unusedVariables false
set_option maxHeartbeats 400000
set_option maxRecDepth 100000
open Go.ChangeMaps (open_string shut_string)
theorem own : ownKnob Try.prog.godebug = none := by kernel_rfl
theorem laidOut : laidOutB Try.prog = true := by kernel_rfl
theorem lifted (os : Os) (started : os.Started) (H : Type) (enc : TypeId × Value → H) :
    ReturnsInHanded {} Try.checked os 4 .any (Rows.fnIgnoreElsewhereSpec.pre6 enc Try.prog Try.f4 Rows.fnIgnoreElsewhereRow.domain false) (Rows.fnIgnoreElsewhereSpec.post enc Try.prog Try.f4 false true false false) := by
  refine returnsInHanded_of_change_sized (C := Try.checked) own started (by kernel_rfl) Try.func4
    (ChangeSpec.witness6 (enc := enc) (C := Try.checked) false ⟨#[], #[.slice none 0 0, .bool false, .slice none 0 0, .slice none 0 0, .bool false], []⟩ 8 (by kernel_rfl) (by kernel_rfl) (by kernel_rfl) (by kernel_rfl)) ?_
  intro W base args ds gs before hval0 hW hcnd hsz0 _
  have hval : ∀ (j : Nat) t v, Try.f4.params[j]? = some t → args[j]? = some v → Value.okWide Try.prog W .any base t v := hval0
  have hW' := hW
  obtain ⟨p, q, hA0, hV, rfl, hfz, hnd⟩ := hW
  have hA : DataW.TrodAll enc Try.prog W 0 (fun _ => true) true Try.f4.params.toList args.toList ds p := hA0
  rw [Try.params4] at hA hval
  obtain ⟨v0, vs0, d0, ds0, p0, q0, hargs, rfl, rfl, h0, r0⟩ := trodAll_cons hA
  obtain ⟨v1, vs1, d1, ds1, p1, q1, rfl, rfl, rfl, h1, r1⟩ := trodAll_cons r0
  obtain ⟨v2, vs2, d2, ds2, p2, q2, rfl, rfl, rfl, h2, r2⟩ := trodAll_cons r1
  obtain ⟨v3, vs3, d3, ds3, p3, q3, rfl, rfl, rfl, h3, r3⟩ := trodAll_cons r2
  obtain ⟨v4, vs4, d4, ds4, p4, q4, rfl, rfl, rfl, h4, r4⟩ := trodAll_cons r3
  obtain ⟨rfl, rfl, rfl⟩ := trodAll_nil r4
  obtain rfl : args = #[v0, v1, v2, v3, v4] := by cases args; simp_all
  obtain ⟨rfl, rfl⟩ := trodVars_none hV
  obtain ⟨A0, n0, c0, rfl⟩ := okWide_slice Try.underlying22 (hval 0 22 v0 rfl rfl)
  obtain ⟨x0, hx0, hc0, hC0, hg0, hm0⟩ := opens.slice_arg (d := Kd.string) Try.underlying22 (by kernel_rfl) (opens.string_ Try.underlying9) rfl h0
  subst hx0
  obtain ⟨a1, rfl, rfl, rfl⟩ := open_bool Try.underlying4 (hval 1 4 v1 rfl rfl) h1
  obtain ⟨A2, n2, c2, rfl⟩ := okWide_slice Try.underlying22 (hval 2 22 v2 rfl rfl)
  obtain ⟨x2, hx2, hc2, hC2, hg2, hm2⟩ := opens.slice_arg (d := Kd.string) Try.underlying22 (by kernel_rfl) (opens.string_ Try.underlying9) rfl h2
  subst hx2
  obtain ⟨A3, n3, c3, rfl⟩ := okWide_slice Try.underlying22 (hval 3 22 v3 rfl rfl)
  obtain ⟨x3, hx3, hc3, hC3, hg3, hm3⟩ := opens.slice_arg (d := Kd.string) Try.underlying22 (by kernel_rfl) (opens.string_ Try.underlying9) rfl h3
  subst hx3
  obtain ⟨a4, rfl, rfl, rfl⟩ := open_bool Try.underlying4 (hval 4 4 v4 rfl rfl) h4
  refine (ign.else_law W A0 A2 A3 c0 c2 c3 x0 x2 x3 a1 a4 hC0 hc0 hC2 hc2 hC3 hc3).mono fun e W' ⟨he, bel⟩ => ?_
  exact ⟨_, he, close.law_post laidOut (by kernel_rfl) (by kernel_rfl) rfl Try.underlying4 hW' bel rfl rfl rfl⟩
theorem proved : Rows.FnIgnoreElsewhereSaid :=
  OpenClaim.holds_of_wide 4 Try.f4 rfl rfl rfl rfl rfl rfl rfl ⟨rfl, rfl, rfl, rfl, rfl⟩ rfl rfl rfl rfl rfl (by kernel_rfl) Try.func4 (by kernel_rfl)
    (of_decide_eq_true (by kernel_rfl)) (by unfold Func.isWrapper; first | (rw [if_pos (by decide +kernel)]; kernel_rfl) | (rw [if_neg (by decide +kernel)]; exact ⟨rfl, rfl⟩))
    (fun os started H enc _ => lifted os started H enc)
#print axioms proved
end Go.Proofs.Ytbiflpbajgafaaa.fnIgnoreElsewhere
