/- For every number m, FnModeFlags answers true: what the code tells of a mode (malformed, a regular file, a file) is what the list of git's modes says. Condition: m is a uint32. -/
import Derived.Test.YtoofbppfbbhliaaRows
import Derived.WalkKit
import Derived.WalkSpells
import Derived.WalkLawsBesides
import Derived.ProofKit
import Derived.OpenShut
import Derived.ChangeOld
import Derived.SizedLaws
namespace Go.Proofs.Ytoofbppfbbhliaa.fnModeFlags
open Go.ChangeShapes Go.WideShapes Go.ChangeAt Go.RowKit
set_option linter.unusedVariables false
set_option maxHeartbeats 1000000
set_option maxRecDepth 100000

/-- What ModeFlags answers. -/
abbrev T (r : Bool × Bool × Bool) : Value := .tuple #[.bool r.1, .bool r.2.1, .bool r.2.2]
theorem k1 (w : World) : Calls Try.prog 5 #[.int .u32 16384] w fun e w' => e = .returned (T (false, false, false)) ∧ w = w' := by
  go_enter Try.func5, Try.ntmps5
  go_wp2
  go_ret3
  exact ⟨rfl, rfl⟩
theorem k2 (w : World) : Calls Try.prog 5 #[.int .u32 33188] w fun e w' => e = .returned (T (false, true, true)) ∧ w = w' := by
  go_enter Try.func5, Try.ntmps5
  go_wp2
  go_ret3
  exact ⟨rfl, rfl⟩
theorem k3 (w : World) : Calls Try.prog 5 #[.int .u32 33204] w fun e w' => e = .returned (T (false, true, true)) ∧ w = w' := by
  go_enter Try.func5, Try.ntmps5
  go_wp2
  go_ret3
  exact ⟨rfl, rfl⟩
theorem k4 (w : World) : Calls Try.prog 5 #[.int .u32 33261] w fun e w' => e = .returned (T (false, false, true)) ∧ w = w' := by
  go_enter Try.func5, Try.ntmps5
  go_wp2
  go_ret3
  exact ⟨rfl, rfl⟩
theorem k5 (w : World) : Calls Try.prog 5 #[.int .u32 40960] w fun e w' => e = .returned (T (false, false, true)) ∧ w = w' := by
  go_enter Try.func5, Try.ntmps5
  go_wp2
  go_ret3
  exact ⟨rfl, rfl⟩
theorem k6 (w : World) : Calls Try.prog 5 #[.int .u32 57344] w fun e w' => e = .returned (T (false, false, false)) ∧ w = w' := by
  go_enter Try.func5, Try.ntmps5
  go_wp2
  go_ret3
  exact ⟨rfl, rfl⟩
theorem k7 (a : Int) (w : World) (n1 : (a == 16384) = false) (m1 : (a != 16384) = true) (n2 : (a == 33188) = false) (m2 : (a != 33188) = true) (n3 : (a == 33204) = false) (m3 : (a != 33204) = true) (n4 : (a == 33261) = false) (m4 : (a != 33261) = true) (n5 : (a == 40960) = false) (m5 : (a != 40960) = true) (n6 : (a == 57344) = false) (m6 : (a != 57344) = true) :
    Calls Try.prog 5 #[.int .u32 a] w fun e w' => e = .returned (T (true, false, false)) ∧ w = w' := by
  go_enter Try.func5, Try.ntmps5
  go_wp2
  go_ret3
  exact ⟨rfl, rfl⟩
theorem law1 (w : World) : Calls Try.prog 3 #[.int .u32 16384] w fun e w' => e = .returned (.bool true) ∧ w = w' := by
  go_enter Try.func3, Try.ntmps3
  go_wp2_with fail
  refine (k1 _).mono ?_
  rintro e w' ⟨rfl, rfl⟩
  go_wp2_with fail
  refine (k2 _).mono ?_
  rintro e w' ⟨rfl, rfl⟩
  go_wp2
  go_ret
  exact ⟨rfl, rfl⟩
theorem law2 (w : World) : Calls Try.prog 3 #[.int .u32 33188] w fun e w' => e = .returned (.bool true) ∧ w = w' := by
  go_enter Try.func3, Try.ntmps3
  go_wp2_with fail
  refine (k2 _).mono ?_
  rintro e w' ⟨rfl, rfl⟩
  go_wp2_with fail
  refine (k2 _).mono ?_
  rintro e w' ⟨rfl, rfl⟩
  go_wp2
  go_ret
  exact ⟨rfl, rfl⟩
theorem law3 (w : World) : Calls Try.prog 3 #[.int .u32 33204] w fun e w' => e = .returned (.bool true) ∧ w = w' := by
  go_enter Try.func3, Try.ntmps3
  go_wp2_with fail
  refine (k3 _).mono ?_
  rintro e w' ⟨rfl, rfl⟩
  go_wp2_with fail
  refine (k2 _).mono ?_
  rintro e w' ⟨rfl, rfl⟩
  go_wp2
  go_ret
  exact ⟨rfl, rfl⟩
theorem law4 (w : World) : Calls Try.prog 3 #[.int .u32 33261] w fun e w' => e = .returned (.bool true) ∧ w = w' := by
  go_enter Try.func3, Try.ntmps3
  go_wp2_with fail
  refine (k4 _).mono ?_
  rintro e w' ⟨rfl, rfl⟩
  go_wp2_with fail
  refine (k2 _).mono ?_
  rintro e w' ⟨rfl, rfl⟩
  go_wp2
  go_ret
  exact ⟨rfl, rfl⟩
theorem law5 (w : World) : Calls Try.prog 3 #[.int .u32 40960] w fun e w' => e = .returned (.bool true) ∧ w = w' := by
  go_enter Try.func3, Try.ntmps3
  go_wp2_with fail
  refine (k5 _).mono ?_
  rintro e w' ⟨rfl, rfl⟩
  go_wp2_with fail
  refine (k2 _).mono ?_
  rintro e w' ⟨rfl, rfl⟩
  go_wp2
  go_ret
  exact ⟨rfl, rfl⟩
theorem law6 (w : World) : Calls Try.prog 3 #[.int .u32 57344] w fun e w' => e = .returned (.bool true) ∧ w = w' := by
  go_enter Try.func3, Try.ntmps3
  go_wp2_with fail
  refine (k6 _).mono ?_
  rintro e w' ⟨rfl, rfl⟩
  go_wp2_with fail
  refine (k2 _).mono ?_
  rintro e w' ⟨rfl, rfl⟩
  go_wp2
  go_ret
  exact ⟨rfl, rfl⟩
theorem law7 (a : Int) (w : World) (n1 : (a == 16384) = false) (m1 : (a != 16384) = true) (n2 : (a == 33188) = false) (m2 : (a != 33188) = true) (n3 : (a == 33204) = false) (m3 : (a != 33204) = true) (n4 : (a == 33261) = false) (m4 : (a != 33261) = true) (n5 : (a == 40960) = false) (m5 : (a != 40960) = true) (n6 : (a == 57344) = false) (m6 : (a != 57344) = true) :
    Calls Try.prog 3 #[.int .u32 a] w fun e w' => e = .returned (.bool true) ∧ w = w' := by
  go_enter Try.func3, Try.ntmps3
  go_wp2_with fail
  refine (k7 _ _ n1 m1 n2 m2 n3 m3 n4 m4 n5 m5 n6 m6).mono ?_
  rintro e w' ⟨rfl, rfl⟩
  go_wp2_with fail
  refine (k2 _).mono ?_
  rintro e w' ⟨rfl, rfl⟩
  go_wp2
  go_ret
  exact ⟨rfl, rfl⟩
theorem law (a : Int) (w : World) : Calls Try.prog 3 #[.int .u32 a] w fun e w' => e = .returned (.bool true) ∧ w = w' := by
  by_cases h1 : a = 16384
  · subst h1; exact law1 w
  by_cases h2 : a = 33188
  · subst h2; exact law2 w
  by_cases h3 : a = 33204
  · subst h3; exact law3 w
  by_cases h4 : a = 33261
  · subst h4; exact law4 w
  by_cases h5 : a = 40960
  · subst h5; exact law5 w
  by_cases h6 : a = 57344
  · subst h6; exact law6 w
  exact law7 a w (beq_eq_false_iff_ne.2 h1) (bne_iff_ne.2 h1) (beq_eq_false_iff_ne.2 h2) (bne_iff_ne.2 h2) (beq_eq_false_iff_ne.2 h3) (bne_iff_ne.2 h3) (beq_eq_false_iff_ne.2 h4) (bne_iff_ne.2 h4) (beq_eq_false_iff_ne.2 h5) (bne_iff_ne.2 h5) (beq_eq_false_iff_ne.2 h6) (bne_iff_ne.2 h6)

theorem own : ownKnob Try.prog.godebug = none := by kernel_rfl
theorem lifted (os : Os) (started : os.Started) (H : Type) (enc : TypeId × Value → H) :
    ReturnsInHanded {} Try.checked os 3 .any (Rows.fnModeFlagsSpec.pre6 enc Try.prog Try.f3 Rows.fnModeFlagsRow.domain false) (Rows.fnModeFlagsSpec.post enc Try.prog Try.f3 false true false false) := by
  refine returnsInHanded_of_change_sized (C := Try.checked) own started (by kernel_rfl) Try.func3
    (ChangeSpec.witness6 (enc := enc) (C := Try.checked) false ⟨#[], #[.int .u32 0], []⟩ 8 (by kernel_rfl) (by kernel_rfl) (by kernel_rfl) (by kernel_rfl)) ?_
  intro W base args ds gs before hval0 hW hcnd hsz0 _
  have hval : ∀ (j : Nat) t v, Try.f3.params[j]? = some t → args[j]? = some v → Value.okWide Try.prog W .any base t v := hval0
  have hW' := hW
  obtain ⟨p, q, hA0, hV, rfl, hfz, hnd⟩ := hW
  have hA : DataW.TrodAll enc Try.prog W 0 (fun _ => true) true Try.f3.params.toList args.toList ds p := hA0
  rw [Try.params3] at hA hval
  obtain ⟨v0, vs0, d0, ds0, p0, q0, hargs, rfl, rfl, h0, r0⟩ := trodAll_cons hA
  obtain ⟨rfl, rfl, rfl⟩ := trodAll_nil r0
  obtain rfl : args = #[v0] := by cases args; simp_all
  obtain ⟨rfl, rfl⟩ := trodVars_none hV
  obtain ⟨a0, rfl, rfl, rfl, w0⟩ := open_int Try.underlying22 (hval 0 22 v0 rfl rfl) h0
  clear hA0 hval0 hsz0
  refine (law a0 W).mono fun e W' ⟨he, hw⟩ => ?_
  subst he
  subst hw
  exact ⟨_, rfl, _, _, _, [], _, [], hW', trodAll_mk1 (shut_bool Try.underlying4 _), (trodAll_cons_mk (shut_int Try.underlying22 w0) trodAll_mk0), rfl, (Below.refl _ _).frame _, fun h => by cases h⟩
theorem proved : Rows.FnModeFlagsSaid :=
  OpenClaim.holds_of_wide 3 Try.f3 rfl rfl rfl rfl rfl rfl rfl ⟨rfl, rfl, rfl, rfl, rfl⟩ rfl rfl rfl rfl rfl (by kernel_rfl) Try.func3 (by kernel_rfl)
    (of_decide_eq_true (by kernel_rfl)) (by unfold Func.isWrapper; first | (rw [if_pos (by decide +kernel)]; kernel_rfl) | (rw [if_neg (by decide +kernel)]; exact ⟨rfl, rfl⟩))
    (fun os started H enc _ => lifted os started H enc)
#print axioms proved
end Go.Proofs.Ytoofbppfbbhliaa.fnModeFlags
