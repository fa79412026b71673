/- The code 0 is no instruction: FnDeltaNothing answers true for all bases, steps and texts. Conditions: the arguments are no longer than the row lets them be; the listed variables of the package hold what the program's text lays in them (the card ties them). -/
import Derived.Test.YtoofbppfbbhliaaDoorCards
import Derived.Test.YtoofbppfbbhliaaDoorTie
import Derived.Test.YtoofbppfbbhliaaDoorClose
import Derived.Test.YtoofbppfbbhliaaDoorOpens
import Derived.Test.YtoofbppfbbhliaaDoorEnv
import Derived.Test.YtoofbppfbbhliaaDoorNothingLaw
import Derived.Deep.DeepHandedRow
import Derived.Deep.DeepWitnessRowRef
import Derived.LaidLaws
import Derived.Lib.LaidTab
namespace Go.Proofs.YtoofbppfbbhliaaDoor.fnDeltaNothing
open Go.ChangeShapes Go.WideShapes Go.ChangeAt Go.RowKit Go.Proofs.YtoofbppfbbhliaaDoorW.PrintWords Go.Proofs.YtoofbppfbbhliaaDoor.env
set_option linter.unusedVariables false
set_option maxRecDepth 100000
open Go.ChangeMaps (open_string shut_string)
theorem own : ownKnob Tryd.prog.godebug = none := by kernel_rfl
theorem laidOut : laidOutB Tryd.prog = true := by kernel_rfl
theorem contract (H : Type) (enc : TypeId × Value → H) (W : World) (base : Nat) (args : Array Value) (ds gs : List (DataW H)) (before : List MemPlace)
    (hval0 : ∀ (j : Nat) t v, Tryd.f9.params[j]? = some t → args[j]? = some v → Value.okWide Tryd.prog W .any base t v)
    (hW : DataW.Whole enc Tryd.prog Tryd.f9.params.toList Rows.fnDeltaNothingSpec.vars false W args.toList ds gs before)
    (hsz0 : (DataW.weightsEach Tryd.prog (Tryd.f9.params.toList ++ Rows.fnDeltaNothingSpec.plain.varTypes Tryd.prog) (ds ++ gs)).all (· ≤ reachBytes) = true)
    (hL : laidMetH Tryd.prog Rows.fnDeltaNothingRow.laid W) (hsh : W.ShapedOpen Tryd.prog) :
    Calls Tryd.prog 9 args W fun e W' => ∃ v, e = .returned v ∧ Rows.fnDeltaNothingSpec.post enc Tryd.prog Tryd.f9 false true false false W args v W' := by
  have hW' := hW
  obtain ⟨p, q, hA0, hV, rfl, hfz, hnd⟩ := hW
  have hA : DataW.TrodAll enc Tryd.prog W 0 (fun _ => true) true Tryd.f9.params.toList args.toList ds p := hA0
  have hval : ∀ (j : Nat) t v, Tryd.f9.params[j]? = some t → args[j]? = some v → Value.okWide Tryd.prog W .any base t v := hval0
  rw [Tryd.params9] at hA hval
  obtain ⟨v0, vs0, d0, ds0, p0, q0, hargs, rfl, rfl, h0, r0⟩ := trodAll_cons hA
  obtain ⟨v1, vs1, d1, ds1, p1, q1, rfl, rfl, rfl, h1, r1⟩ := trodAll_cons r0
  obtain ⟨v2, vs2, d2, ds2, p2, q2, rfl, rfl, rfl, h2, r2⟩ := trodAll_cons r1
  obtain ⟨rfl, rfl, rfl⟩ := trodAll_nil r2
  obtain rfl : args = #[v0, v1, v2] := by cases args; simp_all
  obtain ⟨g0, g1, g2, g3, g4, rfl⟩ : ∃ g0 g1 g2 g3 g4, gs = [g0, g1, g2, g3, g4] := by
    have hlen : gs.length = 5 := close.trodVars_length hV
    match gs, hlen with
    | [x0, x1, x2, x3, x4], _ => exact ⟨x0, x1, x2, x3, x4, rfl⟩
  obtain ⟨A0, n0, c0, rfl⟩ := okWide_slice Tryd.underlying44 (hval 0 44 v0 rfl rfl)
  obtain ⟨x0, hx0, hc0, hC0, hg0, hm0⟩ := opens.slice_arg (d := (Kd.int .u8)) Tryd.underlying44 (by kernel_rfl) (opens.int_ Tryd.underlying5) rfl h0
  subst hx0
  obtain ⟨A1, n1, c1, rfl⟩ := okWide_slice Tryd.underlying45 (hval 1 45 v1 rfl rfl)
  obtain ⟨x1, hx1, hc1, hC1, hg1, hm1⟩ := opens.slice_arg (d := PFnDeltaCut.k56) Tryd.underlying45 (by kernel_rfl) step_opens rfl h1
  subst hx1
  obtain ⟨A2, n2, c2, rfl⟩ := okWide_slice Tryd.underlying44 (hval 2 44 v2 rfl rfl)
  obtain ⟨x2, hx2, hc2, hC2, hg2, hm2⟩ := opens.slice_arg (d := (Kd.int .u8)) Tryd.underlying44 (by kernel_rfl) (opens.int_ Tryd.underlying5) rfl h2
  subst hx2
  obtain ⟨e2, ao, az, co, cz, hE⟩ := env.env_of_laid hL

  refine (steps.nothing_law A0 A1 A2 c0 c1 c2 x0 x1 x2 W hC0 hc0 hC1 hc1 hC2 hc2 (fun x hx => u8_bytes (hg1 x hx)) (u8_bytes hg2) e2 ao az co cz hE).mono fun e W' ⟨he, bel⟩ => ?_
  exact ⟨_, he, close.law_post laidOut (by kernel_rfl) (by kernel_rfl) rfl Tryd.underlying4 hW' bel rfl rfl rfl⟩
/-- A world for the witness: the settled one, the listed variables as the program's text lays them. -/
noncomputable def low : Nat := (World.holding Tryd.prog default ⟨#[], #[], []⟩).heap.size
noncomputable def laidWorld (os : Os) : World :=
  { World.holding Tryd.prog os ⟨#[.cells #[.string ⟨#[98, 121, 116, 101, 115, 46, 66, 117, 102, 102, 101, 114, 58, 32, 116, 111, 111, 32, 108, 97, 114, 103, 101]⟩] 253, .cells #[.string ⟨#[105, 110, 118, 97, 108, 105, 100, 32, 100, 101, 108, 116, 97]⟩] 253, .cells #[.string ⟨#[119, 114, 111, 110, 103, 32, 100, 101, 108, 116, 97, 32, 99, 111, 109, 109, 97, 110, 100]⟩] 253, .cells #[.int .u8 1, .int .u64 0, .int .u8 2, .int .u64 8, .int .u8 4, .int .u64 16, .int .u8 8, .int .u64 24] 202, .cells #[.int .u8 16, .int .u64 0, .int .u8 32, .int .u64 8, .int .u8 64, .int .u64 16] 202, .cells #[.string ⟨#[118, 97, 114, 105, 97, 98, 108, 101, 45, 108, 101, 110, 103, 116, 104, 32, 105, 110, 116, 101, 103, 101, 114, 32, 111, 118, 101, 114, 102, 108, 111, 119]⟩] 253], #[], []⟩ with heap := (((((((World.holding Tryd.prog os ⟨#[.cells #[.string ⟨#[98, 121, 116, 101, 115, 46, 66, 117, 102, 102, 101, 114, 58, 32, 116, 111, 111, 32, 108, 97, 114, 103, 101]⟩] 253, .cells #[.string ⟨#[105, 110, 118, 97, 108, 105, 100, 32, 100, 101, 108, 116, 97]⟩] 253, .cells #[.string ⟨#[119, 114, 111, 110, 103, 32, 100, 101, 108, 116, 97, 32, 99, 111, 109, 109, 97, 110, 100]⟩] 253, .cells #[.int .u8 1, .int .u64 0, .int .u8 2, .int .u64 8, .int .u8 4, .int .u64 16, .int .u8 8, .int .u64 24] 202, .cells #[.int .u8 16, .int .u64 0, .int .u8 32, .int .u64 8, .int .u8 64, .int .u64 16] 202, .cells #[.string ⟨#[118, 97, 114, 105, 97, 98, 108, 101, 45, 108, 101, 110, 103, 116, 104, 32, 105, 110, 116, 101, 103, 101, 114, 32, 111, 118, 101, 114, 102, 108, 111, 119]⟩] 253], #[], []⟩).heap.modify 8 fun
      | .cells _ t frozen => .cells #[.iface 225 (.pointer (some ⟨low + 0, 0, none⟩))] t frozen
      | o => o).modify 2 fun
      | .cells _ t frozen => .cells #[.iface 225 (.pointer (some ⟨low + 1, 0, none⟩))] t frozen
      | o => o).modify 3 fun
      | .cells _ t frozen => .cells #[.iface 225 (.pointer (some ⟨low + 2, 0, none⟩))] t frozen
      | o => o).modify 6 fun
      | .cells _ t frozen => .cells #[.slice (some ⟨low + 3, 0, none⟩) 4 4] t frozen
      | o => o).modify 7 fun
      | .cells _ t frozen => .cells #[.slice (some ⟨low + 4, 0, none⟩) 3 3] t frozen
      | o => o).modify 5 fun
      | .cells _ t frozen => .cells #[.iface 225 (.pointer (some ⟨low + 5, 0, none⟩))] t frozen
      | o => o) }
theorem laid_met (os : Os) : laidMet Tryd.prog Rows.fnDeltaNothingRow.laid ((laidWorld os).forCall (fun _ _ => 0) ⟨#[], #[.slice none 0 0, .slice none 0 0, .slice none 0 0], []⟩).memory :=
  laidMet_of_run' 8 (by kernel_rfl) (by kernel_rfl)
theorem reads (os : Os) {H : Type} (enc : TypeId × Value → H) : ∃ x, DataW.whole enc Tryd.prog ((laidWorld os).forCall (fun _ _ => 0) ⟨#[], #[.slice none 0 0, .slice none 0 0, .slice none 0 0], []⟩).memory Tryd.f9.params.toList Rows.fnDeltaNothingSpec.vars false (#[.slice none 0 0, .slice none 0 0, .slice none 0 0] : Array Value).toList 8 = some x :=
  Option.isSome_iff_exists.1 (by kernel_rfl)
theorem lifted (os : Os) (started : os.Started) (H : Type) (enc : TypeId × Value → H) (F : Stop.Interp) :
    ReturnsInHanded {} Tryd.checked os 9 .any ((OpenSpec.ofChange Rows.fnDeltaNothingSpec).preRow enc Tryd.prog Tryd.f9 Rows.fnDeltaNothingRow.domain false Rows.fnDeltaNothingRow.laid) (((OpenSpec.ofChange Rows.fnDeltaNothingSpec).at F).post enc Tryd.prog Tryd.f9 false true false false) := by
  obtain ⟨x, hx⟩ := reads os enc
  refine returnsInHanded_of_row (C := Tryd.checked) (s := (OpenSpec.ofChange Rows.fnDeltaNothingSpec)) own started (by kernel_rfl) Tryd.func9
    (witness_row_atRef (enc := enc) (C := Tryd.checked) false (laidWorld os) #[.slice none 0 0, .slice none 0 0, .slice none 0 0] rfl (by kernel_rfl) (by kernel_rfl) (by kernel_rfl)
      (OpenSpec.preRow_of_cond 8 hx rfl (fun k hk => by cases hk) (by kernel_rfl) (laid_met os))) ?_
  intro W base args ds gs before hval hW _ hcond hsz hL hsh _
  exact contract H enc W base args ds gs before hval hW hsz hL hsh
theorem said : Rows.FnDeltaNothingSaid :=
  OpenClaim.holds_of_cond 9 Tryd.f9 rfl rfl rfl rfl rfl rfl rfl ⟨rfl, rfl, rfl, rfl, rfl⟩ rfl rfl rfl rfl rfl (by kernel_rfl) Tryd.func9 (by kernel_rfl)
    (of_decide_eq_true (by kernel_rfl)) (by unfold Func.isWrapper; first | (rw [if_pos (by decide +kernel)]; kernel_rfl) | (rw [if_neg (by decide +kernel)]; exact ⟨rfl, rfl⟩))
    (fun os started H enc _ F => by rw [OpenClaim.pre_eq_preRow]; exact lifted os started H enc F)
theorem plain (f : FuncId) (fn : Func) (hf : Tryd.pinned.checked.prog.funcNamed "loop.example/pub-g01474/laws.FnDeltaNothing" = some f) (hfn : Tryd.pinned.checked.prog.funcs[f]? = some fn) :
    false = Tryd.pinned.checked.prog.looks [] ∧ ∀ (j : Nat) t, fn.params[j]? = some t → Tryd.pinned.checked.prog.wantsStandIn t = false := by
  obtain rfl : f = 9 := Option.some.inj ((show Tryd.prog.funcNamed "loop.example/pub-g01474/laws.FnDeltaNothing" = some 9 by kernel_rfl).symm.trans hf) |>.symm
  obtain rfl : fn = Tryd.f9 := (Option.some.inj (Tryd.func9.symm.trans hfn)).symm
  refine ⟨by kernel_rfl, fun j t ht => ?_⟩
  have hall : (Tryd.f9.params.toList.all fun t => !(Tryd.prog.wantsStandIn t)) = true := by kernel_rfl
  have := List.all_eq_true.1 hall t (Array.mem_toList_iff.2 (Array.mem_of_getElem? ht))
  exact (by simpa using this : Tryd.prog.wantsStandIn t = false)
/-- The card. -/
theorem card : Rows.FnDeltaNothingCardSaid :=
  Claim7.holds_tied_plain_at .later [] _ _ _ _ said (fun _ h => by cases h) (by kernel_rfl) (fun _ h => by cases h) fnDeltaNothing_row_tie rfl ⟨rfl, rfl⟩ (by kernel_rfl) rfl plain (by kernel_rfl)
#print axioms card
end Go.Proofs.YtoofbppfbbhliaaDoor.fnDeltaNothing
