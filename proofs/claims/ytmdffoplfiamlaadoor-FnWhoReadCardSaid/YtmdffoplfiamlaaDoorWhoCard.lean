/- Someone who is written as the format tells is read so: FnWhoRead answers true for all signatures. Conditions: the listed variables hold what the program's text lays in them (the card ties them; the proof does not look at them). -/
import Derived.Test.YtmdffoplfiamlaaDoorCards
import Derived.Test.YtmdffoplfiamlaaDoorTie
import Derived.Test.YtmdffoplfiamlaaDoorClose
import Derived.Test.YtmdffoplfiamlaaDoorWhoH
import Derived.Lib.SmallJoins
import Derived.Deep.DeepHandedRow
import Derived.Deep.DeepWitnessRowRef
import Derived.LaidLaws
import Derived.Lay
namespace Go.Proofs.YtmdffoplfiamlaaDoor.fnWhoRead
open Go.ChangeShapes Go.WideShapes Go.ChangeAt Go.RowKit Go.Proofs.YtmdffoplfiamlaaDoorW.PrintWords
set_option linter.unusedVariables false
set_option maxRecDepth 100000
open Go.ChangeMaps (open_string shut_string)
theorem own : ownKnob Tryd.prog.godebug = none := by kernel_rfl
theorem laidOut : laidOutB Tryd.prog = true := by kernel_rfl
theorem contract (H : Type) (enc : TypeId × Value → H) (W : World) (base : Nat) (args : Array Value) (ds gs : List (DataW H)) (before : List MemPlace)
    (hval0 : ∀ (j : Nat) t v, Tryd.f4.params[j]? = some t → args[j]? = some v → Value.okWide Tryd.prog W .any base t v)
    (hW : DataW.Whole enc Tryd.prog Tryd.f4.params.toList Rows.fnWhoReadSpec.vars false W args.toList ds gs before)
    (hsz0 : (DataW.weightsEach Tryd.prog (Tryd.f4.params.toList ++ Rows.fnWhoReadSpec.plain.varTypes Tryd.prog) (ds ++ gs)).all (· ≤ reachBytes) = true)
    (hL : laidMetH Tryd.prog Rows.fnWhoReadRow.laid W) (hsh : W.ShapedOpen Tryd.prog) :
    Calls Tryd.prog 4 args W fun e W' => ∃ v, e = .returned v ∧ Rows.fnWhoReadSpec.post enc Tryd.prog Tryd.f4 false true false false W args v W' := by
  have hW' := hW
  obtain ⟨p, q, hA0, hV, rfl, hfz, hnd⟩ := hW
  have hA : DataW.TrodAll enc Tryd.prog W 0 (fun _ => true) true Tryd.f4.params.toList args.toList ds p := hA0
  have hval : ∀ (j : Nat) t v, Tryd.f4.params[j]? = some t → args[j]? = some v → Value.okWide Tryd.prog W .any base t v := hval0
  rw [Tryd.params4] at hA hval
  obtain ⟨v0, vs0, d0, ds0, p0, q0, hargs, rfl, rfl, h0, r0⟩ := trodAll_cons hA
  obtain ⟨rfl, rfl, rfl⟩ := trodAll_nil r0
  obtain rfl : args = #[v0] := by cases args; simp_all
  obtain ⟨rfl, rfl⟩ := trodVars_none hV
  obtain ⟨c0, c1, c2, c3, y0, y1, y2, y3, n, rfl, rfl, rfl, k0, k1, k2, k3⟩ := Joins.open_agg4 Tryd.underlying37 (by kernel_rfl) (by kernel_rfl) (hval 0 37 v0 rfl rfl) h0
  obtain ⟨N, e0, _, _⟩ := DataW.trod_string Tryd.underlying9 k0
  obtain ⟨E, e1, _, _⟩ := DataW.trod_string Tryd.underlying9 k1
  obtain ⟨t, e2, _, _⟩ := DataW.trod_int Tryd.underlying2 k2
  obtain ⟨z, e3, _, _⟩ := DataW.trod_int Tryd.underlying3 k3
  injection e0 with e0 _
  injection e1 with e1 _
  injection e2 with e2 _
  injection e3 with e3 _
  subst e0 e1 e2 e3
  refine (who.who_law N E t z W).mono fun e W' ⟨he, bel⟩ => ?_
  exact ⟨_, he, close.law_post laidOut (by kernel_rfl) (by kernel_rfl) rfl Tryd.underlying4 hW' bel rfl rfl rfl⟩
/-- A world for the witness: the settled one, the listed variables as the program's text lays them. -/
noncomputable def laidWorld (os : Os) : World := World.laidAll Tryd.prog os Rows.fnWhoReadRow.laid
theorem laid_met (os : Os) : laidMet Tryd.prog Rows.fnWhoReadRow.laid ((laidWorld os).forCall (fun _ _ => 0) ⟨#[], #[.agg #[.string ⟨#[]⟩, .string ⟨#[]⟩, .int .i64 0, .int .i64 0]], []⟩).memory :=
  laidMet_laidAll _ (by kernel_rfl) (by kernel_rfl)
theorem reads (os : Os) {H : Type} (enc : TypeId × Value → H) : ∃ x, DataW.whole enc Tryd.prog ((laidWorld os).forCall (fun _ _ => 0) ⟨#[], #[.agg #[.string ⟨#[]⟩, .string ⟨#[]⟩, .int .i64 0, .int .i64 0]], []⟩).memory Tryd.f4.params.toList Rows.fnWhoReadSpec.vars false (#[.agg #[.string ⟨#[]⟩, .string ⟨#[]⟩, .int .i64 0, .int .i64 0]] : Array Value).toList 8 = some x :=
  Option.isSome_iff_exists.1 (by kernel_rfl)
theorem lifted (os : Os) (started : os.Started) (H : Type) (enc : TypeId × Value → H) (F : Stop.Interp) :
    ReturnsInHanded {} Tryd.checked os 4 .any ((OpenSpec.ofChange Rows.fnWhoReadSpec).preRow enc Tryd.prog Tryd.f4 Rows.fnWhoReadRow.domain false Rows.fnWhoReadRow.laid) (((OpenSpec.ofChange Rows.fnWhoReadSpec).at F).post enc Tryd.prog Tryd.f4 false true false false) := by
  obtain ⟨x, hx⟩ := reads os enc
  refine returnsInHanded_of_row (C := Tryd.checked) (s := (OpenSpec.ofChange Rows.fnWhoReadSpec)) own started (by kernel_rfl) Tryd.func4
    (witness_row_atRef (enc := enc) (C := Tryd.checked) false (laidWorld os) #[.agg #[.string ⟨#[]⟩, .string ⟨#[]⟩, .int .i64 0, .int .i64 0]] rfl (by kernel_rfl) (by kernel_rfl) (by kernel_rfl)
      (OpenSpec.preRow_of_cond 8 hx rfl (fun k hk => by cases hk) (by kernel_rfl) (laid_met os))) ?_
  intro W base args ds gs before hval hW _ hcond hsz hL hsh _
  exact contract H enc W base args ds gs before hval hW hsz hL hsh
theorem said : Rows.FnWhoReadSaid :=
  OpenClaim.holds_of_cond 4 Tryd.f4 rfl rfl rfl rfl rfl rfl rfl ⟨rfl, rfl, rfl, rfl, rfl⟩ rfl rfl rfl rfl rfl (by kernel_rfl) Tryd.func4 (by kernel_rfl)
    (of_decide_eq_true (by kernel_rfl)) (by unfold Func.isWrapper; first | (rw [if_pos (by decide +kernel)]; kernel_rfl) | (rw [if_neg (by decide +kernel)]; exact ⟨rfl, rfl⟩))
    (fun os started H enc _ F => by rw [OpenClaim.pre_eq_preRow]; exact lifted os started H enc F)
theorem plain (f : FuncId) (fn : Func) (hf : Tryd.pinned.checked.prog.funcNamed "loop.example/pub-g01474/laws.FnWhoRead" = some f) (hfn : Tryd.pinned.checked.prog.funcs[f]? = some fn) :
    true = Tryd.pinned.checked.prog.looks [] ∧ ∀ (j : Nat) t, fn.params[j]? = some t → Tryd.pinned.checked.prog.wantsStandIn t = false := by
  obtain rfl : f = 4 := Option.some.inj ((show Tryd.prog.funcNamed "loop.example/pub-g01474/laws.FnWhoRead" = some 4 by kernel_rfl).symm.trans hf) |>.symm
  obtain rfl : fn = Tryd.f4 := (Option.some.inj (Tryd.func4.symm.trans hfn)).symm
  refine ⟨by kernel_rfl, fun j t ht => ?_⟩
  have hall : (Tryd.f4.params.toList.all fun t => !(Tryd.prog.wantsStandIn t)) = true := by kernel_rfl
  have := List.all_eq_true.1 hall t (Array.mem_toList_iff.2 (Array.mem_of_getElem? ht))
  exact (by simpa using this : Tryd.prog.wantsStandIn t = false)
/-- The card. -/
theorem card : Rows.FnWhoReadCardSaid :=
  Claim7.holds_tied_plain_at .later [] _ _ _ _ said (fun _ h => by cases h) (by kernel_rfl) (fun _ h => by cases h) fnWhoRead_row_tie rfl ⟨rfl, rfl⟩ (by kernel_rfl) rfl plain (by kernel_rfl)
#print axioms card
end Go.Proofs.YtmdffoplfiamlaaDoor.fnWhoRead
