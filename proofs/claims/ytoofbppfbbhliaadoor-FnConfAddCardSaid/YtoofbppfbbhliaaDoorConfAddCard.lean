/- A value that has been added stands behind the others: FnConfAdd answers true for all configurations and texts. Conditions: the arguments are no longer than the row lets them be; the listed tables of the library hold what its text lays in them (the card ties them). -/
import Derived.Test.YtoofbppfbbhliaaDoorCards
import Derived.Test.YtoofbppfbbhliaaDoorTie
import Derived.Test.YtoofbppfbbhliaaDoorClose
import Derived.Test.YtoofbppfbbhliaaDoorOpens
import Derived.Test.YtoofbppfbbhliaaDoorAddLaw
import Derived.Deep.DeepHandedRow
import Derived.Deep.DeepWitnessRowRef
import Derived.LaidLaws
import Derived.Lay
namespace Go.Proofs.YtoofbppfbbhliaaDoor.fnConfAdd
open Go.ChangeShapes Go.WideShapes Go.ChangeAt Go.RowKit Go.Proofs.YtoofbppfbbhliaaDoorW.PrintWords
set_option linter.unusedVariables false
set_option maxRecDepth 100000
open Go.ChangeMaps (open_string shut_string)
theorem own : ownKnob Tryd.prog.godebug = none := by kernel_rfl
theorem laidOut : laidOutB Tryd.prog = true := by kernel_rfl
theorem opt_opens : opens.Opens Tryd.prog 112 PFnConfAdd.k112 (fun _ => True) := by
  intro H enc w fuel cs y hy
  obtain ⟨x, hK, _⟩ := opens.iso_ (f := fun x : PFnConfAdd.S112 => (x.f0, x.f1)) (fun y => ⟨y.1, y.2⟩) (fun _ => rfl) (opens.struct_ (P := Tryd.prog) (t := 112) Tryd.underlying112 (by kernel_rfl) (opens.cons_ rfl (by kernel_rfl) rfl (opens.string_ Tryd.underlying9) (opens.one_ rfl (by kernel_rfl) (opens.string_ Tryd.underlying9)))) enc w fuel cs y hy
  exact ⟨x, hK, trivial⟩
theorem sub_opens : opens.Opens Tryd.prog 115 PFnConfAdd.k115 (fun _ => True) := by
  intro H enc w fuel cs y hy
  obtain ⟨x, hK, _⟩ := opens.iso_ (f := fun x : PFnConfAdd.S115 => (x.f0, x.f1)) (fun y => ⟨y.1, y.2⟩) (fun _ => rfl) (opens.struct_ (P := Tryd.prog) (t := 115) Tryd.underlying115 (by kernel_rfl) (opens.cons_ rfl (by kernel_rfl) rfl (opens.string_ Tryd.underlying9) (opens.one_ rfl (by kernel_rfl) (opens.slice_ Tryd.underlying66 (by kernel_rfl) opt_opens)))) enc w fuel cs y hy
  exact ⟨x, hK, trivial⟩
theorem sec_opens : opens.Opens Tryd.prog 71 PFnConfAdd.k71 (fun _ => True) := by
  intro H enc w fuel cs y hy
  obtain ⟨x, hK, _⟩ := opens.iso_ (f := fun x : PFnConfAdd.S71 => (x.f0, x.f1, x.f2)) (fun y => ⟨y.1, y.2.1, y.2.2⟩) (fun _ => rfl) (opens.struct_ (P := Tryd.prog) (t := 71) Tryd.underlying71 (by kernel_rfl) (opens.cons_ rfl (by kernel_rfl) rfl (opens.string_ Tryd.underlying9) (opens.cons_ rfl (by kernel_rfl) rfl (opens.slice_ Tryd.underlying66 (by kernel_rfl) opt_opens) (opens.one_ rfl (by kernel_rfl) (opens.slice_ Tryd.underlying69 (by kernel_rfl) sub_opens))))) enc w fuel cs y hy
  exact ⟨x, hK, trivial⟩
theorem contract (H : Type) (enc : TypeId × Value → H) (W : World) (base : Nat) (args : Array Value) (ds gs : List (DataW H)) (before : List MemPlace)
    (hval0 : ∀ (j : Nat) t v, Tryd.f12.params[j]? = some t → args[j]? = some v → Value.okWide Tryd.prog W .any base t v)
    (hW : DataW.Whole enc Tryd.prog Tryd.f12.params.toList Rows.fnConfAddSpec.vars false W args.toList ds gs before)
    (hsz0 : (DataW.weightsEach Tryd.prog (Tryd.f12.params.toList ++ Rows.fnConfAddSpec.plain.varTypes Tryd.prog) (ds ++ gs)).all (· ≤ reachBytes) = true)
    (hL : laidMetH Tryd.prog Rows.fnConfAddRow.laid W) (hsh : W.ShapedOpen Tryd.prog) :
    Calls Tryd.prog 12 args W fun e W' => ∃ v, e = .returned v ∧ Rows.fnConfAddSpec.post enc Tryd.prog Tryd.f12 false true false false W args v W' := by
  have hW' := hW
  obtain ⟨p, q, hA0, hV, rfl, hfz, hnd⟩ := hW
  have hA : DataW.TrodAll enc Tryd.prog W 0 (fun _ => true) true Tryd.f12.params.toList args.toList ds p := hA0
  have hval : ∀ (j : Nat) t v, Tryd.f12.params[j]? = some t → args[j]? = some v → Value.okWide Tryd.prog W .any base t v := hval0
  rw [Tryd.params12] at hA hval
  obtain ⟨v0, vs0, d0, ds0, p0, q0, hargs, rfl, rfl, h0, r0⟩ := trodAll_cons hA
  obtain ⟨v1, vs1, d1, ds1, p1, q1, rfl, rfl, rfl, h1, r1⟩ := trodAll_cons r0
  obtain ⟨v2, vs2, d2, ds2, p2, q2, rfl, rfl, rfl, h2, r2⟩ := trodAll_cons r1
  obtain ⟨v3, vs3, d3, ds3, p3, q3, rfl, rfl, rfl, h3, r3⟩ := trodAll_cons r2
  obtain ⟨v4, vs4, d4, ds4, p4, q4, rfl, rfl, rfl, h4, r4⟩ := trodAll_cons r3
  obtain ⟨rfl, rfl, rfl⟩ := trodAll_nil r4
  obtain rfl : args = #[v0, v1, v2, v3, v4] := by cases args; simp_all
  obtain ⟨rfl, rfl⟩ := trodVars_none hV
  obtain ⟨a1, rfl, rfl, rfl, w1⟩ := open_string Tryd.underlying9 (hval 1 9 v1 rfl rfl) h1
  obtain ⟨a2, rfl, rfl, rfl, w2⟩ := open_string Tryd.underlying9 (hval 2 9 v2 rfl rfl) h2
  obtain ⟨a3, rfl, rfl, rfl, w3⟩ := open_string Tryd.underlying9 (hval 3 9 v3 rfl rfl) h3
  obtain ⟨a4, rfl, rfl, rfl, w4⟩ := open_string Tryd.underlying9 (hval 4 9 v4 rfl rfl) h4
  obtain ⟨A0, n0, c0, rfl⟩ := okWide_slice Tryd.underlying60 (hval 0 60 v0 rfl rfl)
  obtain ⟨x0, hx0, hc0, hC0, hg0, hm0⟩ := opens.slice_arg (d := PFnConfAdd.k71) Tryd.underlying60 (by kernel_rfl) sec_opens rfl h0
  subst hx0

  refine (confP.add_law A0 c0 x0 a1 a2 a3 a4 W hC0 hc0).mono fun e W' ⟨he, bel⟩ => ?_
  exact ⟨_, he, close.law_post laidOut (by kernel_rfl) (by kernel_rfl) rfl Tryd.underlying4 hW' bel rfl rfl rfl⟩
/-- A world for the witness: the settled one, the listed variables as the program's text lays them. -/
noncomputable def laidWorld (os : Os) : World := World.laidAll Tryd.prog os Rows.fnConfAddRow.laid
theorem laid_met (os : Os) : laidMet Tryd.prog Rows.fnConfAddRow.laid ((laidWorld os).forCall (fun _ _ => 0) ⟨#[], #[.slice none 0 0, .string ⟨#[]⟩, .string ⟨#[]⟩, .string ⟨#[]⟩, .string ⟨#[]⟩], []⟩).memory :=
  laidMet_laidAll _ (by kernel_rfl) (by kernel_rfl)
theorem reads (os : Os) {H : Type} (enc : TypeId × Value → H) : ∃ x, DataW.whole enc Tryd.prog ((laidWorld os).forCall (fun _ _ => 0) ⟨#[], #[.slice none 0 0, .string ⟨#[]⟩, .string ⟨#[]⟩, .string ⟨#[]⟩, .string ⟨#[]⟩], []⟩).memory Tryd.f12.params.toList Rows.fnConfAddSpec.vars false (#[.slice none 0 0, .string ⟨#[]⟩, .string ⟨#[]⟩, .string ⟨#[]⟩, .string ⟨#[]⟩] : Array Value).toList 8 = some x :=
  Option.isSome_iff_exists.1 (by kernel_rfl)
theorem lifted (os : Os) (started : os.Started) (H : Type) (enc : TypeId × Value → H) (F : Stop.Interp) :
    ReturnsInHanded {} Tryd.checked os 12 .any ((OpenSpec.ofChange Rows.fnConfAddSpec).preRow enc Tryd.prog Tryd.f12 Rows.fnConfAddRow.domain false Rows.fnConfAddRow.laid) (((OpenSpec.ofChange Rows.fnConfAddSpec).at F).post enc Tryd.prog Tryd.f12 false true false false) := by
  obtain ⟨x, hx⟩ := reads os enc
  refine returnsInHanded_of_row (C := Tryd.checked) (s := (OpenSpec.ofChange Rows.fnConfAddSpec)) own started (by kernel_rfl) Tryd.func12
    (witness_row_atRef (enc := enc) (C := Tryd.checked) false (laidWorld os) #[.slice none 0 0, .string ⟨#[]⟩, .string ⟨#[]⟩, .string ⟨#[]⟩, .string ⟨#[]⟩] rfl (by kernel_rfl) (by kernel_rfl) (by kernel_rfl)
      (OpenSpec.preRow_of_cond 8 hx rfl (fun k hk => by cases hk) (by kernel_rfl) (laid_met os))) ?_
  intro W base args ds gs before hval hW _ hcond hsz hL hsh _
  exact contract H enc W base args ds gs before hval hW hsz hL hsh
theorem said : Rows.FnConfAddSaid :=
  OpenClaim.holds_of_cond 12 Tryd.f12 rfl rfl rfl rfl rfl rfl rfl ⟨rfl, rfl, rfl, rfl, rfl⟩ rfl rfl rfl rfl rfl (by kernel_rfl) Tryd.func12 (by kernel_rfl)
    (of_decide_eq_true (by kernel_rfl)) (by unfold Func.isWrapper; first | (rw [if_pos (by decide +kernel)]; kernel_rfl) | (rw [if_neg (by decide +kernel)]; exact ⟨rfl, rfl⟩))
    (fun os started H enc _ F => by rw [OpenClaim.pre_eq_preRow]; exact lifted os started H enc F)
theorem plain (f : FuncId) (fn : Func) (hf : Tryd.pinned.checked.prog.funcNamed "loop.example/pub-g01474/laws.FnConfAdd" = some f) (hfn : Tryd.pinned.checked.prog.funcs[f]? = some fn) :
    false = Tryd.pinned.checked.prog.looks [] ∧ ∀ (j : Nat) t, fn.params[j]? = some t → Tryd.pinned.checked.prog.wantsStandIn t = false := by
  obtain rfl : f = 12 := Option.some.inj ((show Tryd.prog.funcNamed "loop.example/pub-g01474/laws.FnConfAdd" = some 12 by kernel_rfl).symm.trans hf) |>.symm
  obtain rfl : fn = Tryd.f12 := (Option.some.inj (Tryd.func12.symm.trans hfn)).symm
  refine ⟨by kernel_rfl, fun j t ht => ?_⟩
  have hall : (Tryd.f12.params.toList.all fun t => !(Tryd.prog.wantsStandIn t)) = true := by kernel_rfl
  have := List.all_eq_true.1 hall t (Array.mem_toList_iff.2 (Array.mem_of_getElem? ht))
  exact (by simpa using this : Tryd.prog.wantsStandIn t = false)
/-- The card. -/
theorem card : Rows.FnConfAddCardSaid :=
  Claim7.holds_tied_plain_at .later [] _ _ _ _ said (fun _ h => by cases h) (by kernel_rfl) (fun _ h => by cases h) fnConfAdd_row_tie rfl ⟨rfl, rfl⟩ (by kernel_rfl) rfl plain (by kernel_rfl)
#print axioms card
end Go.Proofs.YtoofbppfbbhliaaDoor.fnConfAdd
