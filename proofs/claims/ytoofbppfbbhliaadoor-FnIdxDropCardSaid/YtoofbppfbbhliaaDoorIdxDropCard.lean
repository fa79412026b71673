/- A file that is dropped from an index is gone, and all others stay in their order: FnIdxDrop answers true for all lists of files and names. Conditions: the arguments are no longer than the row lets them be; the listed variables hold what the program's text lays in them (the card ties them). -/
import Derived.Test.YtoofbppfbbhliaaDoorCards
import Derived.Test.YtoofbppfbbhliaaDoorTie
import Derived.Test.YtoofbppfbbhliaaDoorClose
import Derived.Test.YtoofbppfbbhliaaDoorOpens
import Derived.Test.YtoofbppfbbhliaaDoorIdxLaw
import Derived.Deep.DeepHandedRow
import Derived.Deep.DeepWitnessRowRef
import Derived.LaidLaws
namespace Go.Proofs.YtoofbppfbbhliaaDoor.fnIdxDrop
open Go.ChangeShapes Go.WideShapes Go.ChangeAt Go.RowKit Go.Proofs.YtoofbppfbbhliaaDoorW.PrintWords
set_option linter.unusedVariables false
set_option maxRecDepth 100000
open Go.ChangeMaps (open_string shut_string)
theorem own : ownKnob Tryd.prog.godebug = none := by kernel_rfl
theorem laidOut : laidOutB Tryd.prog = true := by kernel_rfl
theorem stamp_opens : opens.Opens Tryd.prog 32 PFnIdxDrop.k32 (fun _ => True) := by
  intro H enc w fuel cs y hy
  obtain ⟨x, hK, _⟩ := opens.iso_ (f := fun x : PFnIdxDrop.S32 => (x.f0, x.f1)) (fun y => ⟨y.1, y.2⟩) (fun _ => rfl) (opens.struct_ (P := Tryd.prog) (t := 32) Tryd.underlying32 (by kernel_rfl) (opens.cons_ rfl (by kernel_rfl) rfl (opens.int_ Tryd.underlying2) (opens.one_ rfl (by kernel_rfl) (opens.int_ Tryd.underlying2)))) enc w fuel cs y hy
  exact ⟨x, hK, trivial⟩
theorem file_opens : opens.Opens Tryd.prog 35 PFnIdxDrop.k35 (fun _ => True) := by
  intro H enc w fuel cs y hy
  obtain ⟨x, hK, _⟩ := opens.iso_ (f := fun x : PFnIdxDrop.S35 => (x.f0, x.f1, x.f2, x.f3, x.f4, x.f5, x.f6, x.f7, x.f8, x.f9, x.f10, x.f11, x.f12)) (fun y => ⟨y.1, y.2.1, y.2.2.1, y.2.2.2.1, y.2.2.2.2.1, y.2.2.2.2.2.1, y.2.2.2.2.2.2.1, y.2.2.2.2.2.2.2.1, y.2.2.2.2.2.2.2.2.1, y.2.2.2.2.2.2.2.2.2.1, y.2.2.2.2.2.2.2.2.2.2.1, y.2.2.2.2.2.2.2.2.2.2.2.1, y.2.2.2.2.2.2.2.2.2.2.2.2⟩) (fun _ => rfl) (opens.struct_ (P := Tryd.prog) (t := 35) Tryd.underlying35 (by kernel_rfl) (opens.cons_ rfl (by kernel_rfl) rfl stamp_opens (opens.cons_ rfl (by kernel_rfl) rfl stamp_opens (opens.cons_ rfl (by kernel_rfl) rfl (opens.int_ Tryd.underlying33) (opens.cons_ rfl (by kernel_rfl) rfl (opens.int_ Tryd.underlying33) (opens.cons_ rfl (by kernel_rfl) rfl (opens.int_ Tryd.underlying33) (opens.cons_ rfl (by kernel_rfl) rfl (opens.int_ Tryd.underlying33) (opens.cons_ rfl (by kernel_rfl) rfl (opens.int_ Tryd.underlying33) (opens.cons_ rfl (by kernel_rfl) rfl (opens.int_ Tryd.underlying33) (opens.cons_ rfl (by kernel_rfl) rfl (opens.string_ Tryd.underlying9) (opens.cons_ rfl (by kernel_rfl) rfl (opens.string_ Tryd.underlying9) (opens.cons_ rfl (by kernel_rfl) rfl (opens.int_ Tryd.underlying3) (opens.cons_ rfl (by kernel_rfl) rfl (opens.bool_ Tryd.underlying4) (opens.one_ rfl (by kernel_rfl) (opens.bool_ Tryd.underlying4))))))))))))))) enc w fuel cs y hy
  exact ⟨x, hK, trivial⟩
/-- The two listed variables. -/
theorem env_of {W : World} (h : laidMetH Tryd.prog Rows.fnIdxDropRow.laid W) : (∃ ev, W.cell? ⟨4, 0, none⟩ = some ev) ∧ ∃ τ u, W.cell? ⟨1, 0, none⟩ = some (.iface τ u) := by
  have h' : laidMet Tryd.prog Rows.fnIdxDropRow.laid W := h
  obtain ⟨ps, ⟨g0, t0, cs0, f0, p0, q0, hg0, ht0, hv0, hd0, ⟨g1, t1, cs1, f1, p1, q1, hg1, ht1, hv1, hd1, _⟩, _⟩, _, _⟩ := h'
  obtain rfl : g0 = 4 := Option.some.inj (hg0.symm.trans (by kernel_rfl))
  obtain rfl : g1 = 1 := Option.some.inj (hg1.symm.trans (by kernel_rfl))
  obtain rfl : t0 = 81 := Option.some.inj (ht0.symm.trans (by kernel_rfl))
  obtain rfl : t1 = 81 := Option.some.inj (ht1.symm.trans (by kernel_rfl))
  obtain ⟨_, u1, w1, e1, _, _⟩ := iface_of_trod Tryd.underlying81 hd0
  obtain ⟨_, u2, w2, e2, _, _⟩ := iface_of_trod Tryd.underlying81 hd1
  have k1 := World.var?_cell hg0 hv0 0
  have k2 := World.var?_cell hg1 hv1 0
  rw [← Array.getElem?_toList, e1] at k1
  rw [← Array.getElem?_toList, e2] at k2
  exact ⟨⟨_, k1⟩, u2, w2, k2⟩
theorem contract (H : Type) (enc : TypeId × Value → H) (W : World) (base : Nat) (args : Array Value) (ds gs : List (DataW H)) (before : List MemPlace)
    (hval0 : ∀ (j : Nat) t v, Tryd.f5.params[j]? = some t → args[j]? = some v → Value.okWide Tryd.prog W .any base t v)
    (hW : DataW.Whole enc Tryd.prog Tryd.f5.params.toList Rows.fnIdxDropSpec.vars false W args.toList ds gs before)
    (hsz0 : (DataW.weightsEach Tryd.prog (Tryd.f5.params.toList ++ Rows.fnIdxDropSpec.plain.varTypes Tryd.prog) (ds ++ gs)).all (· ≤ reachBytes) = true)
    (hL : laidMetH Tryd.prog Rows.fnIdxDropRow.laid W) (hsh : W.ShapedOpen Tryd.prog) :
    Calls Tryd.prog 5 args W fun e W' => ∃ v, e = .returned v ∧ Rows.fnIdxDropSpec.post enc Tryd.prog Tryd.f5 false true false false W args v W' := by
  have hW' := hW
  obtain ⟨p, q, hA0, hV, rfl, hfz, hnd⟩ := hW
  have hA : DataW.TrodAll enc Tryd.prog W 0 (fun _ => true) true Tryd.f5.params.toList args.toList ds p := hA0
  have hval : ∀ (j : Nat) t v, Tryd.f5.params[j]? = some t → args[j]? = some v → Value.okWide Tryd.prog W .any base t v := hval0
  rw [Tryd.params5] at hA hval
  obtain ⟨v0, vs0, d0, ds0, p0, q0, hargs, rfl, rfl, h0, r0⟩ := trodAll_cons hA
  obtain ⟨v1, vs1, d1, ds1, p1, q1, rfl, rfl, rfl, h1, r1⟩ := trodAll_cons r0
  obtain ⟨rfl, rfl, rfl⟩ := trodAll_nil r1
  obtain rfl : args = #[v0, v1] := by cases args; simp_all
  obtain ⟨g0, rfl⟩ : ∃ g0, gs = [g0] := by
    have hlen : gs.length = 1 := close.trodVars_length hV
    match gs, hlen with
    | [x0], _ => exact ⟨x0, rfl⟩
  obtain ⟨a1, rfl, rfl, rfl, w1⟩ := open_string Tryd.underlying9 (hval 1 9 v1 rfl rfl) h1
  obtain ⟨A0, n0, c0, rfl⟩ := okWide_slice Tryd.underlying29 (hval 0 29 v0 rfl rfl)
  obtain ⟨x0, hx0, hc0, hC0, hg0, hm0⟩ := opens.slice_arg (d := PFnIdxDrop.k35) Tryd.underlying29 (by kernel_rfl) file_opens rfl h0
  subst hx0
  obtain ⟨⟨ev, hE1⟩, τ, u, hE2⟩ := env_of hL

  refine (idx.drop_law A0 c0 x0 a1 W hC0 hc0 ev hE1 τ u hE2).mono fun e W' ⟨he, bel⟩ => ?_
  exact ⟨_, he, close.law_post laidOut (by kernel_rfl) (by kernel_rfl) rfl Tryd.underlying4 hW' bel rfl rfl rfl⟩
/-- A world for the witness: the settled one, the listed variables as the program's text lays them. -/
noncomputable def low : Nat := (World.holding Tryd.prog default ⟨#[], #[], []⟩).heap.size
noncomputable def laidWorld (os : Os) : World :=
  { World.holding Tryd.prog os ⟨#[.cells #[.string ⟨#[101, 110, 99, 111, 100, 105, 110, 103, 47, 104, 101, 120, 58, 32, 111, 100, 100, 32, 108, 101, 110, 103, 116, 104, 32, 104, 101, 120, 32, 115, 116, 114, 105, 110, 103]⟩] 253, .cells #[.string ⟨#[101, 110, 116, 114, 121, 32, 110, 111, 116, 32, 102, 111, 117, 110, 100]⟩] 253], #[], []⟩ with heap := (((World.holding Tryd.prog os ⟨#[.cells #[.string ⟨#[101, 110, 99, 111, 100, 105, 110, 103, 47, 104, 101, 120, 58, 32, 111, 100, 100, 32, 108, 101, 110, 103, 116, 104, 32, 104, 101, 120, 32, 115, 116, 114, 105, 110, 103]⟩] 253, .cells #[.string ⟨#[101, 110, 116, 114, 121, 32, 110, 111, 116, 32, 102, 111, 117, 110, 100]⟩] 253], #[], []⟩).heap.modify 4 fun
      | .cells _ t frozen => .cells #[.iface 225 (.pointer (some ⟨low + 0, 0, none⟩))] t frozen
      | o => o).modify 1 fun
      | .cells _ t frozen => .cells #[.iface 225 (.pointer (some ⟨low + 1, 0, none⟩))] t frozen
      | o => o) }
theorem laid_met (os : Os) : laidMet Tryd.prog Rows.fnIdxDropRow.laid ((laidWorld os).forCall (fun _ _ => 0) ⟨#[], #[.slice none 0 0, .string ⟨#[]⟩], []⟩).memory :=
  laidMet_of_run' 8 (by kernel_rfl) (by kernel_rfl)
theorem reads (os : Os) {H : Type} (enc : TypeId × Value → H) : ∃ x, DataW.whole enc Tryd.prog ((laidWorld os).forCall (fun _ _ => 0) ⟨#[], #[.slice none 0 0, .string ⟨#[]⟩], []⟩).memory Tryd.f5.params.toList Rows.fnIdxDropSpec.vars false (#[.slice none 0 0, .string ⟨#[]⟩] : Array Value).toList 8 = some x :=
  Option.isSome_iff_exists.1 (by kernel_rfl)
theorem lifted (os : Os) (started : os.Started) (H : Type) (enc : TypeId × Value → H) (F : Stop.Interp) :
    ReturnsInHanded {} Tryd.checked os 5 .any ((OpenSpec.ofChange Rows.fnIdxDropSpec).preRow enc Tryd.prog Tryd.f5 Rows.fnIdxDropRow.domain false Rows.fnIdxDropRow.laid) (((OpenSpec.ofChange Rows.fnIdxDropSpec).at F).post enc Tryd.prog Tryd.f5 false true false false) := by
  obtain ⟨x, hx⟩ := reads os enc
  refine returnsInHanded_of_row (C := Tryd.checked) (s := (OpenSpec.ofChange Rows.fnIdxDropSpec)) own started (by kernel_rfl) Tryd.func5
    (witness_row_at (enc := enc) (C := Tryd.checked) false (laidWorld os) #[.slice none 0 0, .string ⟨#[]⟩] rfl (by kernel_rfl) (by kernel_rfl) (by kernel_rfl)
      (OpenSpec.preRow_of_cond 8 hx rfl (fun k hk => by cases hk) (by kernel_rfl) (laid_met os))) ?_
  intro W base args ds gs before hval hW _ hcond hsz hL hsh _
  exact contract H enc W base args ds gs before hval hW hsz hL hsh
theorem said : Rows.FnIdxDropSaid :=
  OpenClaim.holds_of_cond 5 Tryd.f5 rfl rfl rfl rfl rfl rfl rfl ⟨rfl, rfl, rfl, rfl, rfl⟩ rfl rfl rfl rfl rfl (by kernel_rfl) Tryd.func5 (by kernel_rfl)
    (of_decide_eq_true (by kernel_rfl)) (by unfold Func.isWrapper; first | (rw [if_pos (by decide +kernel)]; kernel_rfl) | (rw [if_neg (by decide +kernel)]; exact ⟨rfl, rfl⟩))
    (fun os started H enc _ F => by rw [OpenClaim.pre_eq_preRow]; exact lifted os started H enc F)
theorem plain (f : FuncId) (fn : Func) (hf : Tryd.pinned.checked.prog.funcNamed "loop.example/pub-g01474/laws.FnIdxDrop" = some f) (hfn : Tryd.pinned.checked.prog.funcs[f]? = some fn) :
    false = Tryd.pinned.checked.prog.looks [] ∧ ∀ (j : Nat) t, fn.params[j]? = some t → Tryd.pinned.checked.prog.wantsStandIn t = false := by
  obtain rfl : f = 5 := Option.some.inj ((show Tryd.prog.funcNamed "loop.example/pub-g01474/laws.FnIdxDrop" = some 5 by kernel_rfl).symm.trans hf) |>.symm
  obtain rfl : fn = Tryd.f5 := (Option.some.inj (Tryd.func5.symm.trans hfn)).symm
  refine ⟨by kernel_rfl, fun j t ht => ?_⟩
  have hall : (Tryd.f5.params.toList.all fun t => !(Tryd.prog.wantsStandIn t)) = true := by kernel_rfl
  have := List.all_eq_true.1 hall t (Array.mem_toList_iff.2 (Array.mem_of_getElem? ht))
  exact (by simpa using this : Tryd.prog.wantsStandIn t = false)
/-- The card. -/
theorem card : Rows.FnIdxDropCardSaid :=
  Claim7.holds_tied_plain_at .later [] _ _ _ _ said (fun _ h => by cases h) (by kernel_rfl) (fun _ h => by cases h) fnIdxDrop_row_tie rfl ⟨rfl, rfl⟩ (by kernel_rfl) rfl plain (by kernel_rfl)
#print axioms card
end Go.Proofs.YtoofbppfbbhliaaDoor.fnIdxDrop
