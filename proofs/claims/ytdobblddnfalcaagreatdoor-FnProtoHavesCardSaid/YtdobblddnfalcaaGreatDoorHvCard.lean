/- Objects that are there are written by rising names, with the flush line or without it: FnProtoHaves answers true for all lists of names. Conditions: the arguments are no longer than the row lets them be; the listed variables hold what the program's text lays in them (the card ties them). -/
import Derived.Test.YtdobblddnfalcaaGreatDoorCards
import Derived.Test.YtdobblddnfalcaaGreatDoorTie
import Derived.Test.YtdobblddnfalcaaGreatDoorClose
import Derived.Test.YtdobblddnfalcaaGreatDoorSvH
import Derived.Test.YtdobblddnfalcaaGreatDoorOpens
import Derived.Deep.DeepHandedRow
import Derived.Deep.DeepWitnessRowRef
import Derived.LaidLaws
import Derived.Lay
namespace Go.Proofs.YtdobblddnfalcaaGreatDoor.fnProtoHaves
open Go.ChangeShapes Go.WideShapes Go.ChangeAt Go.RowKit Go.Proofs.YtdobblddnfalcaaGreatDoorW.PrintWords
set_option linter.unusedVariables false
set_option maxRecDepth 100000
open Go.ChangeMaps (open_string shut_string)
theorem own : ownKnob Tryz.prog.godebug = none := by kernel_rfl
theorem laidOut : laidOutB Tryz.prog = true := by kernel_rfl
/-- One entry of the listed variables, and what stands ahead of it and behind it. -/
theorem laid_get {P : Program} {w : World} : ∀ {laid : List (String × DataW Unit)} {ps : List MemPlace} (i : Nat) {n : String} {d : DataW Unit}, DataW.LaidVars P w laid ps → laid[i]? = some (n, d) → ∃ g t cs fuel p A B, P.globalNamed n = some g ∧ (P.globals[g]?).map (·.type) = some t ∧ w.var? P n = some cs ∧ DataW.trod (fun _ => ()) P w 0 (fun _ => true) false fuel t cs.toList = some (d, p) ∧ ps = A ++ ((MemPlace.row ⟨g, 0, none⟩ cs.size ++ p) ++ B) ∧ DataW.LaidVars P w (laid.drop (i + 1)) B
  | [], ps, i, n, d, h, hi => by cases i <;> cases hi
  | (n0, d0) :: r, ps, 0, n, d, h, hi => by
    obtain ⟨g, t, cs, fuel, p, q, h1, h2, h3, h4, h5, h6⟩ := h
    cases hi
    exact ⟨g, t, cs, fuel, p, [], q, h1, h2, h3, h4, by rw [h6, List.nil_append], h5⟩
  | (n0, d0) :: r, ps, i + 1, n, d, h, hi => by
    obtain ⟨g, t, cs, fuel, p, q, h1, h2, h3, h4, h5, h6⟩ := h
    obtain ⟨g', t', cs', fuel', p', A, B, k1, k2, k3, k4, k5, k6⟩ := laid_get i h5 hi
    refine ⟨g', t', cs', fuel', p', (MemPlace.row ⟨g, 0, none⟩ cs.size ++ p) ++ A, B, k1, k2, k3, k4, ?_, k6⟩
    rw [h6, k5, List.append_assoc]
    simp only [List.append_assoc]
theorem nodup_ne {α : Type} {X Y : List α} (h : (X ++ Y).Nodup) {x : α} (hx : x ∈ X) (hy : x ∈ Y) : False := (List.nodup_append.1 h).2.2 x hx x hy rfl
theorem starN : "*" ++ "errors.errorString" = "*errors.errorString" := by decide
theorem u8_range {n : Int} (h : (Lit.int .u8 n).wf = true) : 0 ≤ n ∧ n < 256 := by
  have e0 : IntKind.u8.min = 0 := rfl
  have e1 : IntKind.u8.max = 255 := rfl
  simp only [Lit.wf, Bool.and_eq_true, decide_eq_true_eq, e0, e1] at h
  omega
theorem errName : ∀ u, Tryz.prog.typeName? 3 u = some "*errors.errorString" → u = 178 := fun u h => typeName_ptr_named (nm := "errors.errorString") (by rw [starN]; kernel_rfl) (by kernel_rfl) (by decide) u (by rw [starN]; exact h)
theorem sent {W : World} {n : String} {text : List UInt8} {g : Nat} {t : TypeId} {cs : Array Value} {fuel : Nat} {p ps : List MemPlace} (ht : t = 59) (hg : Tryz.prog.globalNamed n = some g) (hv : W.var? Tryz.prog n = some cs)
    (hd : DataW.trod (fun _ => ()) Tryz.prog W 0 (fun _ => true) false fuel t cs.toList = some (.iface "*errors.errorString" (.ptr (.agg [.lit (.string text)])), p))
    (hin : ∀ x, x ∈ MemPlace.row ⟨g, 0, none⟩ cs.size ++ p → x ∈ ps)
    (hrows : ∀ b off, MemPlace.cell b off ∈ ps → (∃ c t, W.heap[b]? = some (.cells c t (0, 0))) ∧ ∀ u v, W.cell? ⟨b, off, none⟩ = some (.iface u v) → Value.okWide Tryz.prog W .any 0 u v) :
    ∃ a, W.cell? ⟨g, 0, none⟩ = some (.iface 178 (.pointer (some a))) ∧ (∃ c t, W.heap[a.block]? = some (.cells c t (0, 0))) ∧ p = MemPlace.row a 1 := by
  subst ht
  obtain ⟨l⟩ := cs
  have ok : ∀ u v, l = [.iface u v] → Value.okWide Tryz.prog W .any 0 u v := fun u v e => by
    subst e
    exact (hrows g 0 (hin _ (by simp [MemPlace.row]))).2 u v (by simpa using World.var?_cell hg hv 0)
  obtain ⟨a, s, e, hc, hs, hz, rfl⟩ := errorString_of_trod Tryz.underlying59 errName Tryz.underlying178 Tryz.underlying180 rfl rfl Tryz.underlying9 (by kernel_rfl) (by kernel_rfl) hd ok
  have e' : l = [.iface 178 (.pointer (some a))] := e
  subst e'
  exact ⟨a, by simpa using World.var?_cell hg hv 0, (hrows a.block a.off (hin _ (by simp [MemPlace.row]))).1, rfl⟩
theorem errs_of {W : World} (h : laidMetH Tryz.prog Rows.fnProtoHavesRow.laid W) : ∃ a1 a2 a3, pkt.Errs W a1 a2 a3 := by
  have h' : laidMet Tryz.prog Rows.fnProtoHavesRow.laid W := h
  obtain ⟨ps, hl, hnd, hrows⟩ := h'
  obtain ⟨g1, t1, cs1, f1, p1, A1, B1, hg1, ht1, hv1, hd1, e1, hl1⟩ := laid_get 2 hl rfl
  obtain ⟨g2, t2, cs2, f2, p2, A2, B2, hg2, ht2, hv2, hd2, e2, hl2⟩ := laid_get 0 hl1 rfl
  obtain ⟨g3, t3, cs3, f3, p3, A3, B3, hg3, ht3, hv3, hd3, e3, _⟩ := laid_get 4 hl2 rfl
  obtain rfl : g1 = 0 := Option.some.inj (hg1.symm.trans (by kernel_rfl))
  obtain rfl : g2 = 2 := Option.some.inj (hg2.symm.trans (by kernel_rfl))
  obtain rfl : g3 = 3 := Option.some.inj (hg3.symm.trans (by kernel_rfl))
  have k1 : t1 = 59 := Option.some.inj (ht1.symm.trans (by kernel_rfl))
  have k2 : t2 = 59 := Option.some.inj (ht2.symm.trans (by kernel_rfl))
  have k3 : t3 = 59 := Option.some.inj (ht3.symm.trans (by kernel_rfl))
  have m3 : ∀ x, x ∈ MemPlace.row ⟨_, 0, none⟩ cs3.size ++ p3 → x ∈ B2 := fun x hx => by rw [e3]; exact List.mem_append_right _ (List.mem_append_left _ hx)
  have m2 : ∀ x, x ∈ MemPlace.row ⟨_, 0, none⟩ cs2.size ++ p2 → x ∈ B1 := fun x hx => by rw [e2]; exact List.mem_append_right _ (List.mem_append_left _ hx)
  have n2 : ∀ x, x ∈ B2 → x ∈ B1 := fun x hx => by rw [e2]; exact List.mem_append_right _ (List.mem_append_right _ hx)
  have n1 : ∀ x, x ∈ B1 → x ∈ ps := fun x hx => by rw [e1]; exact List.mem_append_right _ (List.mem_append_right _ hx)
  obtain ⟨a1, c1, b1, q1⟩ := sent k1 hg1 hv1 hd1 (fun x hx => by rw [e1]; exact List.mem_append_right _ (List.mem_append_left _ hx)) hrows
  obtain ⟨a2, c2, b2, q2⟩ := sent k2 hg2 hv2 hd2 (fun x hx => n1 x (m2 x hx)) hrows
  obtain ⟨a3, c3, b3, q3⟩ := sent k3 hg3 hv3 hd3 (fun x hx => n1 x (n2 x (m3 x hx))) hrows
  have hx1 : MemPlace.cell a1.block a1.off ∈ MemPlace.row ⟨0, 0, none⟩ cs1.size ++ p1 := List.mem_append_right _ (by rw [q1]; simp [MemPlace.row])
  have hx2 : MemPlace.cell a2.block a2.off ∈ MemPlace.row ⟨2, 0, none⟩ cs2.size ++ p2 := List.mem_append_right _ (by rw [q2]; simp [MemPlace.row])
  have hx3 : MemPlace.cell a3.block a3.off ∈ B2 := m3 _ (List.mem_append_right _ (by rw [q3]; simp [MemPlace.row]))
  have d1 : (((MemPlace.row ⟨0, 0, none⟩ cs1.size ++ p1) ++ B1)).Nodup := (List.nodup_append.1 (e1 ▸ hnd)).2.1
  have d2 : (((MemPlace.row ⟨2, 0, none⟩ cs2.size ++ p2) ++ B2)).Nodup := (List.nodup_append.1 (e2 ▸ (List.nodup_append.1 d1).2.1)).2.1
  refine ⟨a1, a2, a3, c1, c2, c3, ?_, ?_, ?_, b1, b2, b3⟩
  · rintro rfl
    exact nodup_ne d1 hx1 (m2 _ hx2)
  · rintro rfl
    exact nodup_ne d1 hx1 (n2 _ hx3)
  · rintro rfl
    exact nodup_ne d2 hx2 hx3
theorem len_of {W : World} (h : laidMetH Tryz.prog Rows.fnProtoHavesRow.laid W) : ∃ ev, W.cell? ⟨11, 0, none⟩ = some ev := by
  have h' : laidMet Tryz.prog Rows.fnProtoHavesRow.laid W := h
  obtain ⟨ps, hl, hnd, hrows⟩ := h'
  obtain ⟨g1, t1, cs1, f1, p1, A1, B1, hg1, ht1, hv1, hd1, e1, hl1⟩ := laid_get 6 hl rfl
  obtain rfl : g1 = 11 := Option.some.inj (hg1.symm.trans (by kernel_rfl))
  have k1 : t1 = 59 := Option.some.inj (ht1.symm.trans (by kernel_rfl))
  obtain ⟨a1, c1, b1, q1⟩ := sent k1 hg1 hv1 hd1 (fun x hx => by rw [e1]; exact List.mem_append_right _ (List.mem_append_left _ hx)) hrows
  exact ⟨_, c1⟩
theorem contract (H : Type) (enc : TypeId × Value → H) (W : World) (base : Nat) (args : Array Value) (ds gs : List (DataW H)) (before : List MemPlace)
    (hval0 : ∀ (j : Nat) t v, Tryz.f4.params[j]? = some t → args[j]? = some v → Value.okWide Tryz.prog W .any base t v)
    (hW : DataW.Whole enc Tryz.prog Tryz.f4.params.toList Rows.fnProtoHavesSpec.vars false W args.toList ds gs before)
    (hsz0 : (DataW.weightsEach Tryz.prog (Tryz.f4.params.toList ++ Rows.fnProtoHavesSpec.plain.varTypes Tryz.prog) (ds ++ gs)).all (· ≤ reachBytes) = true)
    (hL : laidMetH Tryz.prog Rows.fnProtoHavesRow.laid W) (hsh : W.ShapedOpen Tryz.prog) :
    Calls Tryz.prog 4 args W fun e W' => ∃ v, e = .returned v ∧ Rows.fnProtoHavesSpec.post enc Tryz.prog Tryz.f4 false true false false W args v W' := by
  have hW' := hW
  obtain ⟨p, q, hA0, hV, rfl, hfz, hnd⟩ := hW
  have hA : DataW.TrodAll enc Tryz.prog W 0 (fun _ => true) true Tryz.f4.params.toList args.toList ds p := hA0
  have hval : ∀ (j : Nat) t v, Tryz.f4.params[j]? = some t → args[j]? = some v → Value.okWide Tryz.prog W .any base t v := hval0
  rw [Tryz.params4] at hA hval
  obtain ⟨v0, vs0, d0, ds0, p0, q0, hargs, rfl, rfl, h0, r0⟩ := trodAll_cons hA
  obtain ⟨v1, vs1, d1, ds1, p1, q1, rfl, rfl, rfl, h1, r1⟩ := trodAll_cons r0
  obtain ⟨rfl, rfl, rfl⟩ := trodAll_nil r1
  obtain rfl : args = #[v0, v1] := by cases args; simp_all
  obtain ⟨g0_, g1_, rfl⟩ : ∃ g0_ g1_, gs = [g0_, g1_] := by
    have hlen : gs.length = 2 := close.trodVars_length hV
    match gs, hlen with
    | [x0, x1], _ => exact ⟨x0, x1, rfl⟩
  obtain ⟨A0, n0, c0, rfl⟩ := okWide_slice Tryz.underlying25 (hval 0 25 v0 rfl rfl)
  obtain ⟨x0, hx0, hc0, hC0, hg0, hm0⟩ := opens.slice_arg (d := Kd.string) Tryz.underlying25 (by kernel_rfl) (opens.string_ Tryz.underlying9) rfl h0
  obtain ⟨a1, rfl, rfl, rfl⟩ := open_bool Tryz.underlying4 (hval 1 4 v1 rfl rfl) h1
  obtain ⟨b1, b2, b3, hE⟩ := errs_of hL
  obtain ⟨ev, hEL⟩ := len_of hL
  refine (hv.haves_law W A0 n0 c0 x0 hC0 hx0 hc0 a1 b1 b2 b3 hE ev hEL).mono fun e W' ⟨he, bel⟩ => ?_
  exact ⟨_, he, close.law_post laidOut (by kernel_rfl) (by kernel_rfl) rfl Tryz.underlying4 hW' bel rfl rfl rfl⟩
/-- A world for the witness: the settled one, the listed variables as the program's text lays them. -/
noncomputable def laidWorld (os : Os) : World := World.laidAll Tryz.prog os Rows.fnProtoHavesRow.laid
theorem laid_met (os : Os) : laidMet Tryz.prog Rows.fnProtoHavesRow.laid ((laidWorld os).forCall (fun _ _ => 0) ⟨#[], #[.slice none 0 0, .bool false], []⟩).memory :=
  laidMet_laidAll _ (by kernel_rfl) (by kernel_rfl)
theorem reads (os : Os) {H : Type} (enc : TypeId × Value → H) : ∃ x, DataW.whole enc Tryz.prog ((laidWorld os).forCall (fun _ _ => 0) ⟨#[], #[.slice none 0 0, .bool false], []⟩).memory Tryz.f4.params.toList Rows.fnProtoHavesSpec.vars false (#[.slice none 0 0, .bool false] : Array Value).toList 8 = some x :=
  Option.isSome_iff_exists.1 (by kernel_rfl)
theorem lifted (os : Os) (started : os.Started) (H : Type) (enc : TypeId × Value → H) (F : Stop.Interp) :
    ReturnsInHanded {} Tryz.checked os 4 .any ((OpenSpec.ofChange Rows.fnProtoHavesSpec).preRow enc Tryz.prog Tryz.f4 Rows.fnProtoHavesRow.domain false Rows.fnProtoHavesRow.laid) (((OpenSpec.ofChange Rows.fnProtoHavesSpec).at F).post enc Tryz.prog Tryz.f4 false true false false) := by
  obtain ⟨x, hx⟩ := reads os enc
  refine returnsInHanded_of_row (C := Tryz.checked) (s := (OpenSpec.ofChange Rows.fnProtoHavesSpec)) own started (by kernel_rfl) Tryz.func4
    (witness_row_atRef (enc := enc) (C := Tryz.checked) false (laidWorld os) #[.slice none 0 0, .bool false] rfl (by kernel_rfl) (by kernel_rfl) (by kernel_rfl)
      (OpenSpec.preRow_of_cond 8 hx rfl (fun k hk => by cases hk) (by kernel_rfl) (laid_met os))) ?_
  intro W base args ds gs before hval hW _ hcond hsz hL hsh _
  exact contract H enc W base args ds gs before hval hW hsz hL hsh
theorem said : Rows.FnProtoHavesSaid :=
  OpenClaim.holds_of_cond 4 Tryz.f4 rfl rfl rfl rfl rfl rfl rfl ⟨rfl, rfl, rfl, rfl, rfl⟩ rfl rfl rfl rfl rfl (by kernel_rfl) Tryz.func4 (by kernel_rfl)
    (of_decide_eq_true (by kernel_rfl)) (by unfold Func.isWrapper; first | (rw [if_pos (by decide +kernel)]; kernel_rfl) | (rw [if_neg (by decide +kernel)]; exact ⟨rfl, rfl⟩))
    (fun os started H enc _ F => by rw [OpenClaim.pre_eq_preRow]; exact lifted os started H enc F)
theorem plain (f : FuncId) (fn : Func) (hf : Tryz.pinned.checked.prog.funcNamed "loop.example/pub-g01474/laws.FnProtoHaves" = some f) (hfn : Tryz.pinned.checked.prog.funcs[f]? = some fn) :
    true = Tryz.pinned.checked.prog.looks [] ∧ ∀ (j : Nat) t, fn.params[j]? = some t → Tryz.pinned.checked.prog.wantsStandIn t = false := by
  obtain rfl : f = 4 := Option.some.inj ((show Tryz.prog.funcNamed "loop.example/pub-g01474/laws.FnProtoHaves" = some 4 by kernel_rfl).symm.trans hf) |>.symm
  obtain rfl : fn = Tryz.f4 := (Option.some.inj (Tryz.func4.symm.trans hfn)).symm
  refine ⟨by kernel_rfl, fun j t ht => ?_⟩
  have hall : (Tryz.f4.params.toList.all fun t => !(Tryz.prog.wantsStandIn t)) = true := by kernel_rfl
  have := List.all_eq_true.1 hall t (Array.mem_toList_iff.2 (Array.mem_of_getElem? ht))
  exact (by simpa using this : Tryz.prog.wantsStandIn t = false)
/-- The card. -/
theorem card : Rows.FnProtoHavesCardSaid :=
  Claim7.holds_tied_plain_at .later [] _ _ _ _ said (fun _ h => by cases h) (by kernel_rfl) (fun _ h => by cases h) fnProtoHaves_row_tie rfl ⟨rfl, rfl⟩ (by kernel_rfl) rfl plain (by kernel_rfl)
#print axioms card
end Go.Proofs.YtdobblddnfalcaaGreatDoor.fnProtoHaves
