/- Both roads say the same of any bytes of which the format says what they make: FnDeltaRoads answers true for all bases and deltas. Conditions: the arguments are no longer than the row lets them be; the listed variables hold what the program's text lays in them (the card ties them). -/
import Derived.Test.YtghcecngdhcjpaaDoorCards
import Derived.Test.YtghcecngdhcjpaaDoorTie
import Derived.Test.YtghcecngdhcjpaaDoorClose
import Derived.Test.YtghcecngdhcjpaaDoorRo
import Derived.Test.YtghcecngdhcjpaaDoorEnv
import Derived.Test.YtghcecngdhcjpaaDoorOpens
import Derived.Lib.LaidTab
import Derived.Deep.DeepHandedRow
import Derived.Deep.DeepWitnessRowRef
import Derived.LaidLaws
import Derived.Lay
namespace Go.Proofs.YtghcecngdhcjpaaDoor.fnDeltaRoads
open Go.ChangeShapes Go.WideShapes Go.ChangeAt Go.RowKit Go.Proofs.YtghcecngdhcjpaaDoorW.PrintWords
set_option linter.unusedVariables false
set_option maxRecDepth 100000
open Go.ChangeMaps (open_string shut_string)
theorem own : ownKnob Tryd.prog.godebug = none := by kernel_rfl
theorem laidOut : laidOutB Tryd.prog = true := by kernel_rfl
/-- One entry of the listed variables, and what stands ahead of it and behind it. -/
theorem laid_get {P : Program} {w : World} : ∀ {laid : List (String × DataW Unit)} {ps : List MemPlace} (i : Nat) {n : String} {d : DataW Unit}, DataW.LaidVars P w laid ps → laid[i]? = some (n, d) → ∃ g t cs fuel p A B, P.globalNamed n = some g ∧ (P.globals[g]?).map (·.type) = some t ∧ w.var? P n = some cs ∧ DataW.trod (fun _ => ()) P w 0 (fun _ => true) false fuel t cs.toList = some (d, p) ∧ ps = A ++ ((MemPlace.row ⟨g, 0, none⟩ cs.size ++ p) ++ B) ∧ DataW.LaidVars P w (laid.drop (i + 1)) B
  | [], ps, i, n, d, h, hi => by cases i <;> cases hi
  | (n0, d0) :: r, ps, 0, n, d, h, hi => by
    obtain ⟨g, t, cs, fuel, p, q, h1, h2, h3, h4, h5, h6⟩ := h
    cases hi
    exact ⟨g, t, cs, fuel, p, [], q, h1, h2, h3, h4, by rw [h6, List.nil_append], h5⟩
  | (n0, d0) :: r, ps, i + 1, n, d, h, hi => by
    obtain ⟨g, t, cs, fuel, p, q, h1, h2, h3, h4, h5, h6⟩ := h
    obtain ⟨g', t', cs', fuel', p', A, B, k1, k2, k3, k4, k5, k6⟩ := laid_get i h5 hi
    refine ⟨g', t', cs', fuel', p', (MemPlace.row ⟨g, 0, none⟩ cs.size ++ p) ++ A, B, k1, k2, k3, k4, ?_, k6⟩
    rw [h6, k5, List.append_assoc]
    simp only [List.append_assoc]
theorem nodup_ne {α : Type} {X Y : List α} (h : (X ++ Y).Nodup) {x : α} (hx : x ∈ X) (hy : x ∈ Y) : False := (List.nodup_append.1 h).2.2 x hx x hy rfl
theorem starN : "*" ++ "errors.errorString" = "*errors.errorString" := by decide
theorem u8_range {n : Int} (h : (Lit.int .u8 n).wf = true) : 0 ≤ n ∧ n < 256 := by
  have e0 : IntKind.u8.min = 0 := rfl
  have e1 : IntKind.u8.max = 255 := rfl
  simp only [Lit.wf, Bool.and_eq_true, decide_eq_true_eq, e0, e1] at h
  omega
theorem errName : ∀ u, Tryd.prog.typeName? 3 u = some "*errors.errorString" → u = 179 := fun u h => typeName_ptr_named (nm := "errors.errorString") (by rw [starN]; kernel_rfl) (by kernel_rfl) (by decide) u (by rw [starN]; exact h)
theorem sent {W : World} {n : String} {text : List UInt8} {g : Nat} {t : TypeId} {cs : Array Value} {fuel : Nat} {p ps : List MemPlace} (ht : t = 55) (hg : Tryd.prog.globalNamed n = some g) (hv : W.var? Tryd.prog n = some cs)
    (hd : DataW.trod (fun _ => ()) Tryd.prog W 0 (fun _ => true) false fuel t cs.toList = some (.iface "*errors.errorString" (.ptr (.agg [.lit (.string text)])), p))
    (hin : ∀ x, x ∈ MemPlace.row ⟨g, 0, none⟩ cs.size ++ p → x ∈ ps)
    (hrows : ∀ b off, MemPlace.cell b off ∈ ps → (∃ c t, W.heap[b]? = some (.cells c t (0, 0))) ∧ ∀ u v, W.cell? ⟨b, off, none⟩ = some (.iface u v) → Value.okWide Tryd.prog W .any 0 u v) :
    ∃ a, W.cell? ⟨g, 0, none⟩ = some (.iface 179 (.pointer (some a))) ∧ (∃ c t, W.heap[a.block]? = some (.cells c t (0, 0))) ∧ p = MemPlace.row a 1 := by
  subst ht
  obtain ⟨l⟩ := cs
  have ok : ∀ u v, l = [.iface u v] → Value.okWide Tryd.prog W .any 0 u v := fun u v e => by
    subst e
    exact (hrows g 0 (hin _ (by simp [MemPlace.row]))).2 u v (by simpa using World.var?_cell hg hv 0)
  obtain ⟨a, s, e, hc, hs, hz, rfl⟩ := errorString_of_trod Tryd.underlying55 errName Tryd.underlying179 Tryd.underlying181 rfl rfl Tryd.underlying9 (by kernel_rfl) (by kernel_rfl) hd ok
  have e' : l = [.iface 179 (.pointer (some a))] := e
  subst e'
  exact ⟨a, by simpa using World.var?_cell hg hv 0, (hrows a.block a.off (hin _ (by simp [MemPlace.row]))).1, rfl⟩
theorem cap_arg {P : Program} {t e : TypeId} (hu : P.underlying t = some (.slice e)) {H : Type} {enc : TypeId × Value → H} {w : World} {dd : DataW H} {ps : List MemPlace} {a : Option Addr} {l c : Nat} (h : DataW.Trod enc P w 0 (fun _ => true) true t (.slice a l c) dd ps) : c ≤ maxLen := by
  obtain ⟨fuel, h⟩ := h
  rcases DataW.trod_slice hu h with ⟨e, _⟩ | ⟨a', len, cap, elems, rest, n, _, e, _, _, hlc, hcm, _⟩
  · simp [Value.cells] at e
    obtain ⟨_, _, rfl⟩ := e
    exact Nat.zero_le _
  · simp [Value.cells] at e
    obtain ⟨_, _, rfl⟩ := e
    exact hcm
theorem env_of {W : World} (h : laidMetH Tryd.prog Rows.fnDeltaRoadsRow.laid W) : ∃ e2 ao az co cz ae, leb.Env W e2 ao az co cz ∧ rf.Eof W ae := by
  have h' : laidMet Tryd.prog Rows.fnDeltaRoadsRow.laid W := h
  obtain ⟨ps, hl, hnd, hrows⟩ := h'
  obtain ⟨g0, t0, cs0, f0, p0, A0, B0, hg0, ht0, hv0, hd0, e0, hl0⟩ := laid_get 2 hl rfl
  obtain ⟨g1, t1, cs1, f1, p1, A1, B1, hg1, ht1, hv1, hd1, e1, hl1⟩ := laid_get 2 hl0 rfl
  obtain ⟨g2, t2, cs2, f2, p2, A2, B2, hg2, ht2, hv2, hd2, e2, hl2⟩ := laid_get 0 hl1 rfl
  obtain ⟨g3, t3, cs3, f3, p3, A3, B3, hg3, ht3, hv3, hd3, e3, hl3⟩ := laid_get 0 hl2 rfl
  obtain ⟨g4, t4, cs4, f4, p4, A4, B4, hg4, ht4, hv4, hd4, e4, hl4⟩ := laid_get 0 hl3 rfl
  obtain rfl : g0 = 0 := Option.some.inj (hg0.symm.trans (by kernel_rfl))
  obtain rfl : g1 = 1 := Option.some.inj (hg1.symm.trans (by kernel_rfl))
  obtain rfl : g2 = 3 := Option.some.inj (hg2.symm.trans (by kernel_rfl))
  obtain rfl : g3 = 10 := Option.some.inj (hg3.symm.trans (by kernel_rfl))
  obtain rfl : g4 = 11 := Option.some.inj (hg4.symm.trans (by kernel_rfl))
  obtain rfl : t0 = 55 := Option.some.inj (ht0.symm.trans (by kernel_rfl))
  obtain rfl : t1 = 55 := Option.some.inj (ht1.symm.trans (by kernel_rfl))
  obtain rfl : t2 = 55 := Option.some.inj (ht2.symm.trans (by kernel_rfl))
  obtain rfl : t3 = 156 := Option.some.inj (ht3.symm.trans (by kernel_rfl))
  obtain rfl : t4 = 156 := Option.some.inj (ht4.symm.trans (by kernel_rfl))
  obtain ⟨ae, hc0, _, _⟩ := sent rfl hg0 hv0 hd0 (fun x hx => by rw [e0]; exact List.mem_append_right _ (List.mem_append_left _ hx)) hrows
  obtain ⟨_, u1, w1, q1, _, _⟩ := iface_of_trod Tryd.underlying55 hd1
  obtain ⟨_, u2, w2, q2, _, _⟩ := iface_of_trod Tryd.underlying55 hd2
  obtain ⟨ao, co, q3, hT3⟩ := env.tab_of_laid [1, 2, 4, 8] Tryd.underlying156 Tryd.underlying158 Tryd.underlying5 Tryd.underlying139 rfl rfl (by kernel_rfl) (by kernel_rfl) (by kernel_rfl) hd3 rfl (by
    intro k m hm
    match k, hm with
    | 0, hm => cases hm; rfl
    | 1, hm => cases hm; rfl
    | 2, hm => cases hm; rfl
    | 3, hm => cases hm; rfl)
  obtain ⟨az, cz, q4, hT4⟩ := env.tab_of_laid [16, 32, 64] Tryd.underlying156 Tryd.underlying158 Tryd.underlying5 Tryd.underlying139 rfl rfl (by kernel_rfl) (by kernel_rfl) (by kernel_rfl) hd4 rfl (by
    intro k m hm
    match k, hm with
    | 0, hm => cases hm; rfl
    | 1, hm => cases hm; rfl
    | 2, hm => cases hm; rfl)
  have k1 := World.var?_cell hg1 hv1 0
  have k2 := World.var?_cell hg2 hv2 0
  have k3 := World.var?_cell hg3 hv3 0
  have k4 := World.var?_cell hg4 hv4 0
  rw [← Array.getElem?_toList, q1] at k1
  rw [← Array.getElem?_toList, q2] at k2
  rw [← Array.getElem?_toList, q3] at k3
  rw [← Array.getElem?_toList, q4] at k4
  exact ⟨_, ao, az, co, cz, ae, ⟨k1, ⟨u1, w1, rfl⟩, ⟨u2, w2, k2⟩, k3, hT3, k4, hT4⟩, hc0⟩
theorem contract (H : Type) (enc : TypeId × Value → H) (W : World) (base : Nat) (args : Array Value) (ds gs : List (DataW H)) (before : List MemPlace)
    (hval0 : ∀ (j : Nat) t v, Tryd.f4.params[j]? = some t → args[j]? = some v → Value.okWide Tryd.prog W .any base t v)
    (hW : DataW.Whole enc Tryd.prog Tryd.f4.params.toList Rows.fnDeltaRoadsSpec.vars false W args.toList ds gs before)
    (hsz0 : (DataW.weightsEach Tryd.prog (Tryd.f4.params.toList ++ Rows.fnDeltaRoadsSpec.plain.varTypes Tryd.prog) (ds ++ gs)).all (· ≤ reachBytes) = true)
    (hL : laidMetH Tryd.prog Rows.fnDeltaRoadsRow.laid W) (hsh : W.ShapedOpen Tryd.prog) :
    Calls Tryd.prog 4 args W fun e W' => ∃ v, e = .returned v ∧ Rows.fnDeltaRoadsSpec.post enc Tryd.prog Tryd.f4 false true false false W args v W' := by
  have hW' := hW
  obtain ⟨p, q, hA0, hV, rfl, hfz, hnd⟩ := hW
  have hA : DataW.TrodAll enc Tryd.prog W 0 (fun _ => true) true Tryd.f4.params.toList args.toList ds p := hA0
  have hval : ∀ (j : Nat) t v, Tryd.f4.params[j]? = some t → args[j]? = some v → Value.okWide Tryd.prog W .any base t v := hval0
  rw [Tryd.params4] at hA hval
  obtain ⟨v0, vs0, d0, ds0, p0, q0, hargs, rfl, rfl, h0, r0⟩ := trodAll_cons hA
  obtain ⟨v1, vs1, d1, ds1, p1, q1, rfl, rfl, rfl, h1, r1⟩ := trodAll_cons r0
  obtain ⟨rfl, rfl, rfl⟩ := trodAll_nil r1
  obtain rfl : args = #[v0, v1] := by cases args; simp_all
  obtain ⟨g0_, g1_, g2_, g3_, g4_, rfl⟩ : ∃ g0_ g1_ g2_ g3_ g4_, gs = [g0_, g1_, g2_, g3_, g4_] := by
    have hlen : gs.length = 5 := close.trodVars_length hV
    match gs, hlen with
    | [x0, x1, x2, x3, x4], _ => exact ⟨x0, x1, x2, x3, x4, rfl⟩
  obtain ⟨A0, n0, c0, rfl⟩ := okWide_slice Tryd.underlying25 (hval 0 25 v0 rfl rfl)
  obtain ⟨x0, hx0, hc0, hC0, hg0, hm0⟩ := opens.slice_arg (d := (Kd.int .u8)) Tryd.underlying25 (by kernel_rfl) (opens.int_ Tryd.underlying5) rfl h0
  obtain ⟨A1, n1, c1, rfl⟩ := okWide_slice Tryd.underlying25 (hval 1 25 v1 rfl rfl)
  obtain ⟨x1, hx1, hc1, hC1, hg1, hm1⟩ := opens.slice_arg (d := (Kd.int .u8)) Tryd.underlying25 (by kernel_rfl) (opens.int_ Tryd.underlying5) rfl h1
  have hcm1 := cap_arg Tryd.underlying25 h1
  obtain ⟨e2, ao, az, co, cz, ae, hE, hEof⟩ := env_of hL
  refine (rf.roads_law W A0 A1 n0 n1 c0 c1 x0 x1 hx0 hx1 hC0 hc0 hC1 hc1 (env.u8_bytes hg1) hcm1 e2 ao az co cz hE ae hEof).mono fun e W' ⟨he, bel⟩ => ?_
  exact ⟨_, he, close.law_post laidOut (by kernel_rfl) (by kernel_rfl) rfl Tryd.underlying4 hW' bel rfl rfl rfl⟩
/-- A world for the witness: the settled one, the listed variables as the program's text lays them. -/
noncomputable def laidWorld (os : Os) : World := World.laidAll Tryd.prog os Rows.fnDeltaRoadsRow.laid
theorem laid_met (os : Os) : laidMet Tryd.prog Rows.fnDeltaRoadsRow.laid ((laidWorld os).forCall (fun _ _ => 0) ⟨#[], #[.slice none 0 0, .slice none 0 0], []⟩).memory :=
  laidMet_laidAll _ (by kernel_rfl) (by kernel_rfl)
theorem reads (os : Os) {H : Type} (enc : TypeId × Value → H) : ∃ x, DataW.whole enc Tryd.prog ((laidWorld os).forCall (fun _ _ => 0) ⟨#[], #[.slice none 0 0, .slice none 0 0], []⟩).memory Tryd.f4.params.toList Rows.fnDeltaRoadsSpec.vars false (#[.slice none 0 0, .slice none 0 0] : Array Value).toList 8 = some x :=
  Option.isSome_iff_exists.1 (by kernel_rfl)
theorem lifted (os : Os) (started : os.Started) (H : Type) (enc : TypeId × Value → H) (F : Stop.Interp) :
    ReturnsInHanded {} Tryd.checked os 4 .any ((OpenSpec.ofChange Rows.fnDeltaRoadsSpec).preRow enc Tryd.prog Tryd.f4 Rows.fnDeltaRoadsRow.domain false Rows.fnDeltaRoadsRow.laid) (((OpenSpec.ofChange Rows.fnDeltaRoadsSpec).at F).post enc Tryd.prog Tryd.f4 false true false false) := by
  obtain ⟨x, hx⟩ := reads os enc
  refine returnsInHanded_of_row (C := Tryd.checked) (s := (OpenSpec.ofChange Rows.fnDeltaRoadsSpec)) own started (by kernel_rfl) Tryd.func4
    (witness_row_atRef (enc := enc) (C := Tryd.checked) false (laidWorld os) #[.slice none 0 0, .slice none 0 0] rfl (by kernel_rfl) (by kernel_rfl) (by kernel_rfl)
      (OpenSpec.preRow_of_cond 8 hx rfl (fun k hk => by cases hk) (by kernel_rfl) (laid_met os))) ?_
  intro W base args ds gs before hval hW _ hcond hsz hL hsh _
  exact contract H enc W base args ds gs before hval hW hsz hL hsh
theorem said : Rows.FnDeltaRoadsSaid :=
  OpenClaim.holds_of_cond 4 Tryd.f4 rfl rfl rfl rfl rfl rfl rfl ⟨rfl, rfl, rfl, rfl, rfl⟩ rfl rfl rfl rfl rfl (by kernel_rfl) Tryd.func4 (by kernel_rfl)
    (of_decide_eq_true (by kernel_rfl)) (by unfold Func.isWrapper; first | (rw [if_pos (by decide +kernel)]; kernel_rfl) | (rw [if_neg (by decide +kernel)]; exact ⟨rfl, rfl⟩))
    (fun os started H enc _ F => by rw [OpenClaim.pre_eq_preRow]; exact lifted os started H enc F)
theorem plain (f : FuncId) (fn : Func) (hf : Tryd.pinned.checked.prog.funcNamed "loop.example/pub-g01474/laws.FnDeltaRoads" = some f) (hfn : Tryd.pinned.checked.prog.funcs[f]? = some fn) :
    true = Tryd.pinned.checked.prog.looks [] ∧ ∀ (j : Nat) t, fn.params[j]? = some t → Tryd.pinned.checked.prog.wantsStandIn t = false := by
  obtain rfl : f = 4 := Option.some.inj ((show Tryd.prog.funcNamed "loop.example/pub-g01474/laws.FnDeltaRoads" = some 4 by kernel_rfl).symm.trans hf) |>.symm
  obtain rfl : fn = Tryd.f4 := (Option.some.inj (Tryd.func4.symm.trans hfn)).symm
  refine ⟨by kernel_rfl, fun j t ht => ?_⟩
  have hall : (Tryd.f4.params.toList.all fun t => !(Tryd.prog.wantsStandIn t)) = true := by kernel_rfl
  have := List.all_eq_true.1 hall t (Array.mem_toList_iff.2 (Array.mem_of_getElem? ht))
  exact (by simpa using this : Tryd.prog.wantsStandIn t = false)
/-- The card. -/
theorem card : Rows.FnDeltaRoadsCardSaid :=
  Claim7.holds_tied_plain_at .later [] _ _ _ _ said (fun _ h => by cases h) (by kernel_rfl) (fun _ h => by cases h) fnDeltaRoads_row_tie rfl ⟨rfl, rfl⟩ (by kernel_rfl) rfl plain (by kernel_rfl)
#print axioms card
end Go.Proofs.YtghcecngdhcjpaaDoor.fnDeltaRoads
