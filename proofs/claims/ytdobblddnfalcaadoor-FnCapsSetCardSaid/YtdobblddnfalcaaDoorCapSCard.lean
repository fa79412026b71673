/- A capability set anew in a text of capabilities is read back once, with the values that were set: FnCapsSet answers true for all of them. Conditions: the arguments are no longer than the row lets them be; the listed variables hold what the program's text lays in them (the card ties them). -/
import Derived.Test.YtdobblddnfalcaaDoorCards
import Derived.Test.YtdobblddnfalcaaDoorTie
import Derived.Test.YtdobblddnfalcaaDoorClose
import Derived.Test.YtdobblddnfalcaaDoorSapT
import Derived.Test.YtdobblddnfalcaaDoorOpens
import Derived.Lib.LaidU8
import Derived.Lib.LaidTab
import Derived.Deep.DeepHandedRow
import Derived.Deep.DeepWitnessRowRef
import Derived.LaidLaws
import Derived.Lay
namespace Go.Proofs.YtdobblddnfalcaaDoor.fnCapsSet
open Go.ChangeShapes Go.WideShapes Go.ChangeAt Go.RowKit Go.Proofs.YtdobblddnfalcaaDoorW.PrintWords
set_option linter.unusedVariables false
set_option maxRecDepth 100000
open Go.ChangeMaps (open_string shut_string)
theorem own : ownKnob Tryd.prog.godebug = none := by kernel_rfl
theorem laidOut : laidOutB Tryd.prog = true := by kernel_rfl
theorem cap_opens : opens.Opens Tryd.prog 30 PFnCapsWritten.k30 (fun _ => True) := by
  intro H enc w fuel cs y hy
  obtain ⟨x, hK, _⟩ := opens.iso_ (f := fun x : PFnCapsWritten.S30 => (x.f0, x.f1)) (fun y => ⟨y.1, y.2⟩) (fun _ => rfl) (opens.struct_ (P := Tryd.prog) (t := 30) Tryd.underlying30 (by kernel_rfl) (opens.cons_ rfl (by kernel_rfl) rfl (opens.string_ Tryd.underlying9) (opens.one_ rfl (by kernel_rfl) (opens.slice_ Tryd.underlying28 (by kernel_rfl) (opens.string_ Tryd.underlying9))))) enc w fuel cs y hy
  exact ⟨x, hK, trivial⟩
/-- One entry of the listed variables, and what stands ahead of it and behind it. -/
theorem laid_get {P : Program} {w : World} : ∀ {laid : List (String × DataW Unit)} {ps : List MemPlace} (i : Nat) {n : String} {d : DataW Unit}, DataW.LaidVars P w laid ps → laid[i]? = some (n, d) → ∃ g t cs fuel p A B, P.globalNamed n = some g ∧ (P.globals[g]?).map (·.type) = some t ∧ w.var? P n = some cs ∧ DataW.trod (fun _ => ()) P w 0 (fun _ => true) false fuel t cs.toList = some (d, p) ∧ ps = A ++ ((MemPlace.row ⟨g, 0, none⟩ cs.size ++ p) ++ B) ∧ DataW.LaidVars P w (laid.drop (i + 1)) B
  | [], ps, i, n, d, h, hi => by cases i <;> cases hi
  | (n0, d0) :: r, ps, 0, n, d, h, hi => by
    obtain ⟨g, t, cs, fuel, p, q, h1, h2, h3, h4, h5, h6⟩ := h
    cases hi
    exact ⟨g, t, cs, fuel, p, [], q, h1, h2, h3, h4, by rw [h6, List.nil_append], h5⟩
  | (n0, d0) :: r, ps, i + 1, n, d, h, hi => by
    obtain ⟨g, t, cs, fuel, p, q, h1, h2, h3, h4, h5, h6⟩ := h
    obtain ⟨g', t', cs', fuel', p', A, B, k1, k2, k3, k4, k5, k6⟩ := laid_get i h5 hi
    refine ⟨g', t', cs', fuel', p', (MemPlace.row ⟨g, 0, none⟩ cs.size ++ p) ++ A, B, k1, k2, k3, k4, ?_, k6⟩
    rw [h6, k5, List.append_assoc]
    simp only [List.append_assoc]
theorem nodup_ne {α : Type} {X Y : List α} (h : (X ++ Y).Nodup) {x : α} (hx : x ∈ X) (hy : x ∈ Y) : False := (List.nodup_append.1 h).2.2 x hx x hy rfl
theorem starN : "*" ++ "errors.errorString" = "*errors.errorString" := by decide
theorem u8_range {n : Int} (h : (Lit.int .u8 n).wf = true) : 0 ≤ n ∧ n < 256 := by
  have e0 : IntKind.u8.min = 0 := rfl
  have e1 : IntKind.u8.max = 255 := rfl
  simp only [Lit.wf, Bool.and_eq_true, decide_eq_true_eq, e0, e1] at h
  omega
theorem errName : ∀ u, Tryd.prog.typeName? 3 u = some "*errors.errorString" → u = 138 := fun u h => typeName_ptr_named (nm := "errors.errorString") (by rw [starN]; kernel_rfl) (by kernel_rfl) (by decide) u (by rw [starN]; exact h)
theorem sent {W : World} {n : String} {text : List UInt8} {g : Nat} {t : TypeId} {cs : Array Value} {fuel : Nat} {p ps : List MemPlace} (ht : t = 48) (hg : Tryd.prog.globalNamed n = some g) (hv : W.var? Tryd.prog n = some cs)
    (hd : DataW.trod (fun _ => ()) Tryd.prog W 0 (fun _ => true) false fuel t cs.toList = some (.iface "*errors.errorString" (.ptr (.agg [.lit (.string text)])), p))
    (hin : ∀ x, x ∈ MemPlace.row ⟨g, 0, none⟩ cs.size ++ p → x ∈ ps)
    (hrows : ∀ b off, MemPlace.cell b off ∈ ps → (∃ c t, W.heap[b]? = some (.cells c t (0, 0))) ∧ ∀ u v, W.cell? ⟨b, off, none⟩ = some (.iface u v) → Value.okWide Tryd.prog W .any 0 u v) :
    ∃ a, W.cell? ⟨g, 0, none⟩ = some (.iface 138 (.pointer (some a))) ∧ (∃ c t, W.heap[a.block]? = some (.cells c t (0, 0))) ∧ p = MemPlace.row a 1 := by
  subst ht
  obtain ⟨l⟩ := cs
  have ok : ∀ u v, l = [.iface u v] → Value.okWide Tryd.prog W .any 0 u v := fun u v e => by
    subst e
    exact (hrows g 0 (hin _ (by simp [MemPlace.row]))).2 u v (by simpa using World.var?_cell hg hv 0)
  obtain ⟨a, s, e, hc, hs, hz, rfl⟩ := errorString_of_trod Tryd.underlying48 errName Tryd.underlying138 Tryd.underlying155 rfl rfl Tryd.underlying9 (by kernel_rfl) (by kernel_rfl) hd ok
  have e' : l = [.iface 138 (.pointer (some a))] := e
  subst e'
  exact ⟨a, by simpa using World.var?_cell hg hv 0, (hrows a.block a.off (hin _ (by simp [MemPlace.row]))).1, rfl⟩
theorem errs_of {W : World} (h : laidMetH Tryd.prog Rows.fnCapsSetRow.laid W) : ∃ a1 a2 a3, pkt.Errs W a1 a2 a3 := by
  have h' : laidMet Tryd.prog Rows.fnCapsSetRow.laid W := h
  obtain ⟨ps, hl, hnd, hrows⟩ := h'
  obtain ⟨g1, t1, cs1, f1, p1, A1, B1, hg1, ht1, hv1, hd1, e1, hl1⟩ := laid_get 2 hl rfl
  obtain ⟨g2, t2, cs2, f2, p2, A2, B2, hg2, ht2, hv2, hd2, e2, hl2⟩ := laid_get 0 hl1 rfl
  obtain ⟨g3, t3, cs3, f3, p3, A3, B3, hg3, ht3, hv3, hd3, e3, _⟩ := laid_get 3 hl2 rfl
  obtain rfl : g1 = 0 := Option.some.inj (hg1.symm.trans (by kernel_rfl))
  obtain rfl : g2 = 3 := Option.some.inj (hg2.symm.trans (by kernel_rfl))
  obtain rfl : g3 = 4 := Option.some.inj (hg3.symm.trans (by kernel_rfl))
  have k1 : t1 = 48 := Option.some.inj (ht1.symm.trans (by kernel_rfl))
  have k2 : t2 = 48 := Option.some.inj (ht2.symm.trans (by kernel_rfl))
  have k3 : t3 = 48 := Option.some.inj (ht3.symm.trans (by kernel_rfl))
  have m3 : ∀ x, x ∈ MemPlace.row ⟨_, 0, none⟩ cs3.size ++ p3 → x ∈ B2 := fun x hx => by rw [e3]; exact List.mem_append_right _ (List.mem_append_left _ hx)
  have m2 : ∀ x, x ∈ MemPlace.row ⟨_, 0, none⟩ cs2.size ++ p2 → x ∈ B1 := fun x hx => by rw [e2]; exact List.mem_append_right _ (List.mem_append_left _ hx)
  have n2 : ∀ x, x ∈ B2 → x ∈ B1 := fun x hx => by rw [e2]; exact List.mem_append_right _ (List.mem_append_right _ hx)
  have n1 : ∀ x, x ∈ B1 → x ∈ ps := fun x hx => by rw [e1]; exact List.mem_append_right _ (List.mem_append_right _ hx)
  obtain ⟨a1, c1, b1, q1⟩ := sent k1 hg1 hv1 hd1 (fun x hx => by rw [e1]; exact List.mem_append_right _ (List.mem_append_left _ hx)) hrows
  obtain ⟨a2, c2, b2, q2⟩ := sent k2 hg2 hv2 hd2 (fun x hx => n1 x (m2 x hx)) hrows
  obtain ⟨a3, c3, b3, q3⟩ := sent k3 hg3 hv3 hd3 (fun x hx => n1 x (n2 x (m3 x hx))) hrows
  have hx1 : MemPlace.cell a1.block a1.off ∈ MemPlace.row ⟨0, 0, none⟩ cs1.size ++ p1 := List.mem_append_right _ (by rw [q1]; simp [MemPlace.row])
  have hx2 : MemPlace.cell a2.block a2.off ∈ MemPlace.row ⟨3, 0, none⟩ cs2.size ++ p2 := List.mem_append_right _ (by rw [q2]; simp [MemPlace.row])
  have hx3 : MemPlace.cell a3.block a3.off ∈ B2 := m3 _ (List.mem_append_right _ (by rw [q3]; simp [MemPlace.row]))
  have d1 : (((MemPlace.row ⟨0, 0, none⟩ cs1.size ++ p1) ++ B1)).Nodup := (List.nodup_append.1 (e1 ▸ hnd)).2.1
  have d2 : (((MemPlace.row ⟨3, 0, none⟩ cs2.size ++ p2) ++ B2)).Nodup := (List.nodup_append.1 (e2 ▸ (List.nodup_append.1 d1).2.1)).2.1
  refine ⟨a1, a2, a3, c1, c2, c3, ?_, ?_, ?_, b1, b2, b3⟩
  · rintro rfl
    exact nodup_ne d1 hx1 (m2 _ hx2)
  · rintro rfl
    exact nodup_ne d1 hx1 (n2 _ hx3)
  · rintro rfl
    exact nodup_ne d2 hx2 hx3
theorem tab_below {n : String} {g : Nat} {k : IntKind} {zs : List Int} {w w' : World} (hg : Tryd.prog.globalNamed n = some g) (h : Lib.TabIs Tryd.prog w n k zs) (hb : Below w.heap.size w w') : Lib.TabIs Tryd.prog w' n k zs := by
  unfold Lib.TabIs World.var? at h ⊢
  rw [hg] at h ⊢
  simp only [Option.bind_some] at h ⊢
  cases hh : w.heap[g]? with
  | none => rw [hh] at h; simp at h
  | some o =>
    have hlt : g < w.heap.size := (Array.getElem?_eq_some_iff.1 hh).1
    rw [hb.block g hlt]
    exact h
theorem tab_of {W : World} (h : laidMetH Tryd.prog Rows.fnCapsSetRow.laid W) : ∀ W', Below W.heap.size W W' → Lib.TabIs Tryd.prog W' "bytes.asciiSpace" .u8 Lib.asciiSpaceTab := by
  have h' : laidMet Tryd.prog Rows.fnCapsSetRow.laid W := h
  have e5 : (Rows.laid_bytes_asciiSpace : DataW Unit) = Lib.tabData .u8 Lib.asciiSpaceTab := by kernel_rfl
  have m5 : ("bytes.asciiSpace", Lib.tabData .u8 Lib.asciiSpaceTab) ∈ Rows.fnCapsSetRow.laid := by rw [← e5]; exact .tail _ (.tail _ (.tail _ (.tail _ (.tail _ (.head _)))))
  have hgA : Tryd.prog.globalNamed "bytes.asciiSpace" = some 2 := by kernel_rfl
  have hT : Lib.TabIs Tryd.prog W "bytes.asciiSpace" .u8 Lib.asciiSpaceTab := by
    obtain ⟨g', t', cs, fuel, p, hg', ht', hvar, hd⟩ := Lib.laidMet.reads h' m5
    obtain rfl := Option.some.inj (hgA.symm.trans hg')
    obtain rfl : t' = 99 := Option.some.inj (ht'.symm.trans (by kernel_rfl))
    unfold Lib.TabIs
    rw [hvar, ← Lib.cells_of_tab Tryd.underlying99 Tryd.underlying5 (by kernel_rfl) (by kernel_rfl) hd]
  exact fun W' hB => tab_below hgA hT hB
theorem contract (H : Type) (enc : TypeId × Value → H) (W : World) (base : Nat) (args : Array Value) (ds gs : List (DataW H)) (before : List MemPlace)
    (hval0 : ∀ (j : Nat) t v, Tryd.f4.params[j]? = some t → args[j]? = some v → Value.okWide Tryd.prog W .any base t v)
    (hW : DataW.Whole enc Tryd.prog Tryd.f4.params.toList Rows.fnCapsSetSpec.vars false W args.toList ds gs before)
    (hsz0 : (DataW.weightsEach Tryd.prog (Tryd.f4.params.toList ++ Rows.fnCapsSetSpec.plain.varTypes Tryd.prog) (ds ++ gs)).all (· ≤ reachBytes) = true)
    (hL : laidMetH Tryd.prog Rows.fnCapsSetRow.laid W) (hsh : W.ShapedOpen Tryd.prog) :
    Calls Tryd.prog 4 args W fun e W' => ∃ v, e = .returned v ∧ Rows.fnCapsSetSpec.post enc Tryd.prog Tryd.f4 false true false false W args v W' := by
  have hW' := hW
  obtain ⟨p, q, hA0, hV, rfl, hfz, hnd⟩ := hW
  have hA : DataW.TrodAll enc Tryd.prog W 0 (fun _ => true) true Tryd.f4.params.toList args.toList ds p := hA0
  have hval : ∀ (j : Nat) t v, Tryd.f4.params[j]? = some t → args[j]? = some v → Value.okWide Tryd.prog W .any base t v := hval0
  rw [Tryd.params4] at hA hval
  obtain ⟨v0, vs0, d0, ds0, p0, q0, hargs, rfl, rfl, h0, r0⟩ := trodAll_cons hA
  obtain ⟨v1, vs1, d1, ds1, p1, q1, rfl, rfl, rfl, h1, r1⟩ := trodAll_cons r0
  obtain ⟨rfl, rfl, rfl⟩ := trodAll_nil r1
  obtain rfl : args = #[v0, v1] := by cases args; simp_all
  obtain ⟨g0_, g1_, g2_, g3_, g4_, rfl⟩ : ∃ g0_ g1_ g2_ g3_ g4_, gs = [g0_, g1_, g2_, g3_, g4_] := by
    have hlen : gs.length = 5 := close.trodVars_length hV
    match gs, hlen with
    | [x0, x1, x2, x3, x4], _ => exact ⟨x0, x1, x2, x3, x4, rfl⟩
  obtain ⟨A0, n0, c0, rfl⟩ := okWide_slice Tryd.underlying22 (hval 0 22 v0 rfl rfl)
  obtain ⟨x0, hx0, hc0, hC0, hg0, hm0⟩ := opens.slice_arg (d := PFnCapsWritten.k30) Tryd.underlying22 (by kernel_rfl) (cap_opens) rfl h0
  obtain ⟨fl1, h1⟩ := h1
  obtain ⟨y1, hy1, _⟩ := cap_opens enc W fl1 _ _ h1
  obtain ⟨cs1, rfl, _⟩ := okWide_struct Tryd.underlying30 (hval 1 30 v1 rfl rfl)
  obtain ⟨A1, c1, e1, hc1, hC1⟩ := PFnCapsWritten.k30_open hy1
  obtain rfl : cs1 = #[.string y1.f0, .slice A1 y1.f1.length c1] := by cases cs1; simpa [Value.cells] using e1
  obtain ⟨b1, b2, b3, hE⟩ := errs_of hL
  refine (cap.set_law W A0 n0 c0 x0 hC0 hx0 hc0 y1 A1 c1 hC1 hc1 b1 b2 b3 hE (tab_of hL)).mono fun e W' ⟨he, bel⟩ => ?_
  exact ⟨_, he, close.law_post laidOut (by kernel_rfl) (by kernel_rfl) rfl Tryd.underlying4 hW' bel rfl rfl rfl⟩
/-- A world for the witness: the settled one, the listed variables as the program's text lays them. -/
noncomputable def laidWorld (os : Os) : World := World.laidAll Tryd.prog os Rows.fnCapsSetRow.laid
theorem laid_met (os : Os) : laidMet Tryd.prog Rows.fnCapsSetRow.laid ((laidWorld os).forCall (fun _ _ => 0) ⟨#[], #[.slice none 0 0, .agg #[.string ⟨#[]⟩, .slice none 0 0]], []⟩).memory :=
  laidMet_laidAll _ (by kernel_rfl) (by kernel_rfl)
theorem reads (os : Os) {H : Type} (enc : TypeId × Value → H) : ∃ x, DataW.whole enc Tryd.prog ((laidWorld os).forCall (fun _ _ => 0) ⟨#[], #[.slice none 0 0, .agg #[.string ⟨#[]⟩, .slice none 0 0]], []⟩).memory Tryd.f4.params.toList Rows.fnCapsSetSpec.vars false (#[.slice none 0 0, .agg #[.string ⟨#[]⟩, .slice none 0 0]] : Array Value).toList 8 = some x :=
  Option.isSome_iff_exists.1 (by kernel_rfl)
theorem lifted (os : Os) (started : os.Started) (H : Type) (enc : TypeId × Value → H) (F : Stop.Interp) :
    ReturnsInHanded {} Tryd.checked os 4 .any ((OpenSpec.ofChange Rows.fnCapsSetSpec).preRow enc Tryd.prog Tryd.f4 Rows.fnCapsSetRow.domain false Rows.fnCapsSetRow.laid) (((OpenSpec.ofChange Rows.fnCapsSetSpec).at F).post enc Tryd.prog Tryd.f4 false true false false) := by
  obtain ⟨x, hx⟩ := reads os enc
  refine returnsInHanded_of_row (C := Tryd.checked) (s := (OpenSpec.ofChange Rows.fnCapsSetSpec)) own started (by kernel_rfl) Tryd.func4
    (witness_row_atRef (enc := enc) (C := Tryd.checked) false (laidWorld os) #[.slice none 0 0, .agg #[.string ⟨#[]⟩, .slice none 0 0]] rfl (by kernel_rfl) (by kernel_rfl) (by kernel_rfl)
      (OpenSpec.preRow_of_cond 8 hx rfl (fun k hk => by cases hk) (by kernel_rfl) (laid_met os))) ?_
  intro W base args ds gs before hval hW _ hcond hsz hL hsh _
  exact contract H enc W base args ds gs before hval hW hsz hL hsh
theorem said : Rows.FnCapsSetSaid :=
  OpenClaim.holds_of_cond 4 Tryd.f4 rfl rfl rfl rfl rfl rfl rfl ⟨rfl, rfl, rfl, rfl, rfl⟩ rfl rfl rfl rfl rfl (by kernel_rfl) Tryd.func4 (by kernel_rfl)
    (of_decide_eq_true (by kernel_rfl)) (by unfold Func.isWrapper; first | (rw [if_pos (by decide +kernel)]; kernel_rfl) | (rw [if_neg (by decide +kernel)]; exact ⟨rfl, rfl⟩))
    (fun os started H enc _ F => by rw [OpenClaim.pre_eq_preRow]; exact lifted os started H enc F)
theorem plain (f : FuncId) (fn : Func) (hf : Tryd.pinned.checked.prog.funcNamed "loop.example/pub-g01474/laws.FnCapsSet" = some f) (hfn : Tryd.pinned.checked.prog.funcs[f]? = some fn) :
    true = Tryd.pinned.checked.prog.looks [] ∧ ∀ (j : Nat) t, fn.params[j]? = some t → Tryd.pinned.checked.prog.wantsStandIn t = false := by
  obtain rfl : f = 4 := Option.some.inj ((show Tryd.prog.funcNamed "loop.example/pub-g01474/laws.FnCapsSet" = some 4 by kernel_rfl).symm.trans hf) |>.symm
  obtain rfl : fn = Tryd.f4 := (Option.some.inj (Tryd.func4.symm.trans hfn)).symm
  refine ⟨by kernel_rfl, fun j t ht => ?_⟩
  have hall : (Tryd.f4.params.toList.all fun t => !(Tryd.prog.wantsStandIn t)) = true := by kernel_rfl
  have := List.all_eq_true.1 hall t (Array.mem_toList_iff.2 (Array.mem_of_getElem? ht))
  exact (by simpa using this : Tryd.prog.wantsStandIn t = false)
/-- The card. -/
theorem card : Rows.FnCapsSetCardSaid :=
  Claim7.holds_tied_plain_at .later [] _ _ _ _ said (fun _ h => by cases h) (by kernel_rfl) (fun _ h => by cases h) fnCapsSet_row_tie rfl ⟨rfl, rfl⟩ (by kernel_rfl) rfl plain (by kernel_rfl)
#print axioms card
end Go.Proofs.YtdobblddnfalcaaDoor.fnCapsSet
