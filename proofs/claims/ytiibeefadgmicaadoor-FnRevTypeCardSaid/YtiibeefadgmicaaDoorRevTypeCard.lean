/- A kind in braces asks for an object of this kind, nothing in braces for what a tag leads to: FnRevType answers true for all arguments. Conditions: the arguments are no longer than the row lets them be; the listed variables hold what the program's text lays in them (the card ties them). -/
import Derived.Test.YtiibeefadgmicaaDoorCards
import Derived.Test.YtiibeefadgmicaaDoorTie
import Derived.Test.YtiibeefadgmicaaDoorClose
import Derived.Test.YtiibeefadgmicaaDoorRevTypeL
import Derived.Test.YtiibeefadgmicaaDoorOpens
import Derived.Lib.LaidU8
import Derived.Lib.LaidTab
import Derived.Shelf.Unicode.PropsLaid
import Derived.Deep.DeepHandedRow
import Derived.Deep.DeepWitnessRowRef
import Derived.LaidLaws
import Derived.Lay
namespace Go.Proofs.YtiibeefadgmicaaDoor.fnRevType
open Go.ChangeShapes Go.WideShapes Go.ChangeAt Go.RowKit Go.Proofs.YtiibeefadgmicaaDoorW.PrintWords
set_option linter.unusedVariables false
set_option maxRecDepth 100000
open Go.ChangeMaps (open_string shut_string)
theorem own : ownKnob Tryd.prog.godebug = none := by kernel_rfl
theorem laidOut : laidOutB Tryd.prog = true := by kernel_rfl
/-- One entry of the listed variables, and what stands ahead of it and behind it. -/
theorem laid_get {P : Program} {w : World} : ∀ {laid : List (String × DataW Unit)} {ps : List MemPlace} (i : Nat) {n : String} {d : DataW Unit}, DataW.LaidVars P w laid ps → laid[i]? = some (n, d) → ∃ g t cs fuel p A B, P.globalNamed n = some g ∧ (P.globals[g]?).map (·.type) = some t ∧ w.var? P n = some cs ∧ DataW.trod (fun _ => ()) P w 0 (fun _ => true) false fuel t cs.toList = some (d, p) ∧ ps = A ++ ((MemPlace.row ⟨g, 0, none⟩ cs.size ++ p) ++ B) ∧ DataW.LaidVars P w (laid.drop (i + 1)) B
  | [], ps, i, n, d, h, hi => by cases i <;> cases hi
  | (n0, d0) :: r, ps, 0, n, d, h, hi => by
    obtain ⟨g, t, cs, fuel, p, q, h1, h2, h3, h4, h5, h6⟩ := h
    cases hi
    exact ⟨g, t, cs, fuel, p, [], q, h1, h2, h3, h4, by rw [h6, List.nil_append], h5⟩
  | (n0, d0) :: r, ps, i + 1, n, d, h, hi => by
    obtain ⟨g, t, cs, fuel, p, q, h1, h2, h3, h4, h5, h6⟩ := h
    obtain ⟨g', t', cs', fuel', p', A, B, k1, k2, k3, k4, k5, k6⟩ := laid_get i h5 hi
    refine ⟨g', t', cs', fuel', p', (MemPlace.row ⟨g, 0, none⟩ cs.size ++ p) ++ A, B, k1, k2, k3, k4, ?_, k6⟩
    rw [h6, k5, List.append_assoc]
    simp only [List.append_assoc]
theorem nodup_ne {α : Type} {X Y : List α} (h : (X ++ Y).Nodup) {x : α} (hx : x ∈ X) (hy : x ∈ Y) : False := (List.nodup_append.1 h).2.2 x hx x hy rfl
theorem starN : "*" ++ "errors.errorString" = "*errors.errorString" := by decide
theorem u8_range {n : Int} (h : (Lit.int .u8 n).wf = true) : 0 ≤ n ∧ n < 256 := by
  have e0 : IntKind.u8.min = 0 := rfl
  have e1 : IntKind.u8.max = 255 := rfl
  simp only [Lit.wf, Bool.and_eq_true, decide_eq_true_eq, e0, e1] at h
  omega
theorem errName : ∀ u, Tryd.prog.typeName? 3 u = some "*errors.errorString" → u = 145 := fun u h => typeName_ptr_named (nm := "errors.errorString") (by rw [starN]; kernel_rfl) (by kernel_rfl) (by decide) u (by rw [starN]; exact h)
theorem sent {W : World} {n : String} {text : List UInt8} {g : Nat} {t : TypeId} {cs : Array Value} {fuel : Nat} {p ps : List MemPlace} (ht : t = 42) (hg : Tryd.prog.globalNamed n = some g) (hv : W.var? Tryd.prog n = some cs)
    (hd : DataW.trod (fun _ => ()) Tryd.prog W 0 (fun _ => true) false fuel t cs.toList = some (.iface "*errors.errorString" (.ptr (.agg [.lit (.string text)])), p))
    (hin : ∀ x, x ∈ MemPlace.row ⟨g, 0, none⟩ cs.size ++ p → x ∈ ps)
    (hrows : ∀ b off, MemPlace.cell b off ∈ ps → (∃ c t, W.heap[b]? = some (.cells c t (0, 0))) ∧ ∀ u v, W.cell? ⟨b, off, none⟩ = some (.iface u v) → Value.okWide Tryd.prog W .any 0 u v) :
    ∃ a, W.cell? ⟨g, 0, none⟩ = some (.iface 145 (.pointer (some a))) ∧ (∃ c t, W.heap[a.block]? = some (.cells c t (0, 0))) ∧ p = MemPlace.row a 1 := by
  subst ht
  obtain ⟨l⟩ := cs
  have ok : ∀ u v, l = [.iface u v] → Value.okWide Tryd.prog W .any 0 u v := fun u v e => by
    subst e
    exact (hrows g 0 (hin _ (by simp [MemPlace.row]))).2 u v (by simpa using World.var?_cell hg hv 0)
  obtain ⟨a, s, e, hc, hs, hz, rfl⟩ := errorString_of_trod Tryd.underlying42 errName Tryd.underlying145 Tryd.underlying147 rfl rfl Tryd.underlying9 (by kernel_rfl) (by kernel_rfl) hd ok
  have e' : l = [.iface 145 (.pointer (some a))] := e
  subst e'
  exact ⟨a, by simpa using World.var?_cell hg hv 0, (hrows a.block a.off (hin _ (by simp [MemPlace.row]))).1, rfl⟩
theorem first240 : ∀ c : Fin 128, Lib.firstTab[c.1]? = some 240 := by decide +kernel
theorem props : ∀ n : Fin 256, (rev.isA (UInt8.ofNat n.1) = true ∨ rev.isS (UInt8.ofNat n.1) = true) → Lib.propertiesTab[n.1]? = some (rev.pv (UInt8.ofNat n.1)) := by decide +kernel
theorem tab_cell {W : World} {n : String} {g : Nat} {zs : List Int} (hg : Tryd.prog.globalNamed n = some g) (ht : (Tryd.prog.globals[g]?).map (·.type) = some 136) (h : Lib.VarReads Tryd.prog W n (Lib.tabData .u8 zs)) (j : Nat) : W.cell? ⟨g, j, none⟩ = (zs[j]?).map (Value.int .u8) := by
  obtain ⟨g', t', cs, fuel, p, hg', ht', hvar, hd⟩ := h
  obtain rfl := Option.some.inj (hg.symm.trans hg')
  obtain rfl : t' = 136 := Option.some.inj (ht'.symm.trans ht)
  have hc := Lib.cells_of_tab Tryd.underlying136 Tryd.underlying5 (by kernel_rfl) (by kernel_rfl) hd
  have hx := World.var?_cell hg hvar j
  rw [hx, ← Array.getElem?_toList, hc, List.getElem?_map]
theorem tabs_of {W : World} (h : laidMetH Tryd.prog Rows.fnRevTypeRow.laid W) (hsh : W.ShapedOpen Tryd.prog) : ∃ ea, rev.Tabs W ea := by
  have h' : laidMet Tryd.prog Rows.fnRevTypeRow.laid W := h
  have e1 : (Rows.laid_unicode_properties : DataW Unit) = Lib.tabData .u8 Lib.propertiesTab := by kernel_rfl
  have e2 : Rows.laid_unicode_utf8_first = Lib.firstData := by kernel_rfl
  have m1 : ("unicode.properties", Lib.tabData .u8 Lib.propertiesTab) ∈ Rows.fnRevTypeRow.laid := by rw [← e1]; exact (.tail _ (.tail _ (.tail _ (.tail _ (.tail _ (.tail _ (.tail _ (.tail _ (.tail _ (.head _))))))))))
  have m2 : ("unicode/utf8.first", Lib.firstData) ∈ Rows.fnRevTypeRow.laid := by rw [← e2]; exact (.tail _ (.tail _ (.tail _ (.tail _ (.tail _ (.tail _ (.tail _ (.tail _ (.tail _ (.tail _ (.tail _ (.tail _ (.tail _ (.tail _ (.head _)))))))))))))))
  have c1 := tab_cell (g := 2) (by kernel_rfl) (by kernel_rfl) (Lib.laidMet.reads h' m1)
  have c2 := tab_cell (g := 6) (by kernel_rfl) (by kernel_rfl) (Lib.laidMet.reads h' m2)
  obtain ⟨ps, hl, hnd, hrows⟩ := h'
  obtain ⟨g1, t1, cs1, f1, p1, A1, B1, hg1, ht1, hv1, hd1, e3, _⟩ := laid_get 6 hl rfl
  obtain rfl : g1 = 0 := Option.some.inj (hg1.symm.trans (by kernel_rfl))
  have k1 : t1 = 42 := Option.some.inj (ht1.symm.trans (by kernel_rfl))
  obtain ⟨a1, q1, b1, _⟩ := sent k1 hg1 hv1 hd1 (fun x hx => by rw [e3]; exact List.mem_append_right _ (List.mem_append_left _ hx)) hrows
  obtain ⟨ev, hev⟩ := close.shaped_cell hsh 15 (of_decide_eq_true (by kernel_rfl)) (by kernel_rfl)
  refine ⟨a1, fun c hc => ?_, fun c hc => ?_, q1, ?_⟩
  · rw [c2, first240 ⟨c, hc⟩]
    rfl
  · have hlt : c.toNat < 256 := c.toNat_lt
    have he : UInt8.ofNat c.toNat = c := UInt8.ofNat_toNat
    have := props ⟨c.toNat, hlt⟩
    simp only [he] at this
    rw [c1, this hc]
    rfl
  · exact World.block_lt_of_cell? W _ hev
theorem contract (H : Type) (enc : TypeId × Value → H) (W : World) (base : Nat) (args : Array Value) (ds gs : List (DataW H)) (before : List MemPlace)
    (hval0 : ∀ (j : Nat) t v, Tryd.f5.params[j]? = some t → args[j]? = some v → Value.okWide Tryd.prog W .any base t v)
    (hW : DataW.Whole enc Tryd.prog Tryd.f5.params.toList Rows.fnRevTypeSpec.vars false W args.toList ds gs before)
    (hsz0 : (DataW.weightsEach Tryd.prog (Tryd.f5.params.toList ++ Rows.fnRevTypeSpec.plain.varTypes Tryd.prog) (ds ++ gs)).all (· ≤ reachBytes) = true)
    (hL : laidMetH Tryd.prog Rows.fnRevTypeRow.laid W) (hsh : W.ShapedOpen Tryd.prog) :
    Calls Tryd.prog 5 args W fun e W' => ∃ v, e = .returned v ∧ Rows.fnRevTypeSpec.post enc Tryd.prog Tryd.f5 false true false false W args v W' := by
  have hW' := hW
  obtain ⟨p, q, hA0, hV, rfl, hfz, hnd⟩ := hW
  have hA : DataW.TrodAll enc Tryd.prog W 0 (fun _ => true) true Tryd.f5.params.toList args.toList ds p := hA0
  have hval : ∀ (j : Nat) t v, Tryd.f5.params[j]? = some t → args[j]? = some v → Value.okWide Tryd.prog W .any base t v := hval0
  rw [Tryd.params5] at hA hval
  obtain ⟨v0, vs0, d0, ds0, p0, q0, hargs, rfl, rfl, h0, r0⟩ := trodAll_cons hA
  obtain ⟨v1, vs1, d1, ds1, p1, q1, rfl, rfl, rfl, h1, r1⟩ := trodAll_cons r0
  obtain ⟨rfl, rfl, rfl⟩ := trodAll_nil r1
  obtain rfl : args = #[v0, v1] := by cases args; simp_all
  obtain ⟨rfl, rfl⟩ := trodVars_none hV
  obtain ⟨a0, rfl, rfl, rfl, w0⟩ := open_string Tryd.underlying9 (hval 0 9 v0 rfl rfl) h0
  obtain ⟨n1, rfl, rfl, rfl, w1⟩ := open_int Tryd.underlying3 (hval 1 3 v1 rfl rfl) h1
  obtain ⟨ea, hT⟩ := tabs_of hL hsh
  refine (rev.type_law W ea a0 n1 hT).mono fun e W' ⟨he, bel⟩ => ?_
  exact ⟨_, he, close.law_post laidOut (by kernel_rfl) (by kernel_rfl) rfl Tryd.underlying4 hW' bel rfl rfl rfl⟩
/-- A world for the witness: the settled one, the listed variables as the program's text lays them. -/
noncomputable def laidWorld (os : Os) : World := World.laidAll Tryd.prog os Rows.fnRevTypeRow.laid
theorem laid_met (os : Os) : laidMet Tryd.prog Rows.fnRevTypeRow.laid ((laidWorld os).forCall (fun _ _ => 0) ⟨#[], #[.string ⟨#[]⟩, .int .i64 0], []⟩).memory :=
  laidMet_laidAll _ (by kernel_rfl) (by kernel_rfl)
theorem reads (os : Os) {H : Type} (enc : TypeId × Value → H) : ∃ x, DataW.whole enc Tryd.prog ((laidWorld os).forCall (fun _ _ => 0) ⟨#[], #[.string ⟨#[]⟩, .int .i64 0], []⟩).memory Tryd.f5.params.toList Rows.fnRevTypeSpec.vars false (#[.string ⟨#[]⟩, .int .i64 0] : Array Value).toList 8 = some x :=
  Option.isSome_iff_exists.1 (by kernel_rfl)
theorem lifted (os : Os) (started : os.Started) (H : Type) (enc : TypeId × Value → H) (F : Stop.Interp) :
    ReturnsInHanded {} Tryd.checked os 5 .any ((OpenSpec.ofChange Rows.fnRevTypeSpec).preRow enc Tryd.prog Tryd.f5 Rows.fnRevTypeRow.domain false Rows.fnRevTypeRow.laid) (((OpenSpec.ofChange Rows.fnRevTypeSpec).at F).post enc Tryd.prog Tryd.f5 false true false false) := by
  obtain ⟨x, hx⟩ := reads os enc
  refine returnsInHanded_of_row (C := Tryd.checked) (s := (OpenSpec.ofChange Rows.fnRevTypeSpec)) own started (by kernel_rfl) Tryd.func5
    (witness_row_atRef (enc := enc) (C := Tryd.checked) false (laidWorld os) #[.string ⟨#[]⟩, .int .i64 0] rfl (by kernel_rfl) (by kernel_rfl) (by kernel_rfl)
      (OpenSpec.preRow_of_cond 8 hx rfl (fun k hk => by cases hk) (by kernel_rfl) (laid_met os))) ?_
  intro W base args ds gs before hval hW _ hcond hsz hL hsh _
  exact contract H enc W base args ds gs before hval hW hsz hL hsh
theorem said : Rows.FnRevTypeSaid :=
  OpenClaim.holds_of_cond 5 Tryd.f5 rfl rfl rfl rfl rfl rfl rfl ⟨rfl, rfl, rfl, rfl, rfl⟩ rfl rfl rfl rfl rfl (by kernel_rfl) Tryd.func5 (by kernel_rfl)
    (of_decide_eq_true (by kernel_rfl)) (by unfold Func.isWrapper; first | (rw [if_pos (by decide +kernel)]; kernel_rfl) | (rw [if_neg (by decide +kernel)]; exact ⟨rfl, rfl⟩))
    (fun os started H enc _ F => by rw [OpenClaim.pre_eq_preRow]; exact lifted os started H enc F)
theorem plain (f : FuncId) (fn : Func) (hf : Tryd.pinned.checked.prog.funcNamed "loop.example/pub-g01474/laws.FnRevType" = some f) (hfn : Tryd.pinned.checked.prog.funcs[f]? = some fn) :
    true = Tryd.pinned.checked.prog.looks [] ∧ ∀ (j : Nat) t, fn.params[j]? = some t → Tryd.pinned.checked.prog.wantsStandIn t = false := by
  obtain rfl : f = 5 := Option.some.inj ((show Tryd.prog.funcNamed "loop.example/pub-g01474/laws.FnRevType" = some 5 by kernel_rfl).symm.trans hf) |>.symm
  obtain rfl : fn = Tryd.f5 := (Option.some.inj (Tryd.func5.symm.trans hfn)).symm
  refine ⟨by kernel_rfl, fun j t ht => ?_⟩
  have hall : (Tryd.f5.params.toList.all fun t => !(Tryd.prog.wantsStandIn t)) = true := by kernel_rfl
  have := List.all_eq_true.1 hall t (Array.mem_toList_iff.2 (Array.mem_of_getElem? ht))
  exact (by simpa using this : Tryd.prog.wantsStandIn t = false)
/-- The card. -/
theorem card : Rows.FnRevTypeCardSaid :=
  Claim7.holds_tied_plain_at .later [] _ _ _ _ said (fun _ h => by cases h) (by kernel_rfl) (fun _ h => by cases h) fnRevType_row_tie rfl ⟨rfl, rfl⟩ (by kernel_rfl) rfl plain (by kernel_rfl)
#print axioms card
end Go.Proofs.YtiibeefadgmicaaDoor.fnRevType
