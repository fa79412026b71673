/- Shared by the laws of this seat: where a call answers true and leaves all old memory as it was, the row's post holds. No condition of its own. -/
import Derived.Test.YtghcecngdhcjpaaDoorRows
import Derived.WalkKit
import Derived.ProofKit
import Derived.OpenShut
import Derived.OpenVars
import Derived.ChangeOld
import Derived.Below
namespace Go.Proofs.YtghcecngdhcjpaaDoor.close
open Go.ChangeShapes Go.WideShapes Go.ChangeAt Go.RowKit
theorem trodAll_below {H : Type} {enc : TypeId × Value → H} {P : Program} (hl : laidOutB P = true) {W W' : World} (hb : Below W.heap.size W W') :
    ∀ {ts : List TypeId} {vs : List Value} {ds : List (DataW H)} {ps : List MemPlace}, (∀ t ∈ ts, P.readableRec t = true ∧ t < P.types.size) → DataW.TrodAll enc P W 0 (fun _ => true) true ts vs ds ps →
      (∀ x ∈ ps, x.block < W.heap.size) → DataW.TrodAll enc P W' 0 (fun b => decide (b < W.heap.size)) true ts vs ds ps
  | [], vs, ds, ps, _, h, _ => by
    obtain ⟨rfl, rfl, rfl⟩ := trodAll_nil h
    exact trodAll_mk0
  | t :: ts, vs, ds, ps, ht, h, hlt => by
    obtain ⟨v, vs', d, ds', p, q, rfl, rfl, rfl, h1, h2⟩ := trodAll_cons h
    have h0 := ht t List.mem_cons_self
    exact trodAll_cons_mk (Below.trod hl h0.1 h0.2 h1 hb (fun x hx => hlt x (List.mem_append_left _ hx)))
      (trodAll_below hl hb (fun t' h' => ht t' (List.mem_cons_of_mem _ h')) h2 (fun x hx => hlt x (List.mem_append_right _ hx)))
theorem trodVars_length {H : Type} {enc : TypeId × Value → H} {P : Program} {W : World} {sp : Nat → Bool} : ∀ {ns : List String} {gs : List (DataW H)} {ps : List MemPlace}, DataW.TrodVars enc P W sp ns gs ps → gs.length = ns.length
  | [], [], _, _ => rfl
  | [], _ :: _, _, h => h.elim
  | _ :: _, [], _, h => h.elim
  | _ :: _, _ :: _, _, h => by
    obtain ⟨g, t, cs, fuel, p, q, h1, h2, h3, h4, hs, e⟩ := h
    rw [List.length_cons, List.length_cons, trodVars_length hs]
/-- The row's post, for a law: it answers true; arguments and listed variables read as they did. -/
theorem law_post {H : Type} {enc : TypeId × Value → H} {P : Program} {f : Func} {s : ChangeSpec} {W W' : World} {args : Array Value} {ds gs : List (DataW H)} {before : List MemPlace} {tb : TypeId} {ho : Bool}
    (hl : laidOutB P = true) (hp : (f.params.toList.all fun t => P.readableRec t && decide (t < P.types.size)) = true) (hv : varsRowed P s.vars = true) (hr : f.resultTypes = #[tb]) (hub : P.underlying tb = some .bool)
    (hW : DataW.Whole enc P f.params.toList s.vars false W args.toList ds gs before) (hb : Below W.heap.size W W')
    (e1 : (s.fn H (ds ++ gs)).results = [.lit (.bool true)]) (e2 : (s.fn H (ds ++ gs)).args = ds) (e3 : (s.fn H (ds ++ gs)).vars = gs) :
    s.post enc P f false true ho false W args (.bool true) W' := by
  have hlt := hW.lt
  have hW' := hW
  obtain ⟨p, q, hA, hV, rfl, hfz, hnd⟩ := hW
  refine ⟨ds, gs, _, [], p, q, hW', ?_, ?_, ?_, hb.frame _, fun h => by cases h⟩
  · rw [e1, hr]
    exact trodAll_mk1 (shut_bool hub true)
  · rw [e2]
    refine trodAll_below hl hb (fun t ht => ?_) hA (fun x hx => hlt x (List.mem_append_left _ hx))
    have := List.all_eq_true.1 hp t ht
    simpa using this
  · rw [e3]
    exact Below.trodVars hl hb hv hV
/-- A package-level variable of one cell holds some value. -/
theorem shaped_cell {P : Program} {W : World} (h : W.ShapedOpen P) (g : Nat) (hg : g < P.globals.size) (hz : ((((begin P (fun _ _ => 0) default).world.heap[g]?).bind Obj.row?).map (fun z => z.1.size)) = some 1) :
    ∃ ev, W.cell? ⟨g, 0, none⟩ = some ev := by
  obtain ⟨⟨zero, t⟩, hzt, hsz⟩ := Option.map_eq_some_iff.1 hz
  obtain ⟨cs, hcs, hsize, _⟩ := h.1 g zero t hg hzt
  have h1 : 0 < cs.size := by rw [hsize]; simp at hsz; omega
  exact ⟨cs[0], by rw [cell_of_row W g 0 cs t (0, 0) hcs]; exact Array.getElem?_eq_getElem h1⟩
end Go.Proofs.YtghcecngdhcjpaaDoor.close
