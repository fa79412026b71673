/- What the listed variables of the package packfile hold, out of the row's own words. No condition of its own. -/
import Derived.Test.YtghcecngdhcjpaaDoorRows
import Derived.Test.YtghcecngdhcjpaaDoorOpens
import Derived.Test.YtghcecngdhcjpaaDoorImplPatch
import Derived.Test.YtghcecngdhcjpaaDoorPFnDeltaRoadsx0
import Derived.LaidLaws
namespace Go.Proofs.YtghcecngdhcjpaaDoor.env
open Go.ChangeShapes Go.WideShapes Go.ChangeAt Go.RowKit Go.Proofs.YtghcecngdhcjpaaDoorW.PrintWords Go.Proofs.YtghcecngdhcjpaaDoor.leb
set_option linter.unusedVariables false
set_option maxRecDepth 100000
theorem u8_range {n : Int} (h : (Lit.int .u8 n).wf = true) : 0 ≤ n ∧ n < 256 := by
  have e0 : IntKind.u8.min = 0 := rfl
  have e1 : IntKind.u8.max = 255 := rfl
  simp only [Lit.wf, Bool.and_eq_true, decide_eq_true_eq, e0, e1] at h
  omega
theorem u8_bytes {xs : List Int} (h : ∀ x ∈ xs, (Lit.int .u8 x).wf = true) : Bytes xs := fun x hx => u8_range (h x hx)
theorem i64_lo {n : Int} (h : (Lit.int .i64 n).wf = true) : -9223372036854775808 ≤ n := by
  have e0 : IntKind.i64.min = -9223372036854775808 := rfl
  have e1 : IntKind.i64.max = 9223372036854775807 := rfl
  simp only [Lit.wf, Bool.and_eq_true, decide_eq_true_eq, e0, e1] at h
  omega
theorem i64_hi {n : Int} (h : (Lit.int .i64 n).wf = true) : n ≤ 9223372036854775807 := by
  have e0 : IntKind.i64.min = -9223372036854775808 := rfl
  have e1 : IntKind.i64.max = 9223372036854775807 := rfl
  simp only [Lit.wf, Bool.and_eq_true, decide_eq_true_eq, e0, e1] at h
  omega
theorem tab_of_laid {H : Type} {enc : TypeId × Value → H} {P : Program} {W : World} {sp : Nat → Bool} {held : Bool} {fuel : Nat} {t e : TypeId} {f0 f1 : Field} {cs : List Value} {ds : List (DataW H)} {p : List MemPlace} (ms : List Nat)
    (ht : P.underlying t = some (.slice e)) (he : P.underlying e = some (.struct #[f0, f1])) (h0 : P.underlying f0.type = some (.int .u8)) (h1 : P.underlying f1.type = some (.int .u64)) (o0 : f0.offset = 0) (o1 : f1.offset = 1) (c0 : P.cellsOf f0.type = 1) (c1 : P.cellsOf f1.type = 1) (ce : P.cellsOf e = 2)
    (h : DataW.trod enc P W 0 sp held fuel t cs = some (.slice ds [], p)) (hl : ds.length = ms.length) (hds : ∀ (k m : Nat), ms[k]? = some m → ds[k]? = some (.agg [.lit (.int .u8 m), .lit (.int .u64 (8 * k : Nat))])) :
    ∃ a c, cs = [.slice (some a) ms.length c] ∧ Tab W a ms := by
  rcases DataW.trod_slice ht h with ⟨rfl, hx⟩ | ⟨a, len, cap, elems, rest, n, _, rfl, hx, _, hlc, hcm, hel, hE, _⟩
  · cases hx
  · injection hx with hx _
    injection hx with hx _
    have hlen : len = ms.length := by rw [← hel, ← hl, hx]; simp
    refine ⟨a, cap, by rw [hlen], fun k m hm => ?_⟩
    have hk : k < len := by rw [hlen]; exact (List.getElem?_eq_some_iff.1 hm).1
    have hd := hds k m hm
    rw [hx, List.getElem?_map, Option.map_eq_some_iff] at hd
    obtain ⟨⟨d, q⟩, hq, hd⟩ := hd
    simp only at hd
    subst hd
    have h2 := hE k hk
    rw [ce, hq] at h2
    obtain ⟨ci, hci, htr⟩ := Option.bind_eq_some_iff.1 h2
    obtain ⟨hcl, hcell⟩ := opens.cells_some hci
    obtain ⟨xs, n', _, hx2, _, hxl, hF⟩ := DataW.trod_struct he htr
    injection hx2 with hx2 _
    injection hx2 with hx2
    obtain ⟨u0, u1, rfl⟩ : ∃ u0 u1, xs = [u0, u1] := by
      match xs, hxl with
      | [u0, u1], _ => exact ⟨u0, u1, rfl⟩
    obtain ⟨y0, y1, rfl⟩ : ∃ y0 y1, ci = [y0, y1] := by
      match ci, hcl with
      | [y0, y1], _ => exact ⟨y0, y1, rfl⟩
    have e0 := hF 0 f0 rfl
    have e1 := hF 1 f1 rfl
    rw [o0, c0] at e0
    rw [o1, c1] at e1
    simp at e0 e1
    obtain ⟨z0, hz0, hu0, _⟩ := DataW.trod_int h0 e0
    obtain ⟨z1, hz1, hu1, _⟩ := DataW.trod_int h1 e1
    subst hu0 hu1
    simp at hx2 hz0 hz1
    obtain ⟨hm0, hm1⟩ := hx2
    subst hz0 hz1
    refine ⟨?_, ?_⟩
    · have := hcell 0 _ rfl
      rw [Addr.add_zero'] at this
      rw [this, ← hm0]
    · have := hcell 1 _ rfl
      rw [show ((8 * k : Nat) : Int) = z1 by push_cast; omega]
      rw [← this]
      unfold Addr.add
      split <;> simp_all
end Go.Proofs.YtghcecngdhcjpaaDoor.env
