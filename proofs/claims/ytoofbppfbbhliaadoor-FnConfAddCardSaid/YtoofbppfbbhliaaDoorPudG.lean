/- config: a section of a configuration, lent to AddOption and put back. -/
import Derived.Test.YtoofbppfbbhliaaDoorPudF
namespace Go.Proofs.YtoofbppfbbhliaaDoor.confP
open Go.RowKit Go.Proofs.YtoofbppfbbhliaaDoorW.PrintWords Go.Proofs.YtoofbppfbbhliaaDoorW.PrintLast Go.Proofs.YtoofbppfbbhliaaDoorW.PrintMore Go.Proofs.YtoofbppfbbhliaaDoor.PFnConfAdd Go.Proofs.YtoofbppfbbhliaaDoor.ptr
set_option linter.unusedVariables false
set_option linter.unusedSimpArgs false
set_option maxHeartbeats 2000000
set_option maxRecDepth 100000
theorem lent {w : World} {base g j cap : Nat} {v : Value} {l' : List S71} {ad : Addr} (hS : Kd.S kPS 122 w base (fun _ => True) v l') (hj : j < l'.length) (hv : v = .slice (some ad) l'.length cap) (hc : w.cell? (ad.add j) = some (.pointer (some ⟨g, 0, none⟩))) :
    ∃ vO u ok, w.heap[g]? = some (.cells #[.string l'[j].f0, vO, u] 169 (0, 0)) ∧ base ≤ g ∧ Kd.R kO 194 w base ok vO l'[j].f1 ∧ (∀ k, vO.ownBlock = some k → base ≤ k) ∧
      ∀ (w' : World) (v1 : Value) (o : S112), w'.heap[g]? = some (.cells #[.string l'[j].f0, v1, u] 169 (0, 0)) → Kd.R kO 194 w' base (fun k => ok k ∨ w.heap.size ≤ k) v1 (l'[j].f1 ++ [o]) → Near w w' g vO.ownBlock →
        Kd.S kPS 122 w' base (fun _ => True) v (l'.set j ⟨l'[j].f0, l'[j].f1 ++ [o], l'[j].f2⟩) := by
  obtain ⟨gr, cap', g', arr, oki, ev, hcap, hcell, hgb, hg, hog, hoki, hM, hH⟩ := lend_ptr hS j hj
  have ead : ad = ⟨gr, 0, none⟩ := by
    have := hv.symm.trans ev
    injection this with h1 _ _
    exact Option.some.inj h1
  subst ead
  have hgg : g' = g := by
    have h1 := hc
    rw [Go.Proofs.YtoofbppfbbhliaaDoorW.PrintWords.add_plain] at h1
    have := h1.symm.trans hcell
    simp at this
    exact this.symm
  subst hgg
  obtain ⟨vO, u, p, ea, hRO, hSU⟩ := kSecS_openM hM
  obtain ⟨arr⟩ := arr
  simp only at ea
  subst ea
  refine ⟨vO, u, _, hg, hgb, hRO, Kd.R_base hRO, fun w' v1 o hg' hR' hN => ?_⟩
  have hlt : g' < w.heap.size := blk_lt hg
  -- the row without the section
  have hH2 := Kd.H_step (Kd.H_widen hH) (w1 := w') (fun k _ hno hk => hN.block k hk (fun he => hno (Or.inl (he ▸ hog))) (fun he => hno (Or.inl (hRO.1 k he.symm).1.1)))
  have hSU2 := Kd.S_step (w1 := w') (Kd.S_mono (Kd.S_bound hSU) (fun k hk => (⟨⟨⟨Or.inl hk.1.1.1, hk.1.1.2⟩, fun h => h.elim hk.1.2 (fun h2 => absurd hk.2.2.1 (Nat.not_lt.2 h2))⟩, hk.1.2⟩ : (((oki k ∨ True ∧ w.heap.size ≤ k) ∧ k ≠ g') ∧ ¬ (p k ∨ w.heap.size ≤ k)) ∧ ¬ p k))) (fun k hk hlk => hN.block k hlk hk.1.1.2 (fun he => hk.2 (hRO.1 k he.symm).2))
  refine back_ptr (okp := fun _ => True) hH2 (Or.inl hog) hgb hg' ?_
  exact kSecS_mkM (p := fun k => p k ∨ w.heap.size ≤ k) (Kd.R_mono hR' (fun k hk => hk.elim (fun h => ⟨⟨Or.inl h.1.1, h.1.2⟩, Or.inl h.2⟩) (fun h => ⟨⟨Or.inr ⟨trivial, h⟩, by omega⟩, Or.inr h⟩))) (Kd.S_mono hSU2 (fun k hk => hk.1))
end Go.Proofs.YtoofbppfbbhliaaDoor.confP
