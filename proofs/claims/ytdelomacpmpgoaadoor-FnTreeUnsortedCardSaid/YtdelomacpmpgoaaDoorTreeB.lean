/- Trees: the order of entries: sort.IsSorted over a TreeEntrySorter. -/
import Derived.Test.YtdelomacpmpgoaaDoorTreeA
import Derived.BigQuiet
namespace Go.Proofs.YtdelomacpmpgoaaDoor.tree
open Go.RowKit Go.Proofs.YtdelomacpmpgoaaDoorW.PrintWords Go.Proofs.YtdelomacpmpgoaaDoorW.PrintLast Go.Proofs.YtdelomacpmpgoaaDoorW.PrintMore Go.Proofs.YtdelomacpmpgoaaDoor.PFnTreeUnsorted Go.Proofs.YtdelomacpmpgoaaDoor.ord
set_option linter.unusedVariables false
set_option linter.unusedSimpArgs false
set_option maxHeartbeats 2000000
set_option maxRecDepth 100000
theorem at_T {w : World} {A : Option Addr} {n : Nat} {xs : List S30} (h : kT.C w A n xs) (i : Nat) (hi : i < xs.length) (hn : n = xs.length) : ∃ ad, A = some ad ∧ w.cell? (ad.add (i * 22)) = some (.string xs[i].f0) ∧ w.cell? ⟨(ad.add (i * 22)).block, (ad.add (i * 22)).off + 1, none⟩ = some (.int .u32 xs[i].f1) := by
  obtain ⟨ad, c, e, _, hK, hc0⟩ := Kd.C_get h z30 (i : Int) (by omega) (by omega)
  have hc : ∀ j u, c[j]? = some u → w.cell? (ad.add (i * 22 + j)) = some u := hc0
  rw [Int.toNat_natCast, List.getD_eq_getElem?_getD, List.getElem?_eq_getElem hi] at hK
  obtain ⟨D, hD, rfl⟩ := hK
  exact ⟨ad, e, hc 0 _ rfl, by rw [← add_field _ _ 1 (by omega)]; exact hc 1 _ rfl⟩
theorem sortNameP (w : World) (ad : Addr) (x : S30) (h0 : w.cell? ad = some (.string x.f0)) (h1 : w.cell? ⟨ad.block, ad.off + 1, none⟩ = some (.int .u32 x.f1)) (hs : Small x) :
    Calls Tryd.prog 74 #[.pointer (some ad)] w fun e w' => e = .returned (.string (key x)) ∧ w = w' := by
  have hs0 := hs.1
  have r0 : x.f0.size + 1 ≤ 9223372036854775807 := by omega
  have r0a := eq_true r0
  by_cases hm : x.f1 = 16384
  · have c0 : (x.f1 == 16384) = true := beq_iff_eq.2 hm
    have HK := Aside0.mk (show key x = x.f0 ++ (⟨#[47]⟩ : ByteArray) from if_pos hm)
    clear hs hs0
    go_enter Tryd.func74, Tryd.ntmps74
    go_wp2_with fail
    go_ret
    exact ⟨by rw [HK.out]; rfl, rfl⟩
  · have c0 : (x.f1 == 16384) = false := beq_eq_false_iff_ne.2 hm
    have HK := Aside0.mk (show key x = x.f0 from if_neg hm)
    clear hs hs0
    go_enter Tryd.func74, Tryd.ntmps74
    go_wp2_with fail
    go_ret
    exact ⟨by rw [HK.out]; rfl, rfl⟩
theorem less_any (w : World) (A : Option Addr) (cc : Nat) (l : List S30) (hC : kT.C w A l.length l) (hs : ∀ x ∈ l, Small x) (i j : Nat) (hi : i < l.length) (hj : j < l.length) :
    Calls Tryd.prog 73 #[.slice A l.length cc, .int .i64 (i : Int), .int .i64 (j : Int)] w fun e w' => e = .returned (.bool (Op.bytesLess (kl l[i]) (kl l[j]))) ∧ ∃ m, w' = w.drewN m := by
  obtain ⟨ad, e, a0, a1⟩ := at_T hC i hi rfl
  obtain ⟨ad2, e2, b0, b1⟩ := at_T hC j hj rfl
  subst e
  cases e2
  obtain ⟨p, hp⟩ : ∃ p, ad.add (i * 22) = p := ⟨_, rfl⟩
  obtain ⟨q, hq⟩ : ∃ q, ad.add (j * 22) = q := ⟨_, rfl⟩
  rw [hp] at a0 a1
  rw [hq] at b0 b1
  have hsx := hs _ (List.getElem_mem hi)
  have hsy := hs _ (List.getElem_mem hj)
  have p1 : (0 : Int) ≤ (i : Int) := by omega
  have p2 : (i : Int) < (l.length : Int) := by omega
  have p3 : (0 : Int) ≤ (j : Int) := by omega
  have p4 : (j : Int) < (l.length : Int) := by omega
  obtain ⟨x, hx⟩ : ∃ x, l[i] = x := ⟨_, rfl⟩
  obtain ⟨y, hy⟩ : ∃ y, l[j] = y := ⟨_, rfl⟩
  rw [hx] at a0 a1 hsx ⊢
  rw [hy] at b0 b1 hsy ⊢
  have HX := Aside0.mk (fun (W : World) (q0 : W.cell? p = some (.string x.f0)) (q1 : W.cell? ⟨p.block, p.off + 1, none⟩ = some (.int .u32 x.f1)) => sortNameP W p x q0 q1 hsx)
  have HY := Aside0.mk (fun (W : World) (q0 : W.cell? q = some (.string y.f0)) (q1 : W.cell? ⟨q.block, q.off + 1, none⟩ = some (.int .u32 y.f1)) => sortNameP W q y q0 q1 hsy)
  have HR := Aside0.mk (show Op.bytesLess (kl x) (kl y) = Op.bytesLess (key x).toList (key y).toList from rfl)
  obtain ⟨kx, hkx⟩ : ∃ kx, key x = kx := ⟨_, rfl⟩
  obtain ⟨ky, hky⟩ : ∃ ky, key y = ky := ⟨_, rfl⟩
  rw [hkx] at HX HR
  rw [hky] at HY HR
  rw [HR.out]
  clear hx hy hsx hsy hkx hky HR
  clear hC hs
  have hsz : ∀ W : World, (sizeOf 58).run Tryd.prog W = .ok 22 W := fun W => by kernel_rfl
  have hu69 := Tryd.underlying69
  go_enter Tryd.func73, Tryd.ntmps73
  go_wp2_with fail
  refine wp_region_quiet_lit (by kernel_rfl) (by kernel_rfl) ?_
  quiet_step (fail)
  quiet_step (fail)
  quiet_step (fail)
  quiet_step ((go_at_call 74; exact Calls.quiet_of_same ((HX.out _ (by exact a0) (by exact a1)).mono fun _ _ h => ⟨h.1, h.2.symm⟩)))
  quiet_step (fail)
  quiet_step (fail)
  quiet_step (fail)
  quiet_step ((go_at_call 74; exact Calls.quiet_of_same ((HY.out _ (by exact b0) (by exact b1)).mono fun _ _ h => ⟨h.1, h.2.symm⟩)))
  quiet_step (fail)
  quiet_step (fail)
  refine wpQuiet_nil ?_
  intro _ hw'
  obtain ⟨nq, hw''⟩ := hw'
  subst hw''
  go_wp2_with fail
  go_ret
  exact ⟨rfl, _, rfl⟩
end Go.Proofs.YtdelomacpmpgoaaDoor.tree
