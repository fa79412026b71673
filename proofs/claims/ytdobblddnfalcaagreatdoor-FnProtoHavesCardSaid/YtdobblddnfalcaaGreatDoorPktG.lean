/- Packet lines: laws.pktWorks. -/
import Derived.Test.YtdobblddnfalcaaGreatDoorPktF
import Derived.Test.YtdobblddnfalcaaGreatDoorMFnProtoHavesx1
namespace Go.Proofs.YtdobblddnfalcaaGreatDoor.pkt
open Go.RowKit Go.Proofs.YtdobblddnfalcaaGreatDoorW.PrintWords Go.Proofs.YtdobblddnfalcaaGreatDoorW.PrintLast Go.Proofs.YtdobblddnfalcaaGreatDoorW.PrintMore Go.Proofs.YtdobblddnfalcaaGreatDoor.PFnProtoHaves
set_option linter.unusedVariables false
set_option linter.unusedSimpArgs false
set_option maxHeartbeats 2000000
set_option maxRecDepth 100000
theorem run_lit : run (([48, 48, 48, 54, 97, 10] : List Int).length + 1) [48, 48, 48, 54, 97, 10] = ([[97, 10]], true) := by decide +kernel
theorem calm_lit : Calm (([48, 48, 48, 54, 97, 10] : List Int).length + 1) [48, 48, 48, 54, 97, 10] := by
  have h1 : stp [48, 48, 48, 54, 97, 10] = .line [97, 10] [] := by rfl
  have h2 : stp [] = .done := rfl
  refine ⟨?_, fun p r h => ?_⟩
  · rintro ⟨n, hn, _, _, _, h5⟩
    have hn' : (some 6 : Option Int) = some n := hn
    injection hn' with hn'
    subst hn'
    exact absurd h5 (by decide)
  · rw [h1] at h
    injection h with h3 h4
    subst h3 h4
    refine ⟨?_, fun p r h => by rw [h2] at h; cases h⟩
    rintro ⟨n, hn, _⟩
    cases hn
theorem lit_cells (w : World) (k : Nat × Nat) : (Kd.int .u8).C (w.alloc (.cells #[.int .u8 48, .int .u8 48, .int .u8 48, .int .u8 54, .int .u8 97, .int .u8 10] 5 k)) (some ⟨w.heap.size, 0, none⟩) ([48, 48, 48, 54, 97, 10] : List Int).length [48, 48, 48, 54, 97, 10] := by
  refine ⟨rfl, by decide, fun _ => ⟨_, rfl, fun j p hp => ⟨[.int .u8 p], rfl, rfl, fun m u hu => ?_⟩⟩⟩
  rw [Addr.add_mid]
  match m, hu with
  | 0, hu =>
    cases hu
    match j, hp with
    | 0, hp => cases hp; exact World.cell?_alloc_mark w _ _ _ 0
    | 1, hp => cases hp; exact World.cell?_alloc_mark w _ _ _ 1
    | 2, hp => cases hp; exact World.cell?_alloc_mark w _ _ _ 2
    | 3, hp => cases hp; exact World.cell?_alloc_mark w _ _ _ 3
    | 4, hp => cases hp; exact World.cell?_alloc_mark w _ _ _ 4
    | 5, hp => cases hp; exact World.cell?_alloc_mark w _ _ _ 5
def rd_L1 (xs : List (List Int)) (i : Int) : (List Int) := xs.getD i.toNat ([] : List Int)
theorem at_L1 {w : World} {A : Option Addr} {n : Nat} {xs : List (List Int)} (h : Kd.C (Kd.slice 5 (Kd.int .u8)) w A n xs) (i : Int) (h0 : 0 ≤ i) (h1 : i < n) : ∃ ad A0 c0, A = some ad ∧ w.cell? (ad.add i.toNat) = some (.slice A0 (rd_L1 xs i).length c0) ∧ (rd_L1 xs i).length ≤ c0 ∧ (Kd.int .u8).C w A0 (rd_L1 xs i).length (rd_L1 xs i) := by
  obtain ⟨ad, c, e, _, hK, hc0⟩ := Kd.C_get h ([] : List Int) i h0 h1
  have hc : ∀ j u, c[j]? = some u → w.cell? (ad.add (i.toNat * 1 + j)) = some u := hc0
  obtain ⟨A0, c0, rfl, l0, g0⟩ := hK
  exact ⟨ad, A0, c0, e, by have hq := hc 0 _ rfl; rwa [Nat.mul_one, Nat.add_zero] at hq, l0, g0⟩
theorem pktWorks_any (w : World) (a1 a2 a3 : Addr) (hE : Errs w a1 a2 a3) :
    Calls Tryz.prog 8 #[] w fun e w' => e = .returned (.bool true) ∧ Below w.heap.size w w' := by
  have hcv := Joins.run_convert_bytes_const_at (P := Tryz.prog) w 32 5 #[.int .u8 48, .int .u8 48, .int .u8 48, .int .u8 54, .int .u8 97, .int .u8 10] 6 6 w.heap.size rfl Tryz.underlying32 Tryz.underlying5
  have HC := Aside0.mk (lit_cells w (6, 7))
  have HB := Aside0.mk ((Below.refl w.heap.size w).alloc (Nat.le_refl _) (.cells #[.int .u8 48, .int .u8 48, .int .u8 48, .int .u8 54, .int .u8 97, .int .u8 10] 5 (6, 7)))
  have HE := Aside0.mk (hE.below HB.out)
  clear hE
  obtain ⟨W1, hW1⟩ : ∃ W1, w.alloc (.cells #[.int .u8 48, .int .u8 48, .int .u8 48, .int .u8 54, .int .u8 97, .int .u8 10] 5 (6, 7)) = W1 := ⟨_, rfl⟩
  rw [hW1] at HC HB HE
  have hcv2 := hcv.trans (congrArg (Result.ok (Value.slice (some ⟨w.heap.size, 0, none⟩) 6 6)) hW1)
  clear hcv hW1
  have HRL := Aside0.mk (readLines_any W1 (some ⟨w.heap.size, 0, none⟩) 6 [48, 48, 48, 54, 97, 10] a1 a2 a3 HC.out (by decide) (by decide) (by decide) HE.out (.inl calm_lit))
  unfold LinesPost at HRL
  rw [run_lit] at HRL
  go_enter Tryz.func8, Tryz.ntmps8
  go_wp2_with fail
  refine HRL.out.mono ?_
  rintro e w2 ⟨A', c', rfl, hc', _, hC', hb'⟩
  obtain ⟨ad, A2, c2, e2, hx2, hl2, hi2⟩ := at_L1 hC' 0 (by omega) (by decide)
  cases e2
  have HB2 := Aside0.mk (below_step HB.out hb')
  have hx3 : w2.cell? ad = some (.slice A2 2 c2) := hx2
  have hcv9 : (convert 32 9 (.slice A2 2 c2)).run Tryz.prog w2 = .ok (.string (strOfNums [97, 10])) w2 := Kd.C_string (P := Tryz.prog) (A := A2) (c := c2) Tryz.underlying32 Tryz.underlying5 Tryz.underlying9 hi2
  have hs : strOfNums [97, 10] = ⟨#[97, 10]⟩ := by decide +kernel
  rw [hs] at hcv9
  clear HRL HC HB HE hcv2 hb' hC' hi2 hx2
  go_wp2
  go_ret
  exact ⟨rfl, HB2.out⟩
end Go.Proofs.YtdobblddnfalcaaGreatDoor.pkt
