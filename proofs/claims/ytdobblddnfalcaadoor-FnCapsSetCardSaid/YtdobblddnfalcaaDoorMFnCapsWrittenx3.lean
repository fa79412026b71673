/- Contracts of functions of the specification, as a printer of the kit wrote them, some steps mended. -/
import Derived.Test.YtdobblddnfalcaaDoorPFnCapsWrittenx0
import Derived.Test.YtdobblddnfalcaaDoorPFnCapsWrittenx2
namespace Go.Proofs.YtdobblddnfalcaaDoor.PFnCapsWritten
open Go.RowKit Go.Proofs.YtdobblddnfalcaaDoorW.PrintWords Go.Proofs.YtdobblddnfalcaaDoorW.PrintLast Go.Proofs.YtdobblddnfalcaaDoorW.PrintMore
attribute [local go_sem] max2_int min2_int max_two min_two max_three min_three max_four min_four   -- for this text's walks alone
set_option linter.unusedVariables false
set_option linter.unusedSimpArgs false

/-! ### spec_plainCaps: function 25 -/
def spec_plainCaps.f  : Option (List ByteArray) := some (([(⟨#[109, 117, 108, 116, 105, 95, 97, 99, 107]⟩ : ByteArray), (⟨#[109, 117, 108, 116, 105, 95, 97, 99, 107, 95, 100, 101, 116, 97, 105, 108, 101, 100]⟩ : ByteArray), (⟨#[110, 111, 45, 100, 111, 110, 101]⟩ : ByteArray), (⟨#[116, 104, 105, 110, 45, 112, 97, 99, 107]⟩ : ByteArray), (⟨#[115, 105, 100, 101, 45, 98, 97, 110, 100]⟩ : ByteArray), (⟨#[115, 105, 100, 101, 45, 98, 97, 110, 100, 45, 54, 52, 107]⟩ : ByteArray), (⟨#[111, 102, 115, 45, 100, 101, 108, 116, 97]⟩ : ByteArray), (⟨#[115, 104, 97, 108, 108, 111, 119]⟩ : ByteArray), (⟨#[110, 111, 45, 112, 114, 111, 103, 114, 101, 115, 115]⟩ : ByteArray), (⟨#[105, 110, 99, 108, 117, 100, 101, 45, 116, 97, 103]⟩ : ByteArray), (⟨#[114, 101, 112, 111, 114, 116, 45, 115, 116, 97, 116, 117, 115]⟩ : ByteArray), (⟨#[100, 101, 108, 101, 116, 101, 45, 114, 101, 102, 115]⟩ : ByteArray), (⟨#[113, 117, 105, 101, 116]⟩ : ByteArray), (⟨#[97, 116, 111, 109, 105, 99]⟩ : ByteArray), (⟨#[97, 108, 108, 111, 119, 45, 116, 105, 112, 45, 115, 104, 97, 49, 45, 105, 110, 45, 119, 97, 110, 116]⟩ : ByteArray), (⟨#[97, 108, 108, 111, 119, 45, 114, 101, 97, 99, 104, 97, 98, 108, 101, 45, 115, 104, 97, 49, 45, 105, 110, 45, 119, 97, 110, 116]⟩ : ByteArray)] : List ByteArray))
set_option maxHeartbeats 8000000 in
set_option maxRecDepth 100000 in
theorem spec_plainCaps.calls  (r : List ByteArray) (w : World) (h : spec_plainCaps.f  = some r) :
    Calls Tryd.prog 25 #[] w fun e w' => ∃ v0_ : Value, e = .returned (v0_) ∧ Kd.R Kd.string 9 w' w.heap.size (fun _ => True) v0_ r ∧ Below w.heap.size w w' := by
  have HB := Aside0.mk (Below.refl w.heap.size w)
  have H : (some (([(⟨#[109, 117, 108, 116, 105, 95, 97, 99, 107]⟩ : ByteArray), (⟨#[109, 117, 108, 116, 105, 95, 97, 99, 107, 95, 100, 101, 116, 97, 105, 108, 101, 100]⟩ : ByteArray), (⟨#[110, 111, 45, 100, 111, 110, 101]⟩ : ByteArray), (⟨#[116, 104, 105, 110, 45, 112, 97, 99, 107]⟩ : ByteArray), (⟨#[115, 105, 100, 101, 45, 98, 97, 110, 100]⟩ : ByteArray), (⟨#[115, 105, 100, 101, 45, 98, 97, 110, 100, 45, 54, 52, 107]⟩ : ByteArray), (⟨#[111, 102, 115, 45, 100, 101, 108, 116, 97]⟩ : ByteArray), (⟨#[115, 104, 97, 108, 108, 111, 119]⟩ : ByteArray), (⟨#[110, 111, 45, 112, 114, 111, 103, 114, 101, 115, 115]⟩ : ByteArray), (⟨#[105, 110, 99, 108, 117, 100, 101, 45, 116, 97, 103]⟩ : ByteArray), (⟨#[114, 101, 112, 111, 114, 116, 45, 115, 116, 97, 116, 117, 115]⟩ : ByteArray), (⟨#[100, 101, 108, 101, 116, 101, 45, 114, 101, 102, 115]⟩ : ByteArray), (⟨#[113, 117, 105, 101, 116]⟩ : ByteArray), (⟨#[97, 116, 111, 109, 105, 99]⟩ : ByteArray), (⟨#[97, 108, 108, 111, 119, 45, 116, 105, 112, 45, 115, 104, 97, 49, 45, 105, 110, 45, 119, 97, 110, 116]⟩ : ByteArray), (⟨#[97, 108, 108, 111, 119, 45, 114, 101, 97, 99, 104, 97, 98, 108, 101, 45, 115, 104, 97, 49, 45, 105, 110, 45, 119, 97, 110, 116]⟩ : ByteArray)] : List ByteArray))) = some r := h
  clear h
  obtain ⟨y107, hy107⟩ : ∃ y_ : List ByteArray, y_ = (([(⟨#[109, 117, 108, 116, 105, 95, 97, 99, 107]⟩ : ByteArray), (⟨#[109, 117, 108, 116, 105, 95, 97, 99, 107, 95, 100, 101, 116, 97, 105, 108, 101, 100]⟩ : ByteArray), (⟨#[110, 111, 45, 100, 111, 110, 101]⟩ : ByteArray), (⟨#[116, 104, 105, 110, 45, 112, 97, 99, 107]⟩ : ByteArray), (⟨#[115, 105, 100, 101, 45, 98, 97, 110, 100]⟩ : ByteArray), (⟨#[115, 105, 100, 101, 45, 98, 97, 110, 100, 45, 54, 52, 107]⟩ : ByteArray), (⟨#[111, 102, 115, 45, 100, 101, 108, 116, 97]⟩ : ByteArray), (⟨#[115, 104, 97, 108, 108, 111, 119]⟩ : ByteArray), (⟨#[110, 111, 45, 112, 114, 111, 103, 114, 101, 115, 115]⟩ : ByteArray), (⟨#[105, 110, 99, 108, 117, 100, 101, 45, 116, 97, 103]⟩ : ByteArray), (⟨#[114, 101, 112, 111, 114, 116, 45, 115, 116, 97, 116, 117, 115]⟩ : ByteArray), (⟨#[100, 101, 108, 101, 116, 101, 45, 114, 101, 102, 115]⟩ : ByteArray), (⟨#[113, 117, 105, 101, 116]⟩ : ByteArray), (⟨#[97, 116, 111, 109, 105, 99]⟩ : ByteArray), (⟨#[97, 108, 108, 111, 119, 45, 116, 105, 112, 45, 115, 104, 97, 49, 45, 105, 110, 45, 119, 97, 110, 116]⟩ : ByteArray), (⟨#[97, 108, 108, 111, 119, 45, 114, 101, 97, 99, 104, 97, 98, 108, 101, 45, 115, 104, 97, 49, 45, 105, 110, 45, 119, 97, 110, 116]⟩ : ByteArray)] : List ByteArray)) := ⟨_, rfl⟩
  replace H : (some y107) = some r := by first | (rw [hy107]; with_reducible exact H) | (have H2_ := (Option.bind_some _ _).symm.trans H; rw [hy107]; with_reducible exact H2_) | (have H2_ := (Option.bind_some _ _).symm.trans H; with_reducible exact H2_) | with_reducible exact H | (rw [hy107]; exact H) | exact H
  have Ny107 := Aside0.mk hy107
  clear hy107
  obtain rfl := Option.some.inj H
  go_enter Tryd.func25, Tryd.ntmps25
  go_wp2_with (first | ((with_reducible refine gate_dst (N := 1) rfl ?_); refine Kd.R_lit Kd.string _ 9 ?hg (N := 1) ?hd (xs := ([(⟨#[109, 117, 108, 116, 105, 95, 97, 99, 107]⟩ : ByteArray), (⟨#[109, 117, 108, 116, 105, 95, 97, 99, 107, 95, 100, 101, 116, 97, 105, 108, 101, 100]⟩ : ByteArray), (⟨#[110, 111, 45, 100, 111, 110, 101]⟩ : ByteArray), (⟨#[116, 104, 105, 110, 45, 112, 97, 99, 107]⟩ : ByteArray), (⟨#[115, 105, 100, 101, 45, 98, 97, 110, 100]⟩ : ByteArray), (⟨#[115, 105, 100, 101, 45, 98, 97, 110, 100, 45, 54, 52, 107]⟩ : ByteArray), (⟨#[111, 102, 115, 45, 100, 101, 108, 116, 97]⟩ : ByteArray), (⟨#[115, 104, 97, 108, 108, 111, 119]⟩ : ByteArray), (⟨#[110, 111, 45, 112, 114, 111, 103, 114, 101, 115, 115]⟩ : ByteArray), (⟨#[105, 110, 99, 108, 117, 100, 101, 45, 116, 97, 103]⟩ : ByteArray), (⟨#[114, 101, 112, 111, 114, 116, 45, 115, 116, 97, 116, 117, 115]⟩ : ByteArray), (⟨#[100, 101, 108, 101, 116, 101, 45, 114, 101, 102, 115]⟩ : ByteArray), (⟨#[113, 117, 105, 101, 116]⟩ : ByteArray), (⟨#[97, 116, 111, 109, 105, 99]⟩ : ByteArray), (⟨#[97, 108, 108, 111, 119, 45, 116, 105, 112, 45, 115, 104, 97, 49, 45, 105, 110, 45, 119, 97, 110, 116]⟩ : ByteArray), (⟨#[97, 108, 108, 111, 119, 45, 114, 101, 97, 99, 104, 97, 98, 108, 101, 45, 115, 104, 97, 49, 45, 105, 110, 45, 119, 97, 110, 116]⟩ : ByteArray)] : List ByteArray)) (inner := [.string (⟨#[109, 117, 108, 116, 105, 95, 97, 99, 107]⟩ : ByteArray), .string (⟨#[109, 117, 108, 116, 105, 95, 97, 99, 107, 95, 100, 101, 116, 97, 105, 108, 101, 100]⟩ : ByteArray), .string (⟨#[110, 111, 45, 100, 111, 110, 101]⟩ : ByteArray), .string (⟨#[116, 104, 105, 110, 45, 112, 97, 99, 107]⟩ : ByteArray), .string (⟨#[115, 105, 100, 101, 45, 98, 97, 110, 100]⟩ : ByteArray), .string (⟨#[115, 105, 100, 101, 45, 98, 97, 110, 100, 45, 54, 52, 107]⟩ : ByteArray), .string (⟨#[111, 102, 115, 45, 100, 101, 108, 116, 97]⟩ : ByteArray), .string (⟨#[115, 104, 97, 108, 108, 111, 119]⟩ : ByteArray), .string (⟨#[110, 111, 45, 112, 114, 111, 103, 114, 101, 115, 115]⟩ : ByteArray), .string (⟨#[105, 110, 99, 108, 117, 100, 101, 45, 116, 97, 103]⟩ : ByteArray), .string (⟨#[114, 101, 112, 111, 114, 116, 45, 115, 116, 97, 116, 117, 115]⟩ : ByteArray), .string (⟨#[100, 101, 108, 101, 116, 101, 45, 114, 101, 102, 115]⟩ : ByteArray), .string (⟨#[113, 117, 105, 101, 116]⟩ : ByteArray), .string (⟨#[97, 116, 111, 109, 105, 99]⟩ : ByteArray), .string (⟨#[97, 108, 108, 111, 119, 45, 116, 105, 112, 45, 115, 104, 97, 49, 45, 105, 110, 45, 119, 97, 110, 116]⟩ : ByteArray), .string (⟨#[97, 108, 108, 111, 119, 45, 114, 101, 97, 99, 104, 97, 98, 108, 101, 45, 115, 104, 97, 49, 45, 105, 110, 45, 119, 97, 110, 116]⟩ : ByteArray)]) (ok := fun _ => True) (okp := fun _ => True) ?hr ?hp (fun _ hk => hk) trivial (Below.refl _ _) (Nat.le_refl _) (by simp) ?_; (case hd => rfl); (case hg => rfl); (case hr => first | (go_simp; done) | (go_simp; rfl)); (case hp => exact (Reps.one (show Kd.M Kd.string _ _ _ (⟨#[109, 117, 108, 116, 105, 95, 97, 99, 107]⟩ : ByteArray) [.string (⟨#[109, 117, 108, 116, 105, 95, 97, 99, 107]⟩ : ByteArray)] from rfl) (Reps.one (show Kd.M Kd.string _ _ _ (⟨#[109, 117, 108, 116, 105, 95, 97, 99, 107, 95, 100, 101, 116, 97, 105, 108, 101, 100]⟩ : ByteArray) [.string (⟨#[109, 117, 108, 116, 105, 95, 97, 99, 107, 95, 100, 101, 116, 97, 105, 108, 101, 100]⟩ : ByteArray)] from rfl) (Reps.one (show Kd.M Kd.string _ _ _ (⟨#[110, 111, 45, 100, 111, 110, 101]⟩ : ByteArray) [.string (⟨#[110, 111, 45, 100, 111, 110, 101]⟩ : ByteArray)] from rfl) (Reps.one (show Kd.M Kd.string _ _ _ (⟨#[116, 104, 105, 110, 45, 112, 97, 99, 107]⟩ : ByteArray) [.string (⟨#[116, 104, 105, 110, 45, 112, 97, 99, 107]⟩ : ByteArray)] from rfl) (Reps.one (show Kd.M Kd.string _ _ _ (⟨#[115, 105, 100, 101, 45, 98, 97, 110, 100]⟩ : ByteArray) [.string (⟨#[115, 105, 100, 101, 45, 98, 97, 110, 100]⟩ : ByteArray)] from rfl) (Reps.one (show Kd.M Kd.string _ _ _ (⟨#[115, 105, 100, 101, 45, 98, 97, 110, 100, 45, 54, 52, 107]⟩ : ByteArray) [.string (⟨#[115, 105, 100, 101, 45, 98, 97, 110, 100, 45, 54, 52, 107]⟩ : ByteArray)] from rfl) (Reps.one (show Kd.M Kd.string _ _ _ (⟨#[111, 102, 115, 45, 100, 101, 108, 116, 97]⟩ : ByteArray) [.string (⟨#[111, 102, 115, 45, 100, 101, 108, 116, 97]⟩ : ByteArray)] from rfl) (Reps.one (show Kd.M Kd.string _ _ _ (⟨#[115, 104, 97, 108, 108, 111, 119]⟩ : ByteArray) [.string (⟨#[115, 104, 97, 108, 108, 111, 119]⟩ : ByteArray)] from rfl) (Reps.one (show Kd.M Kd.string _ _ _ (⟨#[110, 111, 45, 112, 114, 111, 103, 114, 101, 115, 115]⟩ : ByteArray) [.string (⟨#[110, 111, 45, 112, 114, 111, 103, 114, 101, 115, 115]⟩ : ByteArray)] from rfl) (Reps.one (show Kd.M Kd.string _ _ _ (⟨#[105, 110, 99, 108, 117, 100, 101, 45, 116, 97, 103]⟩ : ByteArray) [.string (⟨#[105, 110, 99, 108, 117, 100, 101, 45, 116, 97, 103]⟩ : ByteArray)] from rfl) (Reps.one (show Kd.M Kd.string _ _ _ (⟨#[114, 101, 112, 111, 114, 116, 45, 115, 116, 97, 116, 117, 115]⟩ : ByteArray) [.string (⟨#[114, 101, 112, 111, 114, 116, 45, 115, 116, 97, 116, 117, 115]⟩ : ByteArray)] from rfl) (Reps.one (show Kd.M Kd.string _ _ _ (⟨#[100, 101, 108, 101, 116, 101, 45, 114, 101, 102, 115]⟩ : ByteArray) [.string (⟨#[100, 101, 108, 101, 116, 101, 45, 114, 101, 102, 115]⟩ : ByteArray)] from rfl) (Reps.one (show Kd.M Kd.string _ _ _ (⟨#[113, 117, 105, 101, 116]⟩ : ByteArray) [.string (⟨#[113, 117, 105, 101, 116]⟩ : ByteArray)] from rfl) (Reps.one (show Kd.M Kd.string _ _ _ (⟨#[97, 116, 111, 109, 105, 99]⟩ : ByteArray) [.string (⟨#[97, 116, 111, 109, 105, 99]⟩ : ByteArray)] from rfl) (Reps.one (show Kd.M Kd.string _ _ _ (⟨#[97, 108, 108, 111, 119, 45, 116, 105, 112, 45, 115, 104, 97, 49, 45, 105, 110, 45, 119, 97, 110, 116]⟩ : ByteArray) [.string (⟨#[97, 108, 108, 111, 119, 45, 116, 105, 112, 45, 115, 104, 97, 49, 45, 105, 110, 45, 119, 97, 110, 116]⟩ : ByteArray)] from rfl) (Reps.one (show Kd.M Kd.string _ _ _ (⟨#[97, 108, 108, 111, 119, 45, 114, 101, 97, 99, 104, 97, 98, 108, 101, 45, 115, 104, 97, 49, 45, 105, 110, 45, 119, 97, 110, 116]⟩ : ByteArray) [.string (⟨#[97, 108, 108, 111, 119, 45, 114, 101, 97, 99, 104, 97, 98, 108, 101, 45, 115, 104, 97, 49, 45, 105, 110, 45, 119, 97, 110, 116]⟩ : ByteArray)] from rfl) (Reps.none _ _)))))))))))))))))); intro v108 w1 ho2 hb hg_ hnew_; clear hg_ hnew_; (first | rw [← Ny107.out] at ho2 | (simp only [Int.reduceToNat] at ho2; rw [← Ny107.out] at ho2)); have n0_ := Aside0.mk (Kd.R_lower ho2 (below_size (by repeat (first | (with_reducible first | exact HB.out | apply below_alloc | apply pw_below_drewN | apply below_drew1) | exact HB.out)))); have n1_ := Aside0.mk (below_step (by repeat (first | (with_reducible first | exact HB.out | apply below_alloc | apply pw_below_drewN | apply below_drew1) | exact HB.out)) hb); clear HB; have HO109 := n0_; have HB := n1_; clear n0_ n1_; clear hb ho2))
  go_ret
  exact ⟨_, by first | rfl | (simp [errW_none, errW_some] <;> rfl) | (simp [*, errW_none, errW_some] <;> rfl), by (with_reducible repeat (first | apply Kd.R_alloc | apply Kd.R_drewN | apply Kd.R_drew)); exact HO109.out, by repeat (first | (with_reducible first | exact HB.out | apply below_alloc | apply pw_below_drewN | apply below_drew1) | exact HB.out)⟩

/-! ### spec_goodCap: function 14 -/
mutual
def spec_goodCap.l0 : Nat → List ByteArray → Int → Int → ByteArray → List ByteArray → Option (Bool)
  | 0, _, _, _, _, _ => none
  | k + 1, x8, x9, x10, x111000, x111001 => if x10 < x9 then (if 0 ≤ x10 then (if x10 < (x8.length : Int) then ((spec_IsWord.f k (rdOf ByteArray.empty x8 x10)).bind fun t112 => (if t112 = true then (spec_goodCap.l0 k x8 x9 (wrap64 (x10 + 1)) x111000 x111001) else (some false))) else (none)) else (none)) else (if x111000.toList = ([97, 103, 101, 110, 116] : List UInt8) then (some ((x111001.length : Int) == 1)) else (if x111000.toList = ([115, 121, 109, 114, 101, 102] : List UInt8) then (if (x111001.length : Int) ≥ 1 then (some (decide ((x111001.length : Int) ≤ 60))) else (some false)) else ((spec_plainCaps.f).bind fun t113 => (spec_goodCap.l1 k t113 (t113.length : Int) 0 x111000 x111001))))
def spec_goodCap.l1 : Nat → List ByteArray → Int → Int → ByteArray → List ByteArray → Option (Bool)
  | 0, _, _, _, _, _ => none
  | k + 1, x38, x39, x40, x111000, x111001 => if x40 < x39 then (if 0 ≤ x40 then (if x40 < (x38.length : Int) then (if x111000.toList = (rdOf ByteArray.empty x38 x40).toList then (some ((x111001.length : Int) == 0)) else (spec_goodCap.l1 k x38 x39 (wrap64 (x40 + 1)) x111000 x111001)) else (none)) else (none)) else (some false)
end
def spec_goodCap.f (k : Nat) (a0_0 : ByteArray) (l0_1 : List ByteArray) : Option (Bool) := spec_goodCap.l0 k l0_1 (l0_1.length : Int) 0 a0_0 l0_1
theorem spec_goodCap.mono_l : ∀ k, (∀ y0 y1 y2 y3 y4, LeO (spec_goodCap.l0 k y0 y1 y2 y3 y4) (spec_goodCap.l0 (k + 1) y0 y1 y2 y3 y4)) ∧ (∀ y0 y1 y2 y3 y4, LeO (spec_goodCap.l1 k y0 y1 y2 y3 y4) (spec_goodCap.l1 (k + 1) y0 y1 y2 y3 y4))
  | 0 => ⟨fun _ _ _ _ _ r h => by simp [spec_goodCap.l0] at h, fun _ _ _ _ _ r h => by simp [spec_goodCap.l1] at h⟩
  | k + 1 => by
    obtain ⟨ih0, ih1⟩ := spec_goodCap.mono_l k
    refine ⟨?_, ?_⟩
    · intro y0 y1 y2 y3 y4
      unfold spec_goodCap.l0
      repeat' first
      | (with_reducible exact ih0 _ _ _ _ _)
      | (with_reducible exact ih1 _ _ _ _ _)
      | (with_reducible exact spec_IsWord.mono _ _)
      | (with_reducible exact LeO.refl _)
      | (with_reducible exact LeO.none _)
      | (with_reducible refine LeO.ite ?_ ?_)
      | (with_reducible refine LeO.bind ?_ (fun _ => ?_))
      | exact ih0 _ _ _ _ _
      | exact ih1 _ _ _ _ _
      | exact spec_IsWord.mono _ _
      | exact LeO.none _
      | refine LeO.ite ?_ ?_
      | refine LeO.bind ?_ (fun _ => ?_)
    · intro y0 y1 y2 y3 y4
      unfold spec_goodCap.l1
      repeat' first
      | (with_reducible exact ih0 _ _ _ _ _)
      | (with_reducible exact ih1 _ _ _ _ _)
      | (with_reducible exact spec_IsWord.mono _ _)
      | (with_reducible exact LeO.refl _)
      | (with_reducible exact LeO.none _)
      | (with_reducible refine LeO.ite ?_ ?_)
      | (with_reducible refine LeO.bind ?_ (fun _ => ?_))
      | exact ih0 _ _ _ _ _
      | exact ih1 _ _ _ _ _
      | exact spec_IsWord.mono _ _
      | exact LeO.none _
      | refine LeO.ite ?_ ?_
      | refine LeO.bind ?_ (fun _ => ?_)
theorem spec_goodCap.mono : ∀ a0 a1 k, LeO (spec_goodCap.f k a0 a1) (spec_goodCap.f (k + 1) a0 a1) := by
  intro a0 a1 k
  obtain ⟨ih0, ih1⟩ := spec_goodCap.mono_l k
  unfold spec_goodCap.f
  repeat' first
      | (with_reducible exact ih0 _ _ _ _ _)
      | (with_reducible exact ih1 _ _ _ _ _)
      | (with_reducible exact spec_IsWord.mono _ _)
      | (with_reducible exact LeO.refl _)
      | (with_reducible exact LeO.none _)
      | (with_reducible refine LeO.ite ?_ ?_)
      | (with_reducible refine LeO.bind ?_ (fun _ => ?_))
      | exact ih0 _ _ _ _ _
      | exact ih1 _ _ _ _ _
      | exact spec_IsWord.mono _ _
      | exact LeO.none _
      | refine LeO.ite ?_ ?_
      | refine LeO.bind ?_ (fun _ => ?_)
set_option maxHeartbeats 8000000 in
set_option maxRecDepth 100000 in
theorem spec_goodCap.calls (k : Nat) (a0_0 : ByteArray) (A0_1 : Option Addr) (c0_1 : Nat) (l0_1 : List ByteArray) (r : Bool) (w : World) (hr0_1 : Kd.C Kd.string w A0_1 l0_1.length l0_1) (hc0_1 : l0_1.length ≤ c0_1) (h : spec_goodCap.f k a0_0 l0_1 = some r) :
    Calls Tryd.prog 14 #[.agg #[.string a0_0, .slice A0_1 l0_1.length c0_1]] w fun e w' => e = .returned (.bool r) ∧ Below w.heap.size w w' := by
  have hu30 := Tryd.underlying30
  have HR0_1 := Aside0.mk hr0_1
  have HC0_1 := Aside0.mk hc0_1
  clear hr0_1 hc0_1
  have HB := Aside0.mk (Below.refl w.heap.size w)
  have H : (spec_goodCap.l0 k l0_1 (l0_1.length : Int) 0 a0_0 l0_1) = some r := h
  clear h
  have H' := Aside0.mk H
  clear H
  go_enter Tryd.func14, Tryd.ntmps14
  go_wp2_with (first | ((with_reducible refine gate_dst (N := 1) rfl ?_); (try (refine gate_guard (by rfl) ?_; dsimp only)); refine box_event ?hg (N := 1) ?hd (cs := #[.string a0_0, .slice A0_1 l0_1.length c0_1]) (t := 30) ?hr ?_; (case hd => rfl); (case hg => rfl); (case hr => first | (go_simp; done) | (go_simp; rfl)); intro gb110 hg w2 hbox hb; have n0_ := Aside0.mk (below_step (by repeat (first | (with_reducible first | exact HB.out | apply below_alloc | apply pw_below_drewN | apply below_drew1) | exact HB.out)) hb); have n1_ := Aside0.mk (hbox); have n2_ := Aside0.mk ((by rw [hg]; exact (below_size (by repeat (first | (with_reducible first | exact HB.out | apply below_alloc | apply pw_below_drewN | apply below_drew1) | exact HB.out))) : w.heap.size ≤ gb110)); have n3_ := Aside0.mk ((by rw [hg]; exact (below_size (by repeat (first | (with_reducible first | exact HB.out | apply below_alloc | apply pw_below_drewN | apply below_drew1) | exact HB.out))) : w.heap.size ≤ gb110)); clear HB; have HB := n0_; have BK110 := n1_; have GW110 := n2_; have GE110 := n3_; clear n0_ n1_ n2_ n3_; clear hb hbox hg; have hcz3_0 : w2.cell? ⟨gb110, 0, none⟩ = some (.string a0_0) := (blk_cell BK110.out 0).trans rfl; have hcz3_1 : w2.cell? ⟨gb110, 1, none⟩ = some (.slice A0_1 l0_1.length c0_1) := (blk_cell BK110.out 1).trans rfl; have hfz3_0 := blk_frozen BK110.out 0; have hfz3_1 := blk_frozen BK110.out 1))
  go_loopg [10] k (fun kq v10 w' => ∃ (x10_1 : Int), v10 = .int .i64 x10_1 ∧ Aside0 (spec_goodCap.l0 kq l0_1 (l0_1.length : Int) x10_1 a0_0 l0_1 = some r) ∧ Aside0 (kq ≤ k) ∧ Aside0 (w'.heap[gb110]? = some (.cells #[.string a0_0, (.slice A0_1 l0_1.length c0_1)] 30 (0, 0))) ∧ Aside0 (Below w.heap.size w w'))
  case atStart => exact ⟨(0), (by first | rfl | (simp; done) | (simp [*]; done)), H', ⟨Nat.le_refl _⟩, ⟨by (with_reducible repeat (first | refine blk_drewN ?_ _ | refine blk_drew ?_ | refine blk_alloc ?_ _)); exact BK110.out⟩, ⟨by repeat (first | (with_reducible first | exact HB.out | apply below_alloc | apply pw_below_drewN | apply below_drew1 | refine below_set ?_ GE110.out) | exact HB.out)⟩⟩
  case round =>
    clear H'
    try clear c1
    try clear p2
    try clear hcz3_0
    try clear hcz3_1
    try clear hfz3_0
    try clear hfz3_1
    obtain ⟨x10_1, rfl, HA, HK1, BK110, HB⟩ := hrel
    cases gk with
    | zero => exact absurd HA.out (by simp [spec_goodCap.l0])
    | succ k1 =>
      have H := HA.out
      clear HA
      simp only [spec_goodCap.l0] at H
      by_cases c4 : x10_1 < (l0_1.length : Int)
      · rw [if_pos c4] at H
        have c4b0 : decide (x10_1 < (l0_1.length : Int)) = true := decide_eq_true c4
        clear c4
        by_cases c5 : 0 ≤ x10_1
        · rw [if_pos c5] at H
          have c5b0 : decide (0 ≤ x10_1) = true := decide_eq_true c5
          clear c5
          by_cases c6 : x10_1 < (l0_1.length : Int)
          · rw [if_pos c6] at H
            have c6b0 : decide (x10_1 < (l0_1.length : Int)) = true := decide_eq_true c6
            clear c6
            replace H := Option.bind_eq_some_iff.mp H
            obtain ⟨t112, A70, H⟩ := H
            replace H : (if t112 = true then (spec_goodCap.l0 k1 l0_1 (l0_1.length : Int) (wrap64 (x10_1 + 1)) a0_0 l0_1) else (some false)) = some r := H
            have A7 := Aside0.mk A70
            clear A70
            by_cases c8 : t112 = true
            · subst c8
              have H1 : (spec_goodCap.l0 k1 l0_1 (l0_1.length : Int) (wrap64 (x10_1 + 1)) a0_0 l0_1) = some r := by rw [if_pos rfl] at H; exact H
              clear H
              have H := H1
              clear H1
              have H' := Aside0.mk H
              clear H
              have p111 : 0 ≤ (x10_1 : Int) := of_decide_eq_true (by first | (with_reducible assumption) | assumption)
              have q111 : x10_1 < (l0_1.length : Int) := of_decide_eq_true (by first | (with_reducible assumption) | assumption)
              obtain ⟨ad111, e111, hx111_0⟩ := Kd.at_string HR0_1.out x10_1 p111 q111
              cases e111
              replace hx111_0 := (HB.out.cell (World.block_lt_of_cell? w _ hx111_0)).trans hx111_0
              replace p111 := eq_true p111
              replace q111 := eq_true q111
              go_wp2_with (first | ((with_reducible refine gate_callee (f := 24) rfl ?_); refine goesL_ (some 15) rfl rfl Tryd.func24 (by kernel_rfl) rfl #[.string (rdOf ByteArray.empty l0_1 x10_1)] rfl (by (try simp only [List.map_toArray, List.map_cons, List.map_nil]); first | done | rfl | (simp only [List.length_drop, List.length_take]; rfl)) ?_; (with_reducible refine (spec_IsWord.calls k1 (rdOf ByteArray.empty l0_1 x10_1) true _ A7.out).mono ?_); rintro e w' ⟨rfl, ⟨nd, rfl⟩⟩; refine ⟨_, rfl, ?_⟩))
              go_roundg k1
              case measure => have := HK1.out; omega
              case rel => exact ⟨(wrap64 (x10_1 + 1)), (by first | rfl | (simp; done) | (simp [*]; done)), H', ⟨by have := HK1.out; omega⟩, ⟨by (with_reducible repeat (first | refine blk_drewN ?_ _ | refine blk_drew ?_ | refine blk_alloc ?_ _)); exact BK110.out⟩, ⟨by repeat (first | (with_reducible first | exact HB.out | apply below_alloc | apply pw_below_drewN | apply below_drew1 | refine below_set ?_ GE110.out) | exact HB.out)⟩⟩
            · replace c8 := Bool.eq_false_iff.mpr c8
              subst c8
              have H1 : (some false) = some r := by rw [if_neg (show ¬ (false = true) by decide)] at H; exact H
              clear H
              have H := H1
              clear H1
              obtain rfl := Option.some.inj H
              have p111 : 0 ≤ (x10_1 : Int) := of_decide_eq_true (by first | (with_reducible assumption) | assumption)
              have q111 : x10_1 < (l0_1.length : Int) := of_decide_eq_true (by first | (with_reducible assumption) | assumption)
              obtain ⟨ad111, e111, hx111_0⟩ := Kd.at_string HR0_1.out x10_1 p111 q111
              cases e111
              replace hx111_0 := (HB.out.cell (World.block_lt_of_cell? w _ hx111_0)).trans hx111_0
              replace p111 := eq_true p111
              replace q111 := eq_true q111
              go_wp2_with (first | ((with_reducible refine gate_callee (f := 24) rfl ?_); refine goesL_ (some 15) rfl rfl Tryd.func24 (by kernel_rfl) rfl #[.string (rdOf ByteArray.empty l0_1 x10_1)] rfl (by (try simp only [List.map_toArray, List.map_cons, List.map_nil]); first | done | rfl | (simp only [List.length_drop, List.length_take]; rfl)) ?_; (with_reducible refine (spec_IsWord.calls k1 (rdOf ByteArray.empty l0_1 x10_1) false _ A7.out).mono ?_); rintro e w' ⟨rfl, ⟨nd, rfl⟩⟩; refine ⟨_, rfl, ?_⟩))
              go_ret
              exact ⟨by first | rfl | (simp [errW_none, errW_some] <;> rfl) | (simp [*, errW_none, errW_some] <;> rfl), by repeat (first | (with_reducible first | exact HB.out | apply below_alloc | apply pw_below_drewN | apply below_drew1 | refine below_set ?_ GE110.out) | exact HB.out)⟩
          · rw [if_neg c6] at H
            exact absurd H (by simp)
        · rw [if_neg c5] at H
          exact absurd H (by simp)
      · rw [if_neg c4] at H
        have c4b0 : decide (x10_1 < (l0_1.length : Int)) = false := decide_eq_false c4
        clear c4
        by_cases c9 : a0_0.toList = ([97, 103, 101, 110, 116] : List UInt8)
        · rw [if_pos c9] at H
          have c9b0 : (a0_0.toList == ([97, 103, 101, 110, 116] : List UInt8)) = true := beq_iff_eq.mpr c9
          have c9b1 : (a0_0.toList != ([97, 103, 101, 110, 116] : List UInt8)) = false := bne_eq_false_iff_eq.mpr c9
          clear c9
          obtain rfl := Option.some.inj H
          have hcz10_0 : wr.cell? ⟨gb110, 0, none⟩ = some (.string a0_0) := (blk_cell BK110.out 0).trans rfl
          have hcz10_1 : wr.cell? ⟨gb110, 1, none⟩ = some (.slice A0_1 l0_1.length c0_1) := (blk_cell BK110.out 1).trans rfl
          have hfz10_0 := blk_frozen BK110.out 0
          have hfz10_1 := blk_frozen BK110.out 1
          go_wp2
          go_ret
          exact ⟨by first | rfl | (simp [errW_none, errW_some] <;> rfl) | (simp [*, errW_none, errW_some] <;> rfl), by repeat (first | (with_reducible first | exact HB.out | apply below_alloc | apply pw_below_drewN | apply below_drew1 | refine below_set ?_ GE110.out) | exact HB.out)⟩
        · rw [if_neg c9] at H
          have c9b0 : (a0_0.toList == ([97, 103, 101, 110, 116] : List UInt8)) = false := beq_eq_false_iff_ne.mpr c9
          have c9b1 : (a0_0.toList != ([97, 103, 101, 110, 116] : List UInt8)) = true := bne_iff_ne.mpr c9
          by_cases c11 : a0_0.toList = ([115, 121, 109, 114, 101, 102] : List UInt8)
          · rw [if_pos c11] at H
            have c11b0 : (a0_0.toList == ([115, 121, 109, 114, 101, 102] : List UInt8)) = true := beq_iff_eq.mpr c11
            have c11b1 : (a0_0.toList != ([115, 121, 109, 114, 101, 102] : List UInt8)) = false := bne_eq_false_iff_eq.mpr c11
            clear c11
            by_cases c12 : (l0_1.length : Int) ≥ 1
            · rw [if_pos c12] at H
              have c12b0 : decide (1 ≤ (l0_1.length : Int)) = true := decide_eq_true c12
              have c12b1 : decide (1 ≤ l0_1.length) = true := decide_eq_true (by omega)
              clear c12
              obtain rfl := Option.some.inj H
              have hcz13_0 : wr.cell? ⟨gb110, 0, none⟩ = some (.string a0_0) := (blk_cell BK110.out 0).trans rfl
              have hcz13_1 : wr.cell? ⟨gb110, 1, none⟩ = some (.slice A0_1 l0_1.length c0_1) := (blk_cell BK110.out 1).trans rfl
              have hfz13_0 := blk_frozen BK110.out 0
              have hfz13_1 := blk_frozen BK110.out 1
              go_wp2
              go_ret
              exact ⟨by first | rfl | (simp [errW_none, errW_some] <;> rfl) | (simp [*, errW_none, errW_some] <;> rfl), by repeat (first | (with_reducible first | exact HB.out | apply below_alloc | apply pw_below_drewN | apply below_drew1 | refine below_set ?_ GE110.out) | exact HB.out)⟩
            · rw [if_neg c12] at H
              have c12b0 : decide (1 ≤ (l0_1.length : Int)) = false := decide_eq_false c12
              have c12b1 : decide (1 ≤ l0_1.length) = false := decide_eq_false (by omega)
              clear c12
              obtain rfl := Option.some.inj H
              have hcz14_0 : wr.cell? ⟨gb110, 0, none⟩ = some (.string a0_0) := (blk_cell BK110.out 0).trans rfl
              have hcz14_1 : wr.cell? ⟨gb110, 1, none⟩ = some (.slice A0_1 l0_1.length c0_1) := (blk_cell BK110.out 1).trans rfl
              have hfz14_0 := blk_frozen BK110.out 0
              have hfz14_1 := blk_frozen BK110.out 1
              go_wp2
              go_ret
              exact ⟨by first | rfl | (simp [errW_none, errW_some] <;> rfl) | (simp [*, errW_none, errW_some] <;> rfl), by repeat (first | (with_reducible first | exact HB.out | apply below_alloc | apply pw_below_drewN | apply below_drew1 | refine below_set ?_ GE110.out) | exact HB.out)⟩
          · rw [if_neg c11] at H
            have c11b0 : (a0_0.toList == ([115, 121, 109, 114, 101, 102] : List UInt8)) = false := beq_eq_false_iff_ne.mpr c11
            have c11b1 : (a0_0.toList != ([115, 121, 109, 114, 101, 102] : List UInt8)) = true := bne_iff_ne.mpr c11
            replace H := Option.bind_eq_some_iff.mp H
            obtain ⟨t113, A150, H⟩ := H
            replace H : (spec_goodCap.l1 k1 t113 (t113.length : Int) 0 a0_0 l0_1) = some r := H
            have A15 := Aside0.mk A150
            clear A150
            have H' := Aside0.mk H
            clear H
            have hcz16_0 : wr.cell? ⟨gb110, 0, none⟩ = some (.string a0_0) := (blk_cell BK110.out 0).trans rfl
            have hcz16_1 : wr.cell? ⟨gb110, 1, none⟩ = some (.slice A0_1 l0_1.length c0_1) := (blk_cell BK110.out 1).trans rfl
            have hfz16_0 := blk_frozen BK110.out 0
            have hfz16_1 := blk_frozen BK110.out 1
            go_wp2_with (first | ((with_reducible refine gate_callee (f := 25) rfl ?_); refine goesL_ (some 38) rfl rfl Tryd.func25 (by kernel_rfl) rfl #[] rfl (by (try simp only [List.map_toArray, List.map_cons, List.map_nil]); first | done | rfl | (simp only [List.length_drop, List.length_take]; rfl)) ?_; (with_reducible refine (spec_plainCaps.calls  t113 _ A15.out).mono ?_); rintro e w17 ⟨v114, rfl, ho0, hb⟩; refine ⟨_, rfl, ?_⟩; have n0_ := Aside0.mk (Kd.R_lower ho0 (below_size (by repeat (first | (with_reducible first | exact HB.out | apply below_alloc | apply pw_below_drewN | apply below_drew1 | refine below_set ?_ GE110.out) | exact HB.out)))); have n1_ := Aside0.mk (blk_below (g := gb110) (o := .cells #[.string a0_0, .slice A0_1 l0_1.length c0_1] 30 (0, 0)) (by (with_reducible repeat (first | refine blk_drewN ?_ _ | refine blk_drew ?_ | refine blk_alloc ?_ _)); exact BK110.out) hb); have n2_ := Aside0.mk (below_step (by repeat (first | (with_reducible first | exact HB.out | apply below_alloc | apply pw_below_drewN | apply below_drew1 | refine below_set ?_ GE110.out) | exact HB.out)) hb); clear BK110; clear HB; have HO115 := n0_; have BK110 := n1_; have HB := n2_; clear n0_ n1_ n2_; (try clear hb); (try clear hb2); (try clear hk); (try clear hi); (try clear ho0); obtain ⟨Ao18, co18, eo18⟩ := Kd.R_slice HO115.out; subst eo18))
            go_loopg [40] k1 (fun kq v40 w' => ∃ (x40_2 : Int), v40 = .int .i64 x40_2 ∧ Aside0 (spec_goodCap.l1 kq t113 (t113.length : Int) x40_2 a0_0 l0_1 = some r) ∧ Aside0 (kq ≤ k1) ∧ Aside0 (Kd.R Kd.string 9 w' w.heap.size (fun _ => True) (.slice Ao18 t113.length co18) t113) ∧ Aside0 (w'.heap[gb110]? = some (.cells #[.string a0_0, (.slice A0_1 l0_1.length c0_1)] 30 (0, 0))) ∧ Aside0 (Below w.heap.size w w'))
            case atStart => exact ⟨(0), (by first | rfl | (simp; done) | (simp [*]; done)), H', ⟨Nat.le_refl _⟩, ⟨by (with_reducible repeat (first | apply Kd.R_alloc | apply Kd.R_drewN | apply Kd.R_drew)); exact HO115.out⟩, ⟨by (with_reducible repeat (first | refine blk_drewN ?_ _ | refine blk_drew ?_ | refine blk_alloc ?_ _)); exact BK110.out⟩, ⟨by repeat (first | (with_reducible first | exact HB.out | apply below_alloc | apply pw_below_drewN | apply below_drew1 | refine below_set ?_ GE110.out) | exact HB.out)⟩⟩
            case round =>
              clear H'
              try clear c1
              try clear p1
              try clear q1
              try clear hx1
              try clear c2
              try clear p2
              try clear c4
              try clear c4b0
              try clear c5
              try clear c5b0
              try clear c6
              try clear c6b0
              try clear p6
              try clear c8
              try clear c9
              try clear c9b0
              try clear c9b1
              try clear c11
              try clear c11b0
              try clear c11b1
              try clear p11
              try clear q11
              try clear hx11
              try clear c12
              try clear c12b0
              try clear c12b1
              try clear c14
              try clear hcz10_0
              try clear hcz10_1
              try clear hcz13_0
              try clear hcz13_1
              try clear hcz14_0
              try clear hcz14_1
              try clear hcz16_0
              try clear hcz16_1
              try clear hcz3_0
              try clear hcz3_1
              try clear hfz10_0
              try clear hfz10_1
              try clear hfz13_0
              try clear hfz13_1
              try clear hfz14_0
              try clear hfz14_1
              try clear hfz16_0
              try clear hfz16_1
              try clear hfz3_0
              try clear hfz3_1
              try clear hx111_0
              try clear p111
              try clear p2
              try clear q111
              obtain ⟨x40_2, rfl, HA, HK2, HO_38, BK110, HB⟩ := hrel
              cases gk with
              | zero => exact absurd HA.out (by simp [spec_goodCap.l1])
              | succ k2 =>
                have H := HA.out
                clear HA
                simp only [spec_goodCap.l1] at H
                by_cases c19 : x40_2 < (t113.length : Int)
                · rw [if_pos c19] at H
                  have c19b0 : decide (x40_2 < (t113.length : Int)) = true := decide_eq_true c19
                  clear c19
                  by_cases c20 : 0 ≤ x40_2
                  · rw [if_pos c20] at H
                    have c20b0 : decide (0 ≤ x40_2) = true := decide_eq_true c20
                    clear c20
                    by_cases c21 : x40_2 < (t113.length : Int)
                    · rw [if_pos c21] at H
                      have c21b0 : decide (x40_2 < (t113.length : Int)) = true := decide_eq_true c21
                      clear c21
                      by_cases c22 : a0_0.toList = (rdOf ByteArray.empty t113 x40_2).toList
                      · rw [if_pos c22] at H
                        have c22b0 : (a0_0.toList == (rdOf ByteArray.empty t113 x40_2).toList) = true := beq_iff_eq.mpr c22
                        have c22b1 : (a0_0.toList != (rdOf ByteArray.empty t113 x40_2).toList) = false := bne_eq_false_iff_eq.mpr c22
                        clear c22
                        obtain rfl := Option.some.inj H
                        have p116 : 0 ≤ (x40_2 : Int) := of_decide_eq_true (by first | (with_reducible assumption) | assumption)
                        have q116 : x40_2 < (t113.length : Int) := of_decide_eq_true (by first | (with_reducible assumption) | assumption)
                        obtain ⟨ad116, e116, hx116_0⟩ := Kd.at_string (Kd.R_reads' HO_38.out).2.2 x40_2 p116 q116
                        cases e116
                        replace p116 := eq_true p116
                        replace q116 := eq_true q116
                        have hcz23_0 : wr.cell? ⟨gb110, 0, none⟩ = some (.string a0_0) := (blk_cell BK110.out 0).trans rfl
                        have hcz23_1 : wr.cell? ⟨gb110, 1, none⟩ = some (.slice A0_1 l0_1.length c0_1) := (blk_cell BK110.out 1).trans rfl
                        have hfz23_0 := blk_frozen BK110.out 0
                        have hfz23_1 := blk_frozen BK110.out 1
                        go_wp2
                        go_ret
                        exact ⟨by first | rfl | (simp [errW_none, errW_some] <;> rfl) | (simp [*, errW_none, errW_some] <;> rfl), by repeat (first | (with_reducible first | exact HB.out | apply below_alloc | apply pw_below_drewN | apply below_drew1 | refine below_set ?_ GE110.out) | exact HB.out)⟩
                      · rw [if_neg c22] at H
                        have c22b0 : (a0_0.toList == (rdOf ByteArray.empty t113 x40_2).toList) = false := beq_eq_false_iff_ne.mpr c22
                        have c22b1 : (a0_0.toList != (rdOf ByteArray.empty t113 x40_2).toList) = true := bne_iff_ne.mpr c22
                        have H' := Aside0.mk H
                        clear H
                        have p116 : 0 ≤ (x40_2 : Int) := of_decide_eq_true (by first | (with_reducible assumption) | assumption)
                        have q116 : x40_2 < (t113.length : Int) := of_decide_eq_true (by first | (with_reducible assumption) | assumption)
                        obtain ⟨ad116, e116, hx116_0⟩ := Kd.at_string (Kd.R_reads' HO_38.out).2.2 x40_2 p116 q116
                        cases e116
                        replace p116 := eq_true p116
                        replace q116 := eq_true q116
                        have hcz24_0 : wr.cell? ⟨gb110, 0, none⟩ = some (.string a0_0) := (blk_cell BK110.out 0).trans rfl
                        have hcz24_1 : wr.cell? ⟨gb110, 1, none⟩ = some (.slice A0_1 l0_1.length c0_1) := (blk_cell BK110.out 1).trans rfl
                        have hfz24_0 := blk_frozen BK110.out 0
                        have hfz24_1 := blk_frozen BK110.out 1
                        go_wp2
                        go_roundg k2
                        case measure => have := HK1.out; have := HK2.out; omega
                        case rel => exact ⟨(wrap64 (x40_2 + 1)), (by first | rfl | (simp; done) | (simp [*]; done)), H', ⟨by have := HK1.out; have := HK2.out; omega⟩, ⟨by (with_reducible repeat (first | apply Kd.R_alloc | apply Kd.R_drewN | apply Kd.R_drew)); exact HO_38.out⟩, ⟨by (with_reducible repeat (first | refine blk_drewN ?_ _ | refine blk_drew ?_ | refine blk_alloc ?_ _)); exact BK110.out⟩, ⟨by repeat (first | (with_reducible first | exact HB.out | apply below_alloc | apply pw_below_drewN | apply below_drew1 | refine below_set ?_ GE110.out) | exact HB.out)⟩⟩
                    · rw [if_neg c21] at H
                      exact absurd H (by simp)
                  · rw [if_neg c20] at H
                    exact absurd H (by simp)
                · rw [if_neg c19] at H
                  have c19b0 : decide (x40_2 < (t113.length : Int)) = false := decide_eq_false c19
                  clear c19
                  obtain rfl := Option.some.inj H
                  go_wp2
                  go_ret
                  exact ⟨by first | rfl | (simp [errW_none, errW_some] <;> rfl) | (simp [*, errW_none, errW_some] <;> rfl), by repeat (first | (with_reducible first | exact HB.out | apply below_alloc | apply pw_below_drewN | apply below_drew1 | refine below_set ?_ GE110.out) | exact HB.out)⟩

/-! ### spec_GoodCaps: function 6 -/
mutual
def spec_GoodCaps.l0 : Nat → List (S30) → List (S30) → Int → Int → Option (Bool)
  | 0, _, _, _, _ => none
  | k + 1, x0, x7, x8, x9 => if x9 < x8 then (if 0 ≤ x9 then (if x9 < (x7.length : Int) then ((spec_goodCap.f k ((rd_T30 x7 x9).f0) ((rd_T30 x7 x9).f1)).bind fun t119 => (if t119 = true then (if x9 ≤ (x0.length : Int) then ((some (x0.take (x9 : Int).toNat : List (S30))).bind fun y120 => (spec_GoodCaps.l1 k x0 x7 x8 x9 y120 (y120.length : Int) 0 ((rd_T30 x7 x9).f0) ((rd_T30 x7 x9).f1))) else (none)) else (some false))) else (none)) else (none)) else (some (decide ((x0.length : Int) ≤ 60)))
def spec_GoodCaps.l1 : Nat → List (S30) → List (S30) → Int → Int → List (S30) → Int → Int → ByteArray → List ByteArray → Option (Bool)
  | 0, _, _, _, _, _, _, _, _, _ => none
  | k + 1, x0, x7, x8, x9, x19, x20, x21, x119000, x119001 => if x21 < x20 then (if 0 ≤ x21 then (if x21 < (x19.length : Int) then (if ((rd_T30 x19 x21).f0).toList = x119000.toList then (some false) else (spec_GoodCaps.l1 k x0 x7 x8 x9 x19 x20 (wrap64 (x21 + 1)) x119000 x119001)) else (none)) else (none)) else (spec_GoodCaps.l0 k x0 x7 x8 (wrap64 (x9 + 1)))
end
def spec_GoodCaps.f (k : Nat) (l0 : List (S30)) : Option (Bool) := spec_GoodCaps.l0 k l0 l0 (l0.length : Int) 0
theorem spec_GoodCaps.mono_l : ∀ k, (∀ y0 y1 y2 y3, LeO (spec_GoodCaps.l0 k y0 y1 y2 y3) (spec_GoodCaps.l0 (k + 1) y0 y1 y2 y3)) ∧ (∀ y0 y1 y2 y3 y4 y5 y6 y7 y8, LeO (spec_GoodCaps.l1 k y0 y1 y2 y3 y4 y5 y6 y7 y8) (spec_GoodCaps.l1 (k + 1) y0 y1 y2 y3 y4 y5 y6 y7 y8))
  | 0 => ⟨fun _ _ _ _ r h => by simp [spec_GoodCaps.l0] at h, fun _ _ _ _ _ _ _ _ _ r h => by simp [spec_GoodCaps.l1] at h⟩
  | k + 1 => by
    obtain ⟨ih0, ih1⟩ := spec_GoodCaps.mono_l k
    refine ⟨?_, ?_⟩
    · intro y0 y1 y2 y3
      unfold spec_GoodCaps.l0
      repeat' first
      | (with_reducible exact ih0 _ _ _ _)
      | (with_reducible exact ih1 _ _ _ _ _ _ _ _ _)
      | (with_reducible exact spec_goodCap.mono _ _ _)
      | (with_reducible exact LeO.refl _)
      | (with_reducible exact LeO.none _)
      | (with_reducible refine LeO.ite ?_ ?_)
      | (with_reducible refine LeO.bind ?_ (fun _ => ?_))
      | exact ih0 _ _ _ _
      | exact ih1 _ _ _ _ _ _ _ _ _
      | exact spec_goodCap.mono _ _ _
      | exact LeO.none _
      | refine LeO.ite ?_ ?_
      | refine LeO.bind ?_ (fun _ => ?_)
    · intro y0 y1 y2 y3 y4 y5 y6 y7 y8
      unfold spec_GoodCaps.l1
      repeat' first
      | (with_reducible exact ih0 _ _ _ _)
      | (with_reducible exact ih1 _ _ _ _ _ _ _ _ _)
      | (with_reducible exact spec_goodCap.mono _ _ _)
      | (with_reducible exact LeO.refl _)
      | (with_reducible exact LeO.none _)
      | (with_reducible refine LeO.ite ?_ ?_)
      | (with_reducible refine LeO.bind ?_ (fun _ => ?_))
      | exact ih0 _ _ _ _
      | exact ih1 _ _ _ _ _ _ _ _ _
      | exact spec_goodCap.mono _ _ _
      | exact LeO.none _
      | refine LeO.ite ?_ ?_
      | refine LeO.bind ?_ (fun _ => ?_)
theorem spec_GoodCaps.mono : ∀ a0 k, LeO (spec_GoodCaps.f k a0) (spec_GoodCaps.f (k + 1) a0) := by
  intro a0 k
  obtain ⟨ih0, ih1⟩ := spec_GoodCaps.mono_l k
  unfold spec_GoodCaps.f
  repeat' first
      | (with_reducible exact ih0 _ _ _ _)
      | (with_reducible exact ih1 _ _ _ _ _ _ _ _ _)
      | (with_reducible exact spec_goodCap.mono _ _ _)
      | (with_reducible exact LeO.refl _)
      | (with_reducible exact LeO.none _)
      | (with_reducible refine LeO.ite ?_ ?_)
      | (with_reducible refine LeO.bind ?_ (fun _ => ?_))
      | exact ih0 _ _ _ _
      | exact ih1 _ _ _ _ _ _ _ _ _
      | exact spec_goodCap.mono _ _ _
      | exact LeO.none _
      | refine LeO.ite ?_ ?_
      | refine LeO.bind ?_ (fun _ => ?_)
set_option maxHeartbeats 8000000 in
set_option maxRecDepth 100000 in
theorem spec_GoodCaps.calls (k : Nat) (A0 : Option Addr) (c0 : Nat) (l0 : List (S30)) (r : Bool) (w : World) (hr0 : Kd.C k30 w A0 l0.length l0) (hc0 : l0.length ≤ c0) (h : spec_GoodCaps.f k l0 = some r) :
    Calls Tryd.prog 6 #[.slice A0 l0.length c0] w fun e w' => e = .returned (.bool r) ∧ Below w.heap.size w w' := by
  have hu30 := Tryd.underlying30
  have HR0 := Aside0.mk hr0
  have HC0 := Aside0.mk hc0
  clear hr0 hc0
  have HB := Aside0.mk (Below.refl w.heap.size w)
  have H : (spec_GoodCaps.l0 k l0 l0 (l0.length : Int) 0) = some r := h
  clear h
  have H' := Aside0.mk H
  clear H
  go_enter Tryd.func6, Tryd.ntmps6
  go_wp2
  go_loopg [9] k (fun kq v9 w' => ∃ (x9_1 : Int), v9 = .int .i64 x9_1 ∧ Aside0 (spec_GoodCaps.l0 kq l0 l0 (l0.length : Int) x9_1 = some r) ∧ Aside0 (kq ≤ k) ∧ Aside0 (Below w.heap.size w w'))
  case atStart => exact ⟨(0), (by first | rfl | (simp; done) | (simp [*]; done)), H', ⟨Nat.le_refl _⟩, ⟨by repeat (first | (with_reducible first | exact HB.out | apply below_alloc | apply pw_below_drewN | apply below_drew1) | exact HB.out)⟩⟩
  case round =>
    clear H'
    obtain ⟨x9_1, rfl, HA, HK1, HB⟩ := hrel
    cases gk with
    | zero => exact absurd HA.out (by simp [spec_GoodCaps.l0])
    | succ k1 =>
      have H := HA.out
      clear HA
      simp only [spec_GoodCaps.l0] at H
      by_cases c2 : x9_1 < (l0.length : Int)
      · rw [if_pos c2] at H
        have c2b0 : decide (x9_1 < (l0.length : Int)) = true := decide_eq_true c2
        clear c2
        by_cases c3 : 0 ≤ x9_1
        · rw [if_pos c3] at H
          have c3b0 : decide (0 ≤ x9_1) = true := decide_eq_true c3
          clear c3
          by_cases c4 : x9_1 < (l0.length : Int)
          · rw [if_pos c4] at H
            have c4b0 : decide (x9_1 < (l0.length : Int)) = true := decide_eq_true c4
            clear c4
            replace H := Option.bind_eq_some_iff.mp H
            obtain ⟨t119, A50, H⟩ := H
            replace H : (if t119 = true then (if x9_1 ≤ (l0.length : Int) then ((some (l0.take (x9_1 : Int).toNat : List (S30))).bind fun y120 => (spec_GoodCaps.l1 k1 l0 l0 (l0.length : Int) x9_1 y120 (y120.length : Int) 0 ((rd_T30 l0 x9_1).f0) ((rd_T30 l0 x9_1).f1))) else (none)) else (some false)) = some r := H
            have A5 := Aside0.mk A50
            clear A50
            by_cases c6 : t119 = true
            · subst c6
              have H1 : (if x9_1 ≤ (l0.length : Int) then ((some (l0.take (x9_1 : Int).toNat : List (S30))).bind fun y120 => (spec_GoodCaps.l1 k1 l0 l0 (l0.length : Int) x9_1 y120 (y120.length : Int) 0 ((rd_T30 l0 x9_1).f0) ((rd_T30 l0 x9_1).f1))) else (none)) = some r := by rw [if_pos rfl] at H; exact H
              clear H
              have H := H1
              clear H1
              have c7b0 := eq_true (of_decide_eq_true (by first | (with_reducible assumption) | assumption) : 0 ≤ x9_1)
              by_cases c8 : x9_1 ≤ (l0.length : Int)
              · rw [if_pos c8] at H
                have c8b0 := eq_true c8
                have c8b1 : decide (x9_1 ≤ (l0.length : Int)) = true := decide_eq_true c8
                clear c8
                obtain ⟨y120, hy120⟩ : ∃ y_ : List (S30), y_ = (l0.take (x9_1 : Int).toNat) := ⟨_, rfl⟩
                replace H : (spec_GoodCaps.l1 k1 l0 l0 (l0.length : Int) x9_1 y120 (y120.length : Int) 0 ((rd_T30 l0 x9_1).f0) ((rd_T30 l0 x9_1).f1)) = some r := by first | (rw [hy120]; with_reducible exact H) | (have H2_ := (Option.bind_some _ _).symm.trans H; rw [hy120]; with_reducible exact H2_) | (have H2_ := (Option.bind_some _ _).symm.trans H; with_reducible exact H2_) | with_reducible exact H | (rw [hy120]; exact H) | exact H
                have Ny120 := Aside0.mk hy120
                clear hy120
                have H' := Aside0.mk H
                clear H
                have p117 : 0 ≤ (x9_1 : Int) := of_decide_eq_true (by first | (with_reducible assumption) | assumption)
                have q117 : x9_1 < (l0.length : Int) := of_decide_eq_true (by first | (with_reducible assumption) | assumption)
                obtain ⟨ad117, A117_1, c117_1, e117, hx117_0, hx117_1, hl117_1, hi117_1⟩ := at_T30 HR0.out x9_1 p117 q117
                cases e117
                replace hx117_0 := (HB.out.cell (World.block_lt_of_cell? w _ hx117_0)).trans hx117_0
                replace hx117_1 := (HB.out.cell (World.block_lt_of_cell? w _ hx117_1)).trans hx117_1
                have HR117_1 := Aside0.mk hi117_1
                have HC117_1 := Aside0.mk hl117_1
                clear hi117_1 hl117_1
                replace p117 := eq_true p117
                replace q117 := eq_true q117
                go_wp2_with (first | ((with_reducible refine gate_dst (N := 4) rfl ?_); refine box_event ?hg (N := 4) ?hd (cs := #[.string (⟨#[]⟩ : ByteArray), .slice none 0 0]) (t := 30) ?hr ?_; (case hd => rfl); (case hg => rfl); (case hr => first | (go_simp; done) | (go_simp; rfl)); intro gb118 hg w9 hbox hb; have n0_ := Aside0.mk (below_step (by repeat (first | (with_reducible first | exact HB.out | apply below_alloc | apply pw_below_drewN | apply below_drew1) | exact HB.out)) hb); have n1_ := Aside0.mk (hbox); have n2_ := Aside0.mk ((by rw [hg]; exact (below_size (by repeat (first | (with_reducible first | exact HB.out | apply below_alloc | apply pw_below_drewN | apply below_drew1) | exact HB.out))) : w.heap.size ≤ gb118)); have n3_ := Aside0.mk ((by rw [hg]; exact (below_size (by repeat (first | (with_reducible first | exact HB.out | apply below_alloc | apply pw_below_drewN | apply below_drew1) | exact HB.out))) : w.heap.size ≤ gb118)); clear HB; have HB := n0_; have BK118 := n1_; have GW118 := n2_; have GE118 := n3_; clear n0_ n1_ n2_ n3_; clear hb hbox hg; have hcz10_0 : w9.cell? ⟨gb118, 0, none⟩ = some (.string (⟨#[]⟩ : ByteArray)) := (blk_cell BK118.out 0).trans rfl; have hcz10_1 : w9.cell? ⟨gb118, 1, none⟩ = some (.slice none 0 0) := (blk_cell BK118.out 1).trans rfl; have hfz10_0 := blk_frozen BK118.out 0; have hfz10_1 := blk_frozen BK118.out 1) | ((with_reducible refine gate_callee (f := 14) rfl ?_); refine goesL_ (some 15) rfl rfl Tryd.func14 (by kernel_rfl) rfl #[.agg #[.string ((rd_T30 l0 x9_1).f0), .slice A117_1 ((rd_T30 l0 x9_1).f1).length c117_1]] rfl (by (try simp only [List.map_toArray, List.map_cons, List.map_nil]); first | done | rfl | (simp only [List.length_drop, List.length_take]; rfl)) ?_; (with_reducible refine (spec_goodCap.calls k1 ((rd_T30 l0 x9_1).f0) _ _ ((rd_T30 l0 x9_1).f1) true _ ?side1 ?side2 A5.out).mono ?_); (case side1 => exact Kd.C_below HR117_1.out (by repeat (first | (with_reducible first | exact HB.out | apply below_alloc | apply pw_below_drewN | apply below_drew1 | refine below_set ?_ GE118.out) | exact HB.out))); (case side2 => exact HC117_1.out); rintro e w11 ⟨rfl, hb⟩; refine ⟨_, rfl, ?_⟩; have n0_ := Aside0.mk (blk_below (g := gb118) (o := .cells #[.string ((rd_T30 l0 x9_1).f0), .slice A117_1 ((rd_T30 l0 x9_1).f1).length c117_1] 30 (0, 0)) (by (with_reducible repeat (first | refine blk_drewN ?_ _ | refine blk_drew ?_ | refine blk_alloc ?_ _)); refine blk_put (cs := #[.string ((rd_T30 l0 x9_1).f0), .slice none 0 0]) ?_ 1 _ rfl; (with_reducible repeat (first | refine blk_drewN ?_ _ | refine blk_drew ?_ | refine blk_alloc ?_ _)); refine blk_put (cs := #[.string (⟨#[]⟩ : ByteArray), .slice none 0 0]) ?_ 0 _ rfl; (with_reducible repeat (first | refine blk_drewN ?_ _ | refine blk_drew ?_ | refine blk_alloc ?_ _)); exact BK118.out) hb); have n1_ := Aside0.mk (below_step (by repeat (first | (with_reducible first | exact HB.out | apply below_alloc | apply pw_below_drewN | apply below_drew1 | refine below_set ?_ GE118.out) | exact HB.out)) hb); clear BK118; clear HB; have BK118 := n0_; have HB := n1_; clear n0_ n1_; (try clear hb); (try clear hb2); (try clear hk); (try clear hi); have q12 : (x9_1 : Int) ≤ ((l0.length : Int) : Int) := of_decide_eq_true (by first | (with_reducible assumption) | assumption); obtain ⟨i012, hi012, _, hsz12, _⟩ := info_parts info30; have hroom12 : l0.length ≤ c0 := HC0.out; have hC12 : Kd.C k30 _ (some ad117) l0.length l0 := HR0.out; have hcut12 := cut_to (P := Tryd.prog) 22 30 .i64 Tryd.underlying22 hi012 (some ad117) l0.length c0 x9_1 (of_decide_eq_true (by first | (with_reducible assumption) | assumption)) q12 hroom12; have hr12 := Kd.C_take (m := (x9_1 : Int).toNat) hC12 (by omega); have hy12 : y120.length = (x9_1 : Int).toNat := (by rw [Ny120.out, List.length_take]; omega); rw [← Ny120.out] at hr12; rw [← hy12] at hcut12; have HR123 := Aside0.mk hr12; have HC123 := Aside0.mk (show y120.length ≤ c0 from by omega); clear hr12 hC12 hroom12 hi012 hsz12; have KY12 := Aside0.mk hy12; clear hy12; replace q12 := eq_true q12))
                go_loopg [21] k1 (fun kq v21 w' => ∃ (x21_2 : Int), v21 = .int .i64 x21_2 ∧ Aside0 (spec_GoodCaps.l1 kq l0 l0 (l0.length : Int) x9_1 y120 (y120.length : Int) x21_2 ((rd_T30 l0 x9_1).f0) ((rd_T30 l0 x9_1).f1) = some r) ∧ Aside0 (kq ≤ k1) ∧ Aside0 (w'.heap[gb118]? = some (.cells #[.string ((rd_T30 l0 x9_1).f0), (.slice A117_1 ((rd_T30 l0 x9_1).f1).length c117_1)] 30 (0, 0))) ∧ Aside0 (Below w.heap.size w w'))
                case atStart => exact ⟨(0), (by first | rfl | (simp; done) | (simp [*]; done)), H', ⟨Nat.le_refl _⟩, ⟨by (with_reducible repeat (first | refine blk_drewN ?_ _ | refine blk_drew ?_ | refine blk_alloc ?_ _)); exact BK118.out⟩, ⟨by repeat (first | (with_reducible first | exact HB.out | apply below_alloc | apply pw_below_drewN | apply below_drew1 | refine below_set ?_ GE118.out) | exact HB.out)⟩⟩
                case round =>
                  clear H'
                  try clear c1
                  try clear p1
                  try clear q1
                  try clear hx1
                  try clear c2
                  try clear c2b0
                  try clear p2
                  try clear c3
                  try clear c3b0
                  try clear c4
                  try clear c4b0
                  try clear c6
                  try clear c7
                  try clear c7b0
                  try clear c8
                  try clear c8b0
                  try clear c8b1
                  try clear c11
                  try clear p11
                  try clear q11
                  try clear hx11
                  try clear q12
                  try clear hcz10_0
                  try clear hcz10_1
                  try clear hfz10_0
                  try clear hfz10_1
                  try clear hx117_0
                  try clear hx117_1
                  try clear p117
                  try clear q117
                  try clear q12
                  obtain ⟨x21_2, rfl, HA, HK2, BK118, HB⟩ := hrel
                  cases gk with
                  | zero => exact absurd HA.out (by simp [spec_GoodCaps.l1])
                  | succ k2 =>
                    have H := HA.out
                    clear HA
                    simp only [spec_GoodCaps.l1] at H
                    by_cases c13 : x21_2 < (y120.length : Int)
                    · rw [if_pos c13] at H
                      have c13b0 : decide (x21_2 < (y120.length : Int)) = true := decide_eq_true c13
                      clear c13
                      by_cases c14 : 0 ≤ x21_2
                      · rw [if_pos c14] at H
                        have c14b0 : decide (0 ≤ x21_2) = true := decide_eq_true c14
                        clear c14
                        by_cases c15 : x21_2 < (y120.length : Int)
                        · rw [if_pos c15] at H
                          have c15b0 : decide (x21_2 < (y120.length : Int)) = true := decide_eq_true c15
                          clear c15
                          by_cases c16 : ((rd_T30 y120 x21_2).f0).toList = ((rd_T30 l0 x9_1).f0).toList
                          · rw [if_pos c16] at H
                            have c16b0 : (((rd_T30 y120 x21_2).f0).toList == ((rd_T30 l0 x9_1).f0).toList) = true := beq_iff_eq.mpr c16
                            have c16b1 : (((rd_T30 y120 x21_2).f0).toList != ((rd_T30 l0 x9_1).f0).toList) = false := bne_eq_false_iff_eq.mpr c16
                            clear c16
                            obtain rfl := Option.some.inj H
                            have p124 : 0 ≤ (x21_2 : Int) := of_decide_eq_true (by first | (with_reducible assumption) | assumption)
                            have q124 : x21_2 < (y120.length : Int) := of_decide_eq_true (by first | (with_reducible assumption) | assumption)
                            obtain ⟨ad124, A124_1, c124_1, e124, hx124_0, hx124_1, hl124_1, hi124_1⟩ := at_T30 HR123.out x21_2 p124 q124
                            obtain rfl : ad117 = ad124 := (by injection e124)
                            replace hx124_0 := (HB.out.cell (World.block_lt_of_cell? w _ hx124_0)).trans hx124_0
                            replace hx124_1 := (HB.out.cell (World.block_lt_of_cell? w _ hx124_1)).trans hx124_1
                            have HR124_1 := Aside0.mk hi124_1
                            have HC124_1 := Aside0.mk hl124_1
                            clear hi124_1 hl124_1
                            replace p124 := eq_true p124
                            replace q124 := eq_true q124
                            go_wp2_with (first | ((with_reducible refine gate_dst (N := 6) rfl ?_); refine box_event ?hg (N := 6) ?hd (cs := #[.string (⟨#[]⟩ : ByteArray), .slice none 0 0]) (t := 30) ?hr ?_; (case hd => rfl); (case hg => rfl); (case hr => first | (go_simp; done) | (go_simp; rfl)); intro gb125 hg w17 hbox hb; have n0_ := Aside0.mk (blk_below (g := gb118) (o := .cells #[.string ((rd_T30 l0 x9_1).f0), .slice A117_1 ((rd_T30 l0 x9_1).f1).length c117_1] 30 (0, 0)) (by (with_reducible repeat (first | refine blk_drewN ?_ _ | refine blk_drew ?_ | refine blk_alloc ?_ _)); exact BK118.out) hb); have n1_ := Aside0.mk (below_step (by repeat (first | (with_reducible first | exact HB.out | apply below_alloc | apply pw_below_drewN | apply below_drew1 | refine below_set ?_ GE118.out) | exact HB.out)) hb); have n2_ := Aside0.mk (hbox); have n3_ := Aside0.mk ((by rw [hg]; exact (below_size (by repeat (first | (with_reducible first | exact HB.out | apply below_alloc | apply pw_below_drewN | apply below_drew1 | refine below_set ?_ GE118.out) | exact HB.out))) : w.heap.size ≤ gb125)); have n4_ := Aside0.mk ((by rw [hg]; exact (below_size (by repeat (first | (with_reducible first | exact HB.out | apply below_alloc | apply pw_below_drewN | apply below_drew1 | refine below_set ?_ GE118.out) | exact HB.out))) : w.heap.size ≤ gb125)); have n5_ := Aside0.mk ((by rw [hg]; exact Nat.ne_of_lt (blk_lt (g := gb118) (o := .cells #[.string ((rd_T30 l0 x9_1).f0), .slice A117_1 ((rd_T30 l0 x9_1).f1).length c117_1] 30 (0, 0)) (by (with_reducible repeat (first | refine blk_drewN ?_ _ | refine blk_drew ?_ | refine blk_alloc ?_ _)); exact BK118.out)) : gb118 ≠ gb125)); have n6_ := Aside0.mk ((by rw [hg]; exact Nat.ne_of_gt (blk_lt (g := gb118) (o := .cells #[.string ((rd_T30 l0 x9_1).f0), .slice A117_1 ((rd_T30 l0 x9_1).f1).length c117_1] 30 (0, 0)) (by (with_reducible repeat (first | refine blk_drewN ?_ _ | refine blk_drew ?_ | refine blk_alloc ?_ _)); exact BK118.out)) : gb125 ≠ gb118)); clear BK118; clear HB; have BK118 := n0_; have HB := n1_; have BK125 := n2_; have GW125 := n3_; have GE125 := n4_; have NB118_125 := n5_; have NB125_118 := n6_; clear n0_ n1_ n2_ n3_ n4_ n5_ n6_; clear hb hbox hg; have hnb18 := NB125_118.out; have hnc18 := NB118_125.out; have hcz19_0 : w17.cell? ⟨gb125, 0, none⟩ = some (.string (⟨#[]⟩ : ByteArray)) := (blk_cell BK125.out 0).trans rfl; have hcz19_1 : w17.cell? ⟨gb125, 1, none⟩ = some (.slice none 0 0) := (blk_cell BK125.out 1).trans rfl; have hfz19_0 := blk_frozen BK125.out 0; have hfz19_1 := blk_frozen BK125.out 1; have hcz20_0 : w17.cell? ⟨gb118, 0, none⟩ = some (.string ((rd_T30 l0 x9_1).f0)) := (blk_cell BK118.out 0).trans rfl; have hcz20_1 : w17.cell? ⟨gb118, 1, none⟩ = some (.slice A117_1 ((rd_T30 l0 x9_1).f1).length c117_1) := (blk_cell BK118.out 1).trans rfl; have hfz20_0 := blk_frozen BK118.out 0; have hfz20_1 := blk_frozen BK118.out 1))
                            go_ret
                            exact ⟨by first | rfl | (simp [errW_none, errW_some] <;> rfl) | (simp [*, errW_none, errW_some] <;> rfl), by repeat (first | (with_reducible first | exact HB.out | apply below_alloc | apply pw_below_drewN | apply below_drew1 | refine below_set ?_ GE118.out | refine below_set ?_ GE125.out) | exact HB.out)⟩
                          · rw [if_neg c16] at H
                            have c16b0 : (((rd_T30 y120 x21_2).f0).toList == ((rd_T30 l0 x9_1).f0).toList) = false := beq_eq_false_iff_ne.mpr c16
                            have c16b1 : (((rd_T30 y120 x21_2).f0).toList != ((rd_T30 l0 x9_1).f0).toList) = true := bne_iff_ne.mpr c16
                            have H' := Aside0.mk H
                            clear H
                            have p124 : 0 ≤ (x21_2 : Int) := of_decide_eq_true (by first | (with_reducible assumption) | assumption)
                            have q124 : x21_2 < (y120.length : Int) := of_decide_eq_true (by first | (with_reducible assumption) | assumption)
                            obtain ⟨ad124, A124_1, c124_1, e124, hx124_0, hx124_1, hl124_1, hi124_1⟩ := at_T30 HR123.out x21_2 p124 q124
                            obtain rfl : ad117 = ad124 := (by injection e124)
                            replace hx124_0 := (HB.out.cell (World.block_lt_of_cell? w _ hx124_0)).trans hx124_0
                            replace hx124_1 := (HB.out.cell (World.block_lt_of_cell? w _ hx124_1)).trans hx124_1
                            have HR124_1 := Aside0.mk hi124_1
                            have HC124_1 := Aside0.mk hl124_1
                            clear hi124_1 hl124_1
                            replace p124 := eq_true p124
                            replace q124 := eq_true q124
                            go_wp2_with (first | ((with_reducible refine gate_dst (N := 6) rfl ?_); refine box_event ?hg (N := 6) ?hd (cs := #[.string (⟨#[]⟩ : ByteArray), .slice none 0 0]) (t := 30) ?hr ?_; (case hd => rfl); (case hg => rfl); (case hr => first | (go_simp; done) | (go_simp; rfl)); intro gb125 hg w21 hbox hb; have n0_ := Aside0.mk (blk_below (g := gb118) (o := .cells #[.string ((rd_T30 l0 x9_1).f0), .slice A117_1 ((rd_T30 l0 x9_1).f1).length c117_1] 30 (0, 0)) (by (with_reducible repeat (first | refine blk_drewN ?_ _ | refine blk_drew ?_ | refine blk_alloc ?_ _)); exact BK118.out) hb); have n1_ := Aside0.mk (below_step (by repeat (first | (with_reducible first | exact HB.out | apply below_alloc | apply pw_below_drewN | apply below_drew1 | refine below_set ?_ GE118.out) | exact HB.out)) hb); have n2_ := Aside0.mk (hbox); have n3_ := Aside0.mk ((by rw [hg]; exact (below_size (by repeat (first | (with_reducible first | exact HB.out | apply below_alloc | apply pw_below_drewN | apply below_drew1 | refine below_set ?_ GE118.out) | exact HB.out))) : w.heap.size ≤ gb125)); have n4_ := Aside0.mk ((by rw [hg]; exact (below_size (by repeat (first | (with_reducible first | exact HB.out | apply below_alloc | apply pw_below_drewN | apply below_drew1 | refine below_set ?_ GE118.out) | exact HB.out))) : w.heap.size ≤ gb125)); have n5_ := Aside0.mk ((by rw [hg]; exact Nat.ne_of_lt (blk_lt (g := gb118) (o := .cells #[.string ((rd_T30 l0 x9_1).f0), .slice A117_1 ((rd_T30 l0 x9_1).f1).length c117_1] 30 (0, 0)) (by (with_reducible repeat (first | refine blk_drewN ?_ _ | refine blk_drew ?_ | refine blk_alloc ?_ _)); exact BK118.out)) : gb118 ≠ gb125)); have n6_ := Aside0.mk ((by rw [hg]; exact Nat.ne_of_gt (blk_lt (g := gb118) (o := .cells #[.string ((rd_T30 l0 x9_1).f0), .slice A117_1 ((rd_T30 l0 x9_1).f1).length c117_1] 30 (0, 0)) (by (with_reducible repeat (first | refine blk_drewN ?_ _ | refine blk_drew ?_ | refine blk_alloc ?_ _)); exact BK118.out)) : gb125 ≠ gb118)); clear BK118; clear HB; have BK118 := n0_; have HB := n1_; have BK125 := n2_; have GW125 := n3_; have GE125 := n4_; have NB118_125 := n5_; have NB125_118 := n6_; clear n0_ n1_ n2_ n3_ n4_ n5_ n6_; clear hb hbox hg; have hnb22 := NB125_118.out; have hnc22 := NB118_125.out; have hcz23_0 : w21.cell? ⟨gb125, 0, none⟩ = some (.string (⟨#[]⟩ : ByteArray)) := (blk_cell BK125.out 0).trans rfl; have hcz23_1 : w21.cell? ⟨gb125, 1, none⟩ = some (.slice none 0 0) := (blk_cell BK125.out 1).trans rfl; have hfz23_0 := blk_frozen BK125.out 0; have hfz23_1 := blk_frozen BK125.out 1; have hcz24_0 : w21.cell? ⟨gb118, 0, none⟩ = some (.string ((rd_T30 l0 x9_1).f0)) := (blk_cell BK118.out 0).trans rfl; have hcz24_1 : w21.cell? ⟨gb118, 1, none⟩ = some (.slice A117_1 ((rd_T30 l0 x9_1).f1).length c117_1) := (blk_cell BK118.out 1).trans rfl; have hfz24_0 := blk_frozen BK118.out 0; have hfz24_1 := blk_frozen BK118.out 1))
                            go_roundg k2
                            case measure => have := HK1.out; have := HK2.out; omega
                            case rel => exact ⟨(wrap64 (x21_2 + 1)), (by first | rfl | (simp; done) | (simp [*]; done)), H', ⟨by have := HK1.out; have := HK2.out; omega⟩, ⟨by (with_reducible repeat (first | refine blk_drewN ?_ _ | refine blk_drew ?_ | refine blk_alloc ?_ _)); refine blk_far ?_ NB118_125.out _; (with_reducible repeat (first | refine blk_drewN ?_ _ | refine blk_drew ?_ | refine blk_alloc ?_ _)); refine blk_far ?_ NB118_125.out _; (with_reducible repeat (first | refine blk_drewN ?_ _ | refine blk_drew ?_ | refine blk_alloc ?_ _)); exact BK118.out⟩, ⟨by repeat (first | (with_reducible first | exact HB.out | apply below_alloc | apply pw_below_drewN | apply below_drew1 | refine below_set ?_ GE118.out | refine below_set ?_ GE125.out) | exact HB.out)⟩⟩
                        · rw [if_neg c15] at H
                          exact absurd H (by simp)
                      · rw [if_neg c14] at H
                        exact absurd H (by simp)
                    · rw [if_neg c13] at H
                      have c13b0 : decide (x21_2 < (y120.length : Int)) = false := decide_eq_false c13
                      clear c13
                      have H' := Aside0.mk H
                      clear H
                      go_wp2
                      go_roundg k2
                      case measure => have := HK1.out; have := HK2.out; omega
                      case rel => exact ⟨(wrap64 (x9_1 + 1)), (by first | rfl | (simp; done) | (simp [*]; done)), H', ⟨by have := HK1.out; have := HK2.out; omega⟩, ⟨by repeat (first | (with_reducible first | exact HB.out | apply below_alloc | apply pw_below_drewN | apply below_drew1 | refine below_set ?_ GE118.out) | exact HB.out)⟩⟩
              · rw [if_neg c8] at H
                exact absurd H (by simp)
            · replace c6 := Bool.eq_false_iff.mpr c6
              subst c6
              have H1 : (some false) = some r := by rw [if_neg (show ¬ (false = true) by decide)] at H; exact H
              clear H
              have H := H1
              clear H1
              obtain rfl := Option.some.inj H
              have p117 : 0 ≤ (x9_1 : Int) := of_decide_eq_true (by first | (with_reducible assumption) | assumption)
              have q117 : x9_1 < (l0.length : Int) := of_decide_eq_true (by first | (with_reducible assumption) | assumption)
              obtain ⟨ad117, A117_1, c117_1, e117, hx117_0, hx117_1, hl117_1, hi117_1⟩ := at_T30 HR0.out x9_1 p117 q117
              cases e117
              replace hx117_0 := (HB.out.cell (World.block_lt_of_cell? w _ hx117_0)).trans hx117_0
              replace hx117_1 := (HB.out.cell (World.block_lt_of_cell? w _ hx117_1)).trans hx117_1
              have HR117_1 := Aside0.mk hi117_1
              have HC117_1 := Aside0.mk hl117_1
              clear hi117_1 hl117_1
              replace p117 := eq_true p117
              replace q117 := eq_true q117
              go_wp2_with (first | ((with_reducible refine gate_dst (N := 4) rfl ?_); refine box_event ?hg (N := 4) ?hd (cs := #[.string (⟨#[]⟩ : ByteArray), .slice none 0 0]) (t := 30) ?hr ?_; (case hd => rfl); (case hg => rfl); (case hr => first | (go_simp; done) | (go_simp; rfl)); intro gb118 hg w25 hbox hb; have n0_ := Aside0.mk (below_step (by repeat (first | (with_reducible first | exact HB.out | apply below_alloc | apply pw_below_drewN | apply below_drew1) | exact HB.out)) hb); have n1_ := Aside0.mk (hbox); have n2_ := Aside0.mk ((by rw [hg]; exact (below_size (by repeat (first | (with_reducible first | exact HB.out | apply below_alloc | apply pw_below_drewN | apply below_drew1) | exact HB.out))) : w.heap.size ≤ gb118)); have n3_ := Aside0.mk ((by rw [hg]; exact (below_size (by repeat (first | (with_reducible first | exact HB.out | apply below_alloc | apply pw_below_drewN | apply below_drew1) | exact HB.out))) : w.heap.size ≤ gb118)); clear HB; have HB := n0_; have BK118 := n1_; have GW118 := n2_; have GE118 := n3_; clear n0_ n1_ n2_ n3_; clear hb hbox hg; have hcz26_0 : w25.cell? ⟨gb118, 0, none⟩ = some (.string (⟨#[]⟩ : ByteArray)) := (blk_cell BK118.out 0).trans rfl; have hcz26_1 : w25.cell? ⟨gb118, 1, none⟩ = some (.slice none 0 0) := (blk_cell BK118.out 1).trans rfl; have hfz26_0 := blk_frozen BK118.out 0; have hfz26_1 := blk_frozen BK118.out 1) | ((with_reducible refine gate_callee (f := 14) rfl ?_); refine goesL_ (some 15) rfl rfl Tryd.func14 (by kernel_rfl) rfl #[.agg #[.string ((rd_T30 l0 x9_1).f0), .slice A117_1 ((rd_T30 l0 x9_1).f1).length c117_1]] rfl (by (try simp only [List.map_toArray, List.map_cons, List.map_nil]); first | done | rfl | (simp only [List.length_drop, List.length_take]; rfl)) ?_; (with_reducible refine (spec_goodCap.calls k1 ((rd_T30 l0 x9_1).f0) _ _ ((rd_T30 l0 x9_1).f1) false _ ?side1 ?side2 A5.out).mono ?_); (case side1 => exact Kd.C_below HR117_1.out (by repeat (first | (with_reducible first | exact HB.out | apply below_alloc | apply pw_below_drewN | apply below_drew1 | refine below_set ?_ GE118.out) | exact HB.out))); (case side2 => exact HC117_1.out); rintro e w27 ⟨rfl, hb⟩; refine ⟨_, rfl, ?_⟩; have n0_ := Aside0.mk (blk_below (g := gb118) (o := .cells #[.string ((rd_T30 l0 x9_1).f0), .slice A117_1 ((rd_T30 l0 x9_1).f1).length c117_1] 30 (0, 0)) (by (with_reducible repeat (first | refine blk_drewN ?_ _ | refine blk_drew ?_ | refine blk_alloc ?_ _)); refine blk_put (cs := #[.string ((rd_T30 l0 x9_1).f0), .slice none 0 0]) ?_ 1 _ rfl; (with_reducible repeat (first | refine blk_drewN ?_ _ | refine blk_drew ?_ | refine blk_alloc ?_ _)); refine blk_put (cs := #[.string (⟨#[]⟩ : ByteArray), .slice none 0 0]) ?_ 0 _ rfl; (with_reducible repeat (first | refine blk_drewN ?_ _ | refine blk_drew ?_ | refine blk_alloc ?_ _)); exact BK118.out) hb); have n1_ := Aside0.mk (below_step (by repeat (first | (with_reducible first | exact HB.out | apply below_alloc | apply pw_below_drewN | apply below_drew1 | refine below_set ?_ GE118.out) | exact HB.out)) hb); clear BK118; clear HB; have BK118 := n0_; have HB := n1_; clear n0_ n1_; (try clear hb); (try clear hb2); (try clear hk); (try clear hi)))
              go_ret
              exact ⟨by first | rfl | (simp [errW_none, errW_some] <;> rfl) | (simp [*, errW_none, errW_some] <;> rfl), by repeat (first | (with_reducible first | exact HB.out | apply below_alloc | apply pw_below_drewN | apply below_drew1 | refine below_set ?_ GE118.out) | exact HB.out)⟩
          · rw [if_neg c4] at H
            exact absurd H (by simp)
        · rw [if_neg c3] at H
          exact absurd H (by simp)
      · rw [if_neg c2] at H
        have c2b0 : decide (x9_1 < (l0.length : Int)) = false := decide_eq_false c2
        clear c2
        obtain rfl := Option.some.inj H
        go_wp2
        go_ret
        exact ⟨by first | rfl | (simp [errW_none, errW_some] <;> rfl) | (simp [*, errW_none, errW_some] <;> rfl), by repeat (first | (with_reducible first | exact HB.out | apply below_alloc | apply pw_below_drewN | apply below_drew1) | exact HB.out)⟩

-- NOT PRINTED: function 26 (pktline_NewScanner)

/-- A state of type 81 at block g of W; what its slices lead to came in by w0. -/
def IsS81 (w0 W : World) (g : Nat) (f0 : List Int) (f1 : Int) (f2 : Int) : Prop := ∃ A0 c0, W.heap[g]? = some (.cells #[.slice A0 f0.length c0, .int .i64 f1, .int .i64 f2] 81 (0, 0)) ∧ w0.heap.size ≤ g ∧ Kd.C (Kd.int .u8) w0 A0 f0.length f0
theorem IsS81.grown {w0 W : World} {g : Nat} {f0 : List Int} {f1 : Int} {f2 : Int} {W1 : World} {row : Option Nat} (h : IsS81 w0 W g f0 f1 f2) (hw : W.grownBy W1 row) (hne : some g ≠ row) : IsS81 w0 W1 g f0 f1 f2 := by
  obtain ⟨A0, c0, hb, hg, hr0⟩ := h
  exact ⟨A0, c0, blk_grown hb hw hne, hg, hr0⟩
theorem IsS81.own_neN {w0 W : World} {g : Nat} {f0 : List Int} {f1 : Int} {f2 : Int} {α : Type} {d : Kd α} {e : Nat} {base : Nat} {ok : Nat → Prop} {v : Value} {xs : List α} (h : IsS81 w0 W g f0 f1 f2) (ho : Kd.N d e W base ok v xs) (ht : e ≠ 81) : some g ≠ v.ownBlock := by
  obtain ⟨A0, c0, hb, hg, hr0⟩ := h
  exact Kd.N_ne ho hb ht
theorem IsS81.fresh {w0 W : World} {g : Nat} {f0 : List Int} {f1 : Int} {f2 : Int} (h : IsS81 w0 W g f0 f1 f2) : ∀ k, W.heap.size ≤ k → k ≠ g := by
  obtain ⟨A0, c0, hb, hg, hr0⟩ := h
  exact Kd.freshB hb
theorem IsS81.kept {w0 W : World} {g : Nat} {f0 : List Int} {f1 : Int} {f2 : Int} {W1 : World} {S : Nat → Prop} (h : IsS81 w0 W g f0 f1 f2) (hk : Kept W W1 S) (hne : ¬ S g) : IsS81 w0 W1 g f0 f1 f2 := by
  obtain ⟨A0, c0, hb, hg, hr0⟩ := h
  exact ⟨A0, c0, blk_kept hb hk hne, hg, hr0⟩
theorem IsS81.below {w0 W : World} {g : Nat} {f0 : List Int} {f1 : Int} {f2 : Int} {W1 : World} (h : IsS81 w0 W g f0 f1 f2) (hw : Below W.heap.size W W1) : IsS81 w0 W1 g f0 f1 f2 := h.grown (grown_of_below hw none) (by simp)
theorem IsS81.alloc {w0 W : World} {g : Nat} {f0 : List Int} {f1 : Int} {f2 : Int} (h : IsS81 w0 W g f0 f1 f2) (o : Obj) : IsS81 w0 (W.alloc o) g f0 f1 f2 := h.below (below_alloc (Below.refl _ _) o)
theorem IsS81.drewN {w0 W : World} {g : Nat} {f0 : List Int} {f1 : Int} {f2 : Int} (h : IsS81 w0 W g f0 f1 f2) (m : Nat) : IsS81 w0 (W.drewN m) g f0 f1 f2 := h
theorem IsS81.drew {w0 W : World} {g : Nat} {f0 : List Int} {f1 : Int} {f2 : Int} (h : IsS81 w0 W g f0 f1 f2) : IsS81 w0 W.drew g f0 f1 f2 := h
theorem IsS81.at_ {w0 W : World} {g : Nat} {f0 : List Int} {f1 : Int} {f2 : Int} {w' : World} {m : Nat} (hq : W.drewN m = w') (h : IsS81 w0 W g f0 f1 f2) : IsS81 w0 w' g f0 f1 f2 := by subst hq; exact IsS81.drewN h m
theorem IsS81.apart {w0 W : World} {g : Nat} {f0 : List Int} {f1 : Int} {f2 : Int} {α : Type} {d : Kd α} {e : Nat} {base : Nat} {ok : Nat → Prop} {v : Value} {xs : List α} (h : IsS81 w0 W g f0 f1 f2) (ho : d.R e W base ok v xs) (ht : ∀ q, q ∈ e :: d.E → q ≠ 81) : d.R e W base (fun k => ok k ∧ k ≠ g) v xs := by
  obtain ⟨A0, c0, hb, hg, hr0⟩ := h
  exact Kd.R_types ho hb ht
theorem IsS81.own_ne {w0 W : World} {g : Nat} {f0 : List Int} {f1 : Int} {f2 : Int} {α : Type} {d : Kd α} {e : Nat} {base : Nat} {ok : Nat → Prop} {v : Value} {xs : List α} (h : IsS81 w0 W g f0 f1 f2) (ho : d.R e W base ok v xs) (ht : e ≠ 81) : some g ≠ v.ownBlock := by
  obtain ⟨A0, c0, hb, hg, hr0⟩ := h
  exact Kd.R_ne ho hb ht
theorem IsS81.apartQ {w0 W : World} {g : Nat} {f0 : List Int} {f1 : Int} {f2 : Int} {α : Type} {d : Kd α} {e : Nat} {base : Nat} {ok : Nat → Prop} {v : Value} {xs : List α} (h : IsS81 w0 W g f0 f1 f2) (ho : d.Q e W base ok v xs) (ht : ∀ q, q ∈ e :: d.E → q ≠ 81) : d.Q e W base (fun k => ok k ∧ k ≠ g) v xs := by
  obtain ⟨A0, c0, hb, hg, hr0⟩ := h
  exact Kd.Q_types ho hb ht
theorem IsS81.own_neQ {w0 W : World} {g : Nat} {f0 : List Int} {f1 : Int} {f2 : Int} {α : Type} {d : Kd α} {e : Nat} {base : Nat} {ok : Nat → Prop} {v : Value} {xs : List α} (h : IsS81 w0 W g f0 f1 f2) (ho : d.Q e W base ok v xs) (ht : e ≠ 81) : some g ≠ v.ownBlock := by
  obtain ⟨A0, c0, hb, hg, hr0⟩ := h
  exact Kd.Q_ne ho hb ht
theorem IsS81.apartS {w0 W : World} {g : Nat} {f0 : List Int} {f1 : Int} {f2 : Int} {α : Type} {d : Kd α} {e : Nat} {base : Nat} {ok : Nat → Prop} {v : Value} {xs : List α} (h : IsS81 w0 W g f0 f1 f2) (ho : d.S e W base ok v xs) (ht : ∀ q, q ∈ e :: d.E → q ≠ 81) : d.S e W base (fun k => ok k ∧ k ≠ g) v xs := by
  obtain ⟨A0, c0, hb, hg, hr0⟩ := h
  exact Kd.S_types ho hb ht
theorem IsS81.own_neS {w0 W : World} {g : Nat} {f0 : List Int} {f1 : Int} {f2 : Int} {α : Type} {d : Kd α} {e : Nat} {base : Nat} {ok : Nat → Prop} {v : Value} {xs : List α} (h : IsS81 w0 W g f0 f1 f2) (ho : d.S e W base ok v xs) (ht : e ≠ 81) : some g ≠ v.ownBlock := by
  obtain ⟨A0, c0, hb, hg, hr0⟩ := h
  exact Kd.S_ne ho hb ht
theorem IsS81.lt {w0 W : World} {g : Nat} {f0 : List Int} {f1 : Int} {f2 : Int} (h : IsS81 w0 W g f0 f1 f2) : g < W.heap.size := by
  obtain ⟨A0, c0, hb, hg, hr0⟩ := h
  exact blk_lt hb
theorem IsS81.ge {w0 W : World} {g : Nat} {f0 : List Int} {f1 : Int} {f2 : Int} (h : IsS81 w0 W g f0 f1 f2) : w0.heap.size ≤ g := by
  obtain ⟨A0, c0, hb, hg, hr0⟩ := h
  exact hg
theorem IsS81.ne_blk {w0 W : World} {g : Nat} {f0 : List Int} {f1 : Int} {f2 : Int} {a : Nat} {cs : Array Value} {t : TypeId} {fr : Nat × Nat} (h : IsS81 w0 W g f0 f1 f2) (hb2 : W.heap[a]? = some (.cells cs t fr)) (ht : t ≠ 81) : g ≠ a := by
  obtain ⟨A0, c0, hb, hg, hr0⟩ := h
  rintro rfl
  rw [hb] at hb2
  injection hb2 with hb2
  injection hb2 with _ ht2
  exact ht ht2.symm
theorem IsS81.far {w0 W : World} {g : Nat} {f0 : List Int} {f1 : Int} {f2 : Int} {p : Addr} (h : IsS81 w0 W g f0 f1 f2) (hne : g ≠ p.block) (u : Value) : IsS81 w0 (W.setCell p u) g f0 f1 f2 := by
  obtain ⟨A0, c0, hb, hg, hr0⟩ := h
  exact ⟨A0, c0, blk_far hb hne u, hg, hr0⟩
theorem cellS81_0 {W : World} {g : Nat} {A0 : Option Addr} {c0 : Nat} {f0 : List Int} {f1 : Int} {f2 : Int} (h : W.heap[g]? = some (.cells #[.slice A0 f0.length c0, .int .i64 f1, .int .i64 f2] 81 (0, 0))) : W.cell? ⟨g, 0, none⟩ = some (.slice A0 f0.length c0) := (blk_cell h 0).trans rfl
theorem cellS81_1 {W : World} {g : Nat} {A0 : Option Addr} {c0 : Nat} {f0 : List Int} {f1 : Int} {f2 : Int} (h : W.heap[g]? = some (.cells #[.slice A0 f0.length c0, .int .i64 f1, .int .i64 f2] 81 (0, 0))) : W.cell? ⟨g, 1, none⟩ = some (.int .i64 f1) := (blk_cell h 1).trans rfl
theorem IsS81.set_1 {w0 W : World} {g : Nat} {f0 : List Int} {f1 : Int} {f2 : Int} (h : IsS81 w0 W g f0 f1 f2) (x : Int) : IsS81 w0 (W.setCell ⟨g, 1, none⟩ (.int .i64 x)) g f0 x f2 := by
  obtain ⟨A0, c0, hb, hg, hr0⟩ := h
  exact ⟨A0, c0, by simpa using blk_set hb 1 (.int .i64 x), hg, hr0⟩
theorem cellS81_2 {W : World} {g : Nat} {A0 : Option Addr} {c0 : Nat} {f0 : List Int} {f1 : Int} {f2 : Int} (h : W.heap[g]? = some (.cells #[.slice A0 f0.length c0, .int .i64 f1, .int .i64 f2] 81 (0, 0))) : W.cell? ⟨g, 2, none⟩ = some (.int .i64 f2) := (blk_cell h 2).trans rfl
theorem IsS81.set_2 {w0 W : World} {g : Nat} {f0 : List Int} {f1 : Int} {f2 : Int} (h : IsS81 w0 W g f0 f1 f2) (x : Int) : IsS81 w0 (W.setCell ⟨g, 2, none⟩ (.int .i64 x)) g f0 f1 x := by
  obtain ⟨A0, c0, hb, hg, hr0⟩ := h
  exact ⟨A0, c0, by simpa using blk_set hb 2 (.int .i64 x), hg, hr0⟩
theorem IsS81.new (w0 W : World) (A0 : Option Addr) (c0 : Nat) (f0 : List Int) (f1 : Int) (f2 : Int) (hB : Below w0.heap.size w0 W) (hr0 : Kd.C (Kd.int .u8) w0 A0 f0.length f0) : IsS81 w0 (W.alloc (.cells #[.slice A0 f0.length c0, .int .i64 f1, .int .i64 f2] 81)) W.heap.size f0 f1 f2 := ⟨A0, c0, by simpa using heap_alloc_new W _, hB.size, hr0⟩

/-! ### bytes_NewReader: function 27 -/
def bytes_NewReader.f (l0 : List Int) : Option (List Int × Int × Int) := some (l0, 0, (-1))
set_option maxHeartbeats 8000000 in
set_option maxRecDepth 100000 in
theorem bytes_NewReader.calls (A0 : Option Addr) (c0 : Nat) (l0 : List Int) (r1 : List Int) (r2 : Int) (r3 : Int) (w0 w : World) (hB : Below w0.heap.size w0 w) (hr0 : Kd.C (Kd.int .u8) w0 A0 l0.length l0) (hc0 : l0.length ≤ c0) (h : bytes_NewReader.f l0 = some (r1, r2, r3)) :
    Calls Tryd.prog 27 #[.slice A0 l0.length c0] w fun e w' => ∃ g_ : Nat, e = .returned (.pointer (some ⟨g_, 0, none⟩)) ∧ IsS81 w0 w' g_ r1 r2 r3 ∧ Below w0.heap.size w0 w' ∧ Below w.heap.size w w' := by
  have hu81 := Tryd.underlying81
  have HR0 := Aside0.mk hr0
  have HC0 := Aside0.mk hc0
  clear hr0 hc0
  have HBW := Aside0.mk (Below.refl w.heap.size w)
  have HW0 := Aside0.mk hB.size
  have HB := Aside0.mk hB
  clear hB
  have H : (some (l0, 0, (-1))) = some (r1, r2, r3) := h
  clear h
  simp only [Option.some.injEq, Prod.mk.injEq] at H
  obtain ⟨rfl, rfl, rfl⟩ := H
  go_enter Tryd.func27, Tryd.ntmps27
  go_wp2_with (first | ((with_reducible refine gate_dst (N := 5) rfl ?_); refine box_event ?hg (N := 5) ?hd (cs := #[.slice A0 l0.length c0, .int .i64 0, .int .i64 (-1)]) (t := 81) ?hr ?_; (case hd => rfl); (case hg => rfl); (case hr => first | (go_simp; done) | (go_simp; rfl)); intro gb126 hg w2 hbox hb; have n0_ := Aside0.mk (below_step HBW.out hb); have n1_ := Aside0.mk (below_step (by repeat (first | (with_reducible first | exact HB.out | apply below_alloc | apply pw_below_drewN | apply below_drew1) | exact HB.out)) hb); have n2_ := Aside0.mk (hbox); have n3_ := Aside0.mk ((by rw [hg]; exact (below_size (by repeat (first | (with_reducible first | exact HBW.out | apply below_alloc | apply pw_below_drewN | apply below_drew1) | exact HBW.out))) : w.heap.size ≤ gb126)); have n4_ := Aside0.mk ((Nat.le_trans HW0.out (by rw [hg]; exact (below_size (by repeat (first | (with_reducible first | exact HBW.out | apply below_alloc | apply pw_below_drewN | apply below_drew1) | exact HBW.out))) : w.heap.size ≤ gb126) : w0.heap.size ≤ gb126)); clear HBW; clear HB; have HBW := n0_; have HB := n1_; have BK126 := n2_; have GW126 := n3_; have GE126 := n4_; clear n0_ n1_ n2_ n3_ n4_; clear hb hbox hg))
  go_ret
  exact ⟨_, rfl, (show IsS81 w0 _ gb126 l0 0 (-1) from ⟨_, _, by (with_reducible repeat (first | refine blk_drewN ?_ _ | refine blk_drew ?_ | refine blk_alloc ?_ _)); exact BK126.out, GE126.out, HR0.out⟩), by repeat (first | (with_reducible first | exact HB.out | apply below_alloc | apply pw_below_drewN | apply below_drew1 | refine below_set ?_ GE126.out) | exact HB.out), by repeat (first | (with_reducible first | exact HBW.out | apply below_alloc | apply pw_below_drewN | apply below_drew1 | refine below_set ?_ GW126.out) | exact HBW.out)⟩

-- NOT PRINTED: function 53 (io_ReadAtLeast)

-- NOT PRINTED: function 38 (io_ReadFull)

-- NOT PRINTED: function 64 (pktline_asciiHexToByte)

-- NOT PRINTED: function 52 (pktline_hexDecode)

-- NOT PRINTED: function 37 (pktline_Scanner_readPayloadLen)

/-! ### bytes_Equal: function 54 -/
def bytes_Equal.f (l0 : List Int) (l1 : List Int) : Option (Bool) := some ((strOfNums l0).toList == (strOfNums l1).toList)
set_option maxHeartbeats 8000000 in
set_option maxRecDepth 100000 in
theorem bytes_Equal.calls (A0 : Option Addr) (c0 : Nat) (l0 : List Int) (A1 : Option Addr) (c1 : Nat) (l1 : List Int) (r : Bool) (w : World) (hr0 : Kd.C (Kd.int .u8) w A0 l0.length l0) (hc0 : l0.length ≤ c0) (hr1 : Kd.C (Kd.int .u8) w A1 l1.length l1) (hc1 : l1.length ≤ c1) (h : bytes_Equal.f l0 l1 = some r) :
    Calls Tryd.prog 54 #[.slice A0 l0.length c0, .slice A1 l1.length c1] w fun e w' => e = .returned (.bool r) ∧ Drawn0 w w' := by
  have HR0 := Aside0.mk hr0
  have HC0 := Aside0.mk hc0
  clear hr0 hc0
  have HR1 := Aside0.mk hr1
  have HC1 := Aside0.mk hc1
  clear hr1 hc1
  have H : (some ((strOfNums l0).toList == (strOfNums l1).toList)) = some r := h
  clear h
  obtain rfl := Option.some.inj H
  have hcv3 := Kd.C_string (P := Tryd.prog) (A := A0) (c := c0) Tryd.underlying35 Tryd.underlying5 Tryd.underlying9 HR0.out
  have hcv4 := Kd.C_string (P := Tryd.prog) (A := A1) (c := c1) Tryd.underlying35 Tryd.underlying5 Tryd.underlying9 HR1.out
  go_enter Tryd.func54, Tryd.ntmps54
  go_wp2
  go_ret
  exact ⟨by first | rfl | (simp; done) | (simp [*]; done), by repeat (first | exact Drawn0.refl _ | apply Drawn0.step)⟩

/-! ### bytes_HasPrefix: function 39 -/
def bytes_HasPrefix.f (l0 : List Int) (l1 : List Int) : Option (Bool) := if (l0.length : Int) ≥ (l1.length : Int) then (if 0 ≤ (l1.length : Int) then (if (l1.length : Int) ≤ (l0.length : Int) then ((bytes_Equal.f (l0.take ((l1.length : Int) : Int).toNat) l1).bind fun t128 => (some t128)) else (none)) else (none)) else (some false)
set_option maxHeartbeats 8000000 in
set_option maxRecDepth 100000 in
theorem bytes_HasPrefix.calls (A0 : Option Addr) (c0 : Nat) (l0 : List Int) (A1 : Option Addr) (c1 : Nat) (l1 : List Int) (r : Bool) (w : World) (hr0 : Kd.C (Kd.int .u8) w A0 l0.length l0) (hc0 : l0.length ≤ c0) (hr1 : Kd.C (Kd.int .u8) w A1 l1.length l1) (hc1 : l1.length ≤ c1) (h : bytes_HasPrefix.f l0 l1 = some r) :
    Calls Tryd.prog 39 #[.slice A0 l0.length c0, .slice A1 l1.length c1] w fun e w' => e = .returned (.bool r) ∧ Drawn0 w w' := by
  have HR0 := Aside0.mk hr0
  have HC0 := Aside0.mk hc0
  clear hr0 hc0
  have HR1 := Aside0.mk hr1
  have HC1 := Aside0.mk hc1
  clear hr1 hc1
  have H : (if (l0.length : Int) ≥ (l1.length : Int) then (if 0 ≤ (l1.length : Int) then (if (l1.length : Int) ≤ (l0.length : Int) then ((bytes_Equal.f (l0.take ((l1.length : Int) : Int).toNat) l1).bind fun t128 => (some t128)) else (none)) else (none)) else (some false)) = some r := h
  clear h
  by_cases c3 : (l0.length : Int) ≥ (l1.length : Int)
  · rw [if_pos c3] at H
    have c3b0 : decide ((l1.length : Int) ≤ (l0.length : Int)) = true := decide_eq_true c3
    have c3b1 : decide (l1.length ≤ l0.length) = true := decide_eq_true (Int.ofNat_le.mp c3)
    clear c3
    by_cases c4 : 0 ≤ (l1.length : Int)
    · rw [if_pos c4] at H
      have c4b0 := eq_true c4
      have c4b1 : decide (0 ≤ (l1.length : Int)) = true := decide_eq_true c4
      clear c4
      by_cases c5 : (l1.length : Int) ≤ (l0.length : Int)
      · rw [if_pos c5] at H
        have c5b0 := eq_true c5
        have c5b1 : decide ((l1.length : Int) ≤ (l0.length : Int)) = true := decide_eq_true c5
        clear c5
        replace H := Option.bind_eq_some_iff.mp H
        obtain ⟨t128, A60, H⟩ := H
        replace H : (some t128) = some r := H
        have A6 := Aside0.mk A60
        clear A60
        obtain rfl := Option.some.inj H
        obtain ⟨i07, hi07, _, hsz7, _⟩ := info_parts info5
        obtain ⟨hcut7, hA7, hC7⟩ := print_take_of (P := Tryd.prog) (Value.int .u8) 0 35 5 .i64 Tryd.underlying35 hi07 hsz7 A0 c0 l0 (l1.length : Int) (of_decide_eq_true (by first | (with_reducible assumption) | assumption)) (of_decide_eq_true (by first | (with_reducible assumption) | assumption)) HC0.out
        have HR127 := Aside0.mk (Kd.C_of_reads (h1 := fun _ => rfl) (hA7 _ (Kd.reads_of_C HR0.out)))
        have HC127 := Aside0.mk hC7
        clear hA7 hC7 hi07 hsz7
        generalize hq_ : l0.take ((l1.length : Int) : Int).toNat = q_ at hcut7 HR127 HC127 A6
        clear hq_
        go_enter Tryd.func39, Tryd.ntmps39
        go_wp2_with (first | (go_at_call 54; (with_reducible refine (bytes_Equal.calls _ _ q_ _ _ l1 t128 _ ?side1 ?side2 ?side3 ?side4 A6.out).mono ?_); (case side1 => repeat (first | exact HR127.out | (with_reducible refine Kd.C_alloc ?_ _) | (with_reducible refine Kd.C_drewN ?_ _) | (with_reducible refine Kd.C_drew ?_))); (case side2 => exact HC127.out); (case side3 => repeat (first | exact HR1.out | (with_reducible refine Kd.C_alloc ?_ _) | (with_reducible refine Kd.C_drewN ?_ _) | (with_reducible refine Kd.C_drew ?_))); (case side4 => exact HC1.out); rintro e w' ⟨rfl, ⟨nd, rfl⟩⟩))
        go_ret
        exact ⟨by first | rfl | (simp; done) | (simp [*]; done), by repeat (first | exact Drawn0.refl _ | apply Drawn0.step)⟩
      · rw [if_neg c5] at H
        exact absurd H (by simp)
    · rw [if_neg c4] at H
      exact absurd H (by simp)
  · rw [if_neg c3] at H
    have c3b0 : decide ((l1.length : Int) ≤ (l0.length : Int)) = false := decide_eq_false c3
    have c3b1 : decide (l1.length ≤ l0.length) = false := decide_eq_false (fun h => c3 (Int.ofNat_le.mpr h))
    clear c3
    obtain rfl := Option.some.inj H
    go_enter Tryd.func39, Tryd.ntmps39
    go_wp2
    go_ret
    exact ⟨by first | rfl | (simp; done) | (simp [*]; done), by repeat (first | exact Drawn0.refl _ | apply Drawn0.step)⟩

-- NOT PRINTED: function 73 (unicode_is16)

-- NOT PRINTED: function 74 (unicode_is32)

-- NOT PRINTED: function 63 (unicode_isExcludingLatin)

-- NOT PRINTED: function 51 (unicode_IsSpace)

-- NOT PRINTED: function 77 (utf8_decodeRuneInStringSlow)

-- NOT PRINTED: function 67 (utf8_DecodeRuneInString)

/-! ### utf8_RuneStart: function 80 -/
def utf8_RuneStart.f (a0 : Int) : Option (Bool) := some ((Go.bits .and .u8 a0 192) != 128)
set_option maxHeartbeats 8000000 in
set_option maxRecDepth 100000 in
theorem utf8_RuneStart.calls (a0 : Int) (r : Bool) (w : World) (h : utf8_RuneStart.f a0 = some r) :
    Calls Tryd.prog 80 #[.int .u8 a0] w fun e w' => e = .returned (.bool r) ∧ Drawn0 w w' := by
  have H : (some ((Go.bits .and .u8 a0 192) != 128)) = some r := h
  clear h
  obtain rfl := Option.some.inj H
  go_enter Tryd.func80, Tryd.ntmps80
  go_wp2
  go_ret
  exact ⟨by first | rfl | (simp; done) | (simp [*]; done), by repeat (first | exact Drawn0.refl _ | apply Drawn0.step)⟩

-- NOT PRINTED: function 76 (utf8_DecodeLastRuneInString)

-- NOT PRINTED: function 66 (strings_lastIndexFunc)

-- NOT PRINTED: function 56 (strings_TrimRightFunc)

-- NOT PRINTED: function 75 (strings_indexFunc)

-- NOT PRINTED: function 65 (strings_TrimLeftFunc)

-- NOT PRINTED: function 55 (strings_TrimFunc)

-- NOT PRINTED: function 41 (strings_TrimSpace)

-- NOT PRINTED: function 28 (pktline_Scanner_Scan)

-- NOT PRINTED: function 29 (pktline_Scanner_Bytes)

-- NOT PRINTED: function 30 (pktline_Scanner_Err)

-- NOT PRINTED: function 15 (impl_ReadLines)

-- NOT PRINTED: function 7 (laws_pktWorks)

-- NOT PRINTED: function 21 (capability_NewList)

-- NOT PRINTED: function 45 (capability_known)

-- NOT PRINTED: function 46 (capability_multipleArgument)

-- NOT PRINTED: function 57 (capability_List_validateNoEmptyArgs)

-- NOT PRINTED: function 58 (capability_requiresArgument)

-- NOT PRINTED: function 42 (capability_List_validate)

-- NOT PRINTED: function 43 (capability_List_Supports)

/-! ### capability_Capability_String: function 44 -/
def capability_Capability_String.f (a0 : ByteArray) : Option (ByteArray) := some a0
set_option maxHeartbeats 8000000 in
set_option maxRecDepth 100000 in
theorem capability_Capability_String.calls (a0 : ByteArray) (r : ByteArray) (w : World) (h : capability_Capability_String.f a0 = some r) :
    Calls Tryd.prog 44 #[.string a0] w fun e w' => e = .returned (.string r) ∧ Drawn0 w w' := by
  have H : (some a0) = some r := h
  clear h
  obtain rfl := Option.some.inj H
  go_enter Tryd.func44, Tryd.ntmps44
  go_wp2
  go_ret
  exact ⟨by first | rfl | (simp; done) | (simp [*]; done), by repeat (first | exact Drawn0.refl _ | apply Drawn0.step)⟩

-- NOT PRINTED: function 31 (capability_List_Add)

-- NOT PRINTED: function 16 (impl_capList)

-- NOT PRINTED: function 68 (abi_NoEscape)

-- NOT PRINTED: function 59 (strings_Builder_copyCheck)

-- NOT PRINTED: function 69 (bytealg_MakeNoZero)

-- NOT PRINTED: function 60 (strings_Builder_grow)

-- NOT PRINTED: function 47 (strings_Builder_Grow)

-- NOT PRINTED: function 48 (strings_Builder_WriteString)

-- NOT PRINTED: function 49 (strings_Builder_String)

-- NOT PRINTED: function 32 (strings_Join)

-- NOT PRINTED: function 17 (capability_List_String)

-- NOT PRINTED: function 8 (impl_CapsText)

-- NOT PRINTED: function 9 (spec_CapsText)

-- NOT PRINTED: function 3 (laws_FnCapsWritten)

end Go.Proofs.YtdobblddnfalcaaDoor.PFnCapsWritten
