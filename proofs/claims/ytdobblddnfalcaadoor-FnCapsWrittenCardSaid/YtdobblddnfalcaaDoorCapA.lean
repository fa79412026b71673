/- Capabilities: what is known of a name; what is asked of values; whether a list has a name. -/
import Derived.Test.YtdobblddnfalcaaDoorCapJ
import Derived.Test.YtdobblddnfalcaaDoorSlw
import Derived.Test.YtdobblddnfalcaaDoorPFnCapsWrittenx2
import Derived.Test.YtdobblddnfalcaaDoorMFnCapsWrittenx3
import Derived.Deep.DeepMust
namespace Go.Proofs.YtdobblddnfalcaaDoor.cap
open Go.RowKit Go.Proofs.YtdobblddnfalcaaDoorW.PrintWords Go.Proofs.YtdobblddnfalcaaDoorW.PrintLast Go.Proofs.YtdobblddnfalcaaDoorW.PrintMore Go.Proofs.YtdobblddnfalcaaDoor.off Go.Proofs.YtdobblddnfalcaaDoor.mapq Go.Proofs.YtdobblddnfalcaaDoor.PFnCapsWritten
set_option linter.unusedVariables false
set_option linter.unusedSimpArgs false
set_option maxHeartbeats 2000000
set_option maxRecDepth 100000
theorem gate_ins {P : Program} {ops : Array Oper} {Q : Exit → Act → World → Prop} {o : Oper} {rest : List Oper} {a : Act} {w : World} {t : TypeId} {m x v : Operand} (h : o.op = Op.insert t m x v) (k : wpList P ops Q (o :: rest) a w) : wpList P ops Q (o :: rest) a w := k
/-- A store into a map of truths that is being laid. -/
theorem wpList_insert_B {P : Program} {w w0 : World} {ops : Array Oper} {rest : List Oper} {o : Oper} {a : Act} {Q : Exit → Act → World → Prop} (hg : o.guard = none) (m x v : Operand) (T : TypeId) (hop : o.op = Op.insert T m x v) {gm n : Nat} {K E : TypeId} {L : List (List UInt8)} (s : ByteArray)
    (hm : a.eval m = .map (some gm)) (hx : a.eval x = .string s) (hv : a.eval v = .bool true) (hK : P.underlying K = some .string) (hE : P.underlying E = some .bool) (hT : P.underlying T = some (.map K E)) (hn : n < maxLen) (hs : s.size ≤ maxLen)
    (HM : Aside0 (MapB P K E w gm n L ∧ Below gm w0 w)) (h : ∀ w', Aside0 (MapB P K E w' gm (n + 1) (s.data.toList :: L) ∧ Below gm w0 w') → wpList P ops Q rest (a.put o.dst undef) w') : wpList P ops Q (o :: rest) a w := by
  obtain ⟨w', hr, h1, h2⟩ := HM.out.1.store hK hE hT hn s hs
  refine wpList_plain hg fun K' hK' => ?_
  unfold Oper.wp
  simp [execOp, hop, hm, hx, hv, hr, Result.andThen]
  have hb : Below gm w w' := ⟨h2.os, h2.tape, h2.output, h2.size, fun k hk => h2.block k (by obtain ⟨D, ho, _⟩ := HM.out.1; have := ho.lt; omega) (by simp [In]; omega)⟩
  exact hK' _ _ (h w' ⟨h1, HM.out.2.trans hb⟩)
theorem wpList_lookup_B {P : Program} {w : World} {ops : Array Oper} {rest : List Oper} {o : Oper} {a : Act} {Q : Exit → Act → World → Prop} (hg : o.guard = none) (m x : Operand) (T : TypeId) (hop : o.op = Op.lookup T m x false) {gm n : Nat} {K E : TypeId} {L : List (List UInt8)} {s : ByteArray} {R : Prop}
    (hm : a.eval m = .map (some gm)) (hx : a.eval x = .string s) (hK : P.underlying K = some .string) (hE : P.underlying E = some .bool) (hT : P.underlying T = some (.map K E)) (hz : (zeroValue E).run P w = .ok (.bool false) w) (hs : s.size ≤ maxLen)
    (HM : Aside0 (MapB P K E w gm n L ∧ R)) {b : Bool} (hb : decide (s.data.toList ∈ L) = b) (h : wpList P ops Q rest (a.put o.dst (.bool b)) w) : wpList P ops Q (o :: rest) a w := by
  have hr := HM.out.1.look hK hE hT hz s hs
  rw [hb] at hr
  refine wpList_plain hg fun K' hK' => ?_
  unfold Oper.wp
  simp [execOp, hop, hm, hx, hr, Result.andThen]
  exact hK' _ _ h
theorem zeroBool (w : World) : (zeroValue 4).run Tryd.prog w = .ok (.bool false) w := by kernel_rfl
def knownL : List (List UInt8) := [[102, 105, 108, 116, 101, 114], [111, 98, 106, 101, 99, 116, 45, 102, 111, 114, 109, 97, 116], [115, 121, 109, 114, 101, 102], [112, 117, 115, 104, 45, 99, 101, 114, 116], [97, 108, 108, 111, 119, 45, 114, 101, 97, 99, 104, 97, 98, 108, 101, 45, 115, 104, 97, 49, 45, 105, 110, 45, 119, 97, 110, 116], [97, 108, 108, 111, 119, 45, 116, 105, 112, 45, 115, 104, 97, 49, 45, 105, 110, 45, 119, 97, 110, 116], [112, 117, 115, 104, 45, 111, 112, 116, 105, 111, 110, 115], [97, 116, 111, 109, 105, 99], [113, 117, 105, 101, 116], [100, 101, 108, 101, 116, 101, 45, 114, 101, 102, 115], [114, 101, 112, 111, 114, 116, 45, 115, 116, 97, 116, 117, 115], [105, 110, 99, 108, 117, 100, 101, 45, 116, 97, 103], [110, 111, 45, 112, 114, 111, 103, 114, 101, 115, 115], [100, 101, 101, 112, 101, 110, 45, 114, 101, 108, 97, 116, 105, 118, 101], [100, 101, 101, 112, 101, 110, 45, 110, 111, 116], [100, 101, 101, 112, 101, 110, 45, 115, 105, 110, 99, 101], [115, 104, 97, 108, 108, 111, 119], [97, 103, 101, 110, 116], [111, 102, 115, 45, 100, 101, 108, 116, 97], [115, 105, 100, 101, 45, 98, 97, 110, 100, 45, 54, 52, 107], [115, 105, 100, 101, 45, 98, 97, 110, 100], [116, 104, 105, 110, 45, 112, 97, 99, 107], [110, 111, 45, 100, 111, 110, 101], [109, 117, 108, 116, 105, 95, 97, 99, 107, 95, 100, 101, 116, 97, 105, 108, 101, 100], [109, 117, 108, 116, 105, 95, 97, 99, 107]]
def requiresL : List (List UInt8) := [[111, 98, 106, 101, 99, 116, 45, 102, 111, 114, 109, 97, 116], [115, 121, 109, 114, 101, 102], [112, 117, 115, 104, 45, 99, 101, 114, 116], [97, 103, 101, 110, 116]]
def multipleL : List (List UInt8) := [[115, 121, 109, 114, 101, 102]]
theorem known_any (w : World) (s : ByteArray) (hs : s.size ≤ maxLen) (b : Bool) (hb : decide (s.data.toList ∈ knownL) = b) : Calls Tryd.prog 45 #[.string s] w fun e w' => e = .returned (.bool b) ∧ Below w.heap.size w w' := by
  have hmm := @run_makeMap Tryd.prog
  have HM := Aside0.mk (show MapB Tryd.prog 50 4 (w.alloc (.map #[] 0)) w.heap.size 0 [] ∧ Below w.heap.size w (w.alloc (.map #[] 0)) from ⟨MapB.new _ _ _ w, below_alloc (Below.refl _ _) _⟩)
  have HS := Aside0.mk hs
  have HBB := Aside0.mk hb
  clear hs hb
  go_enter Tryd.func45, Tryd.ntmps45
  go_wp2_with (first | ((with_reducible refine gate_ins rfl ?_); refine wpList_insert_B rfl _ _ _ _ rfl _ rfl rfl rfl Tryd.underlying50 Tryd.underlying4 Tryd.underlying104 (by decide) (by decide) HM ?_; clear HM; intro w1 HM) | ((with_reducible refine gate_dst (N := 6) rfl ?_); refine wpList_lookup_B rfl _ _ _ rfl rfl rfl Tryd.underlying50 Tryd.underlying4 Tryd.underlying104 (zeroBool _) HS.out HM HBB.out ?_) | fail)
  go_ret
  exact ⟨rfl, HM.out.2⟩
theorem requires_any (w : World) (s : ByteArray) (hs : s.size ≤ maxLen) (b : Bool) (hb : decide (s.data.toList ∈ requiresL) = b) : Calls Tryd.prog 58 #[.string s] w fun e w' => e = .returned (.bool b) ∧ Below w.heap.size w w' := by
  have hmm := @run_makeMap Tryd.prog
  have HM := Aside0.mk (show MapB Tryd.prog 50 4 (w.alloc (.map #[] 0)) w.heap.size 0 [] ∧ Below w.heap.size w (w.alloc (.map #[] 0)) from ⟨MapB.new _ _ _ w, below_alloc (Below.refl _ _) _⟩)
  have HS := Aside0.mk hs
  have HBB := Aside0.mk hb
  clear hs hb
  go_enter Tryd.func58, Tryd.ntmps58
  go_wp2_with (first | ((with_reducible refine gate_ins rfl ?_); refine wpList_insert_B rfl _ _ _ _ rfl _ rfl rfl rfl Tryd.underlying50 Tryd.underlying4 Tryd.underlying104 (by decide) (by decide) HM ?_; clear HM; intro w1 HM) | ((with_reducible refine gate_dst (N := 6) rfl ?_); refine wpList_lookup_B rfl _ _ _ rfl rfl rfl Tryd.underlying50 Tryd.underlying4 Tryd.underlying104 (zeroBool _) HS.out HM HBB.out ?_) | fail)
  go_ret
  exact ⟨rfl, HM.out.2⟩
theorem multiple_any (w : World) (s : ByteArray) (hs : s.size ≤ maxLen) (b : Bool) (hb : decide (s.data.toList ∈ multipleL) = b) : Calls Tryd.prog 46 #[.string s] w fun e w' => e = .returned (.bool b) ∧ Below w.heap.size w w' := by
  have hmm := @run_makeMap Tryd.prog
  have HM := Aside0.mk (show MapB Tryd.prog 50 4 (w.alloc (.map #[] 0)) w.heap.size 0 [] ∧ Below w.heap.size w (w.alloc (.map #[] 0)) from ⟨MapB.new _ _ _ w, below_alloc (Below.refl _ _) _⟩)
  have HS := Aside0.mk hs
  have HBB := Aside0.mk hb
  clear hs hb
  go_enter Tryd.func46, Tryd.ntmps46
  go_wp2_with (first | ((with_reducible refine gate_ins rfl ?_); refine wpList_insert_B rfl _ _ _ _ rfl _ rfl rfl rfl Tryd.underlying50 Tryd.underlying4 Tryd.underlying104 (by decide) (by decide) HM ?_; clear HM; intro w1 HM) | ((with_reducible refine gate_dst (N := 6) rfl ?_); refine wpList_lookup_B rfl _ _ _ rfl rfl rfl Tryd.underlying50 Tryd.underlying4 Tryd.underlying104 (zeroBool _) HS.out HM HBB.out ?_) | fail)
  go_ret
  exact ⟨rfl, HM.out.2⟩
theorem not_empty {h : ByteArray} (hh : h.size ≠ 0) : h.toList.isEmpty = false ∧ (h.toList == []) = false ∧ h.toList ≠ [] := by
  have hne : h.toList ≠ [] := fun e => hh (by
    rw [ByteArray.toList_eq] at e
    have : h.size = h.data.toList.length := rfl
    rw [this, e]; rfl)
  exact ⟨List.isEmpty_eq_false_iff.2 hne, beq_eq_false_iff_ne.2 hne, hne⟩
def strs (l : List ByteArray) : List Value := l.map Value.string
theorem strs_len (l : List ByteArray) : (strs l).length = l.length := List.length_map ..
theorem strs_get (l : List ByteArray) (j : Nat) (h : j < l.length) : (strs l)[j]? = some (.string l[j]) := by simp [strs, h]
theorem noEmpty_any (w : World) (p : Value) (A : Option Addr) (c : Nat) (vs : List ByteArray) (hsrc : Src w A vs.length (strs vs)) (hv : ∀ s ∈ vs, s.size ≠ 0) (hl : vs.length ≤ 1000000000) :
    Calls Tryd.prog 57 #[p, .slice A vs.length c] w fun e w' => e = .returned .nilIface ∧ ∃ q, w' = w.drewN q := by
  have HSRC := Aside0.mk hsrc
  have HV := Aside0.mk hv
  clear hsrc hv
  go_enter Tryd.func57, Tryd.ntmps57
  go_wp2_with fail
  go_loopg [9] (vs.length + 1) (fun kq v9 w' => ∃ j : Nat, v9 = .int .i64 (j : Int) ∧ j ≤ vs.length ∧ Aside0 (kq + j = vs.length + 1) ∧ w = w')
  case atStart => exact ⟨0, rfl, Nat.zero_le _, ⟨by omega⟩, rfl⟩
  case round =>
    obtain ⟨j, rfl, hj, HK, rfl⟩ := hrel
    cases gk with
    | zero => exact absurd HK.out (by omega)
    | succ k1 =>
      by_cases hlt : j < vs.length
      · have p1 : 0 ≤ (j : Int) := by omega
        have q1 : (j : Int) < (vs.length : Int) := by omega
        have c0 : decide ((j : Int) < (vs.length : Int)) = true := decide_eq_true q1
        have c1 : decide (j < vs.length) = true := decide_eq_true hlt
        have w1 : wrap64 ((j : Int) + 1) = (j : Int) + 1 := off.w64 (by omega) (by omega)
        obtain ⟨ad, rfl, hc⟩ := HSRC.out.rd j _ (strs_get vs j hlt)
        have hne := HV.out _ (List.getElem_mem hlt)
        generalize vs[j] = s at hc hne
        obtain ⟨e0, e1, _⟩ := not_empty hne
        have e2 : (s.toList != []) = true := by rw [bne, e1]; rfl
        clear hne
        go_wp2_with fail
        go_roundg k1
        case measure => have := HK.out; omega
        case rel => exact ⟨j + 1, by go_num, hlt, ⟨by have := HK.out; omega⟩, rfl⟩
      · have c0 : decide ((j : Int) < (vs.length : Int)) = false := decide_eq_false (by omega)
        have c1 : decide (j < vs.length) = false := decide_eq_false hlt
        go_wp2_with fail
        go_ret
        exact ⟨rfl, 0, rfl⟩
end Go.Proofs.YtdobblddnfalcaaDoor.cap
