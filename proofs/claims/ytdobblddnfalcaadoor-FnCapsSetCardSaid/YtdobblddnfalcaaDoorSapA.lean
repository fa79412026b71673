/- Capabilities: what is known of a name; what is asked of values; whether a list has a name. Capabilities: a list of them in memory; what is stored into it. Capabilities: NewList, validate, Supports; Add of one that is new. -/
import Derived.Test.YtdobblddnfalcaaDoorCapJ
import Derived.Test.YtdobblddnfalcaaDoorSlw
import Derived.Test.YtdobblddnfalcaaDoorPFnCapsWrittenx2
import Derived.Test.YtdobblddnfalcaaDoorMFnCapsWrittenx3
import Derived.Deep.DeepMust
namespace Go.Proofs.YtdobblddnfalcaaDoor.cap
section
open Go.RowKit Go.Proofs.YtdobblddnfalcaaDoorW.PrintWords Go.Proofs.YtdobblddnfalcaaDoorW.PrintLast Go.Proofs.YtdobblddnfalcaaDoorW.PrintMore Go.Proofs.YtdobblddnfalcaaDoor.off Go.Proofs.YtdobblddnfalcaaDoor.mapq Go.Proofs.YtdobblddnfalcaaDoor.PFnCapsWritten
set_option linter.unusedVariables false
set_option linter.unusedSimpArgs false
set_option maxHeartbeats 2000000
set_option maxRecDepth 100000
theorem gate_ins {P : Program} {ops : Array Oper} {Q : Exit → Act → World → Prop} {o : Oper} {rest : List Oper} {a : Act} {w : World} {t : TypeId} {m x v : Operand} (h : o.op = Op.insert t m x v) (k : wpList P ops Q (o :: rest) a w) : wpList P ops Q (o :: rest) a w := k
/-- A store into a map of truths that is being laid. -/
theorem wpList_insert_B {P : Program} {w w0 : World} {ops : Array Oper} {rest : List Oper} {o : Oper} {a : Act} {Q : Exit → Act → World → Prop} (hg : o.guard = none) (m x v : Operand) (T : TypeId) (hop : o.op = Op.insert T m x v) {gm n : Nat} {K E : TypeId} {L : List (List UInt8)} (s : ByteArray)
    (hm : a.eval m = .map (some gm)) (hx : a.eval x = .string s) (hv : a.eval v = .bool true) (hK : P.underlying K = some .string) (hE : P.underlying E = some .bool) (hT : P.underlying T = some (.map K E)) (hn : n < maxLen) (hs : s.size ≤ maxLen)
    (HM : Aside0 (MapB P K E w gm n L ∧ Below gm w0 w)) (h : ∀ w', Aside0 (MapB P K E w' gm (n + 1) (s.data.toList :: L) ∧ Below gm w0 w') → wpList P ops Q rest (a.put o.dst undef) w') : wpList P ops Q (o :: rest) a w := by
  obtain ⟨w', hr, h1, h2⟩ := HM.out.1.store hK hE hT hn s hs
  refine wpList_plain hg fun K' hK' => ?_
  unfold Oper.wp
  simp [execOp, hop, hm, hx, hv, hr, Result.andThen]
  have hb : Below gm w w' := ⟨h2.os, h2.tape, h2.output, h2.size, fun k hk => h2.block k (by obtain ⟨D, ho, _⟩ := HM.out.1; have := ho.lt; omega) (by simp [In]; omega)⟩
  exact hK' _ _ (h w' ⟨h1, HM.out.2.trans hb⟩)
theorem wpList_lookup_B {P : Program} {w : World} {ops : Array Oper} {rest : List Oper} {o : Oper} {a : Act} {Q : Exit → Act → World → Prop} (hg : o.guard = none) (m x : Operand) (T : TypeId) (hop : o.op = Op.lookup T m x false) {gm n : Nat} {K E : TypeId} {L : List (List UInt8)} {s : ByteArray} {R : Prop}
    (hm : a.eval m = .map (some gm)) (hx : a.eval x = .string s) (hK : P.underlying K = some .string) (hE : P.underlying E = some .bool) (hT : P.underlying T = some (.map K E)) (hz : (zeroValue E).run P w = .ok (.bool false) w) (hs : s.size ≤ maxLen)
    (HM : Aside0 (MapB P K E w gm n L ∧ R)) {b : Bool} (hb : decide (s.data.toList ∈ L) = b) (h : wpList P ops Q rest (a.put o.dst (.bool b)) w) : wpList P ops Q (o :: rest) a w := by
  have hr := HM.out.1.look hK hE hT hz s hs
  rw [hb] at hr
  refine wpList_plain hg fun K' hK' => ?_
  unfold Oper.wp
  simp [execOp, hop, hm, hx, hr, Result.andThen]
  exact hK' _ _ h
theorem zeroBool (w : World) : (zeroValue 4).run Tryd.prog w = .ok (.bool false) w := by kernel_rfl
def knownL : List (List UInt8) := [[102, 105, 108, 116, 101, 114], [111, 98, 106, 101, 99, 116, 45, 102, 111, 114, 109, 97, 116], [115, 121, 109, 114, 101, 102], [112, 117, 115, 104, 45, 99, 101, 114, 116], [97, 108, 108, 111, 119, 45, 114, 101, 97, 99, 104, 97, 98, 108, 101, 45, 115, 104, 97, 49, 45, 105, 110, 45, 119, 97, 110, 116], [97, 108, 108, 111, 119, 45, 116, 105, 112, 45, 115, 104, 97, 49, 45, 105, 110, 45, 119, 97, 110, 116], [112, 117, 115, 104, 45, 111, 112, 116, 105, 111, 110, 115], [97, 116, 111, 109, 105, 99], [113, 117, 105, 101, 116], [100, 101, 108, 101, 116, 101, 45, 114, 101, 102, 115], [114, 101, 112, 111, 114, 116, 45, 115, 116, 97, 116, 117, 115], [105, 110, 99, 108, 117, 100, 101, 45, 116, 97, 103], [110, 111, 45, 112, 114, 111, 103, 114, 101, 115, 115], [100, 101, 101, 112, 101, 110, 45, 114, 101, 108, 97, 116, 105, 118, 101], [100, 101, 101, 112, 101, 110, 45, 110, 111, 116], [100, 101, 101, 112, 101, 110, 45, 115, 105, 110, 99, 101], [115, 104, 97, 108, 108, 111, 119], [97, 103, 101, 110, 116], [111, 102, 115, 45, 100, 101, 108, 116, 97], [115, 105, 100, 101, 45, 98, 97, 110, 100, 45, 54, 52, 107], [115, 105, 100, 101, 45, 98, 97, 110, 100], [116, 104, 105, 110, 45, 112, 97, 99, 107], [110, 111, 45, 100, 111, 110, 101], [109, 117, 108, 116, 105, 95, 97, 99, 107, 95, 100, 101, 116, 97, 105, 108, 101, 100], [109, 117, 108, 116, 105, 95, 97, 99, 107]]
def requiresL : List (List UInt8) := [[111, 98, 106, 101, 99, 116, 45, 102, 111, 114, 109, 97, 116], [115, 121, 109, 114, 101, 102], [112, 117, 115, 104, 45, 99, 101, 114, 116], [97, 103, 101, 110, 116]]
def multipleL : List (List UInt8) := [[115, 121, 109, 114, 101, 102]]
theorem known_any (w : World) (s : ByteArray) (hs : s.size ≤ maxLen) (b : Bool) (hb : decide (s.data.toList ∈ knownL) = b) : Calls Tryd.prog 45 #[.string s] w fun e w' => e = .returned (.bool b) ∧ Below w.heap.size w w' := by
  have hmm := @run_makeMap Tryd.prog
  have HM := Aside0.mk (show MapB Tryd.prog 50 4 (w.alloc (.map #[] 0)) w.heap.size 0 [] ∧ Below w.heap.size w (w.alloc (.map #[] 0)) from ⟨MapB.new _ _ _ w, below_alloc (Below.refl _ _) _⟩)
  have HS := Aside0.mk hs
  have HBB := Aside0.mk hb
  clear hs hb
  go_enter Tryd.func45, Tryd.ntmps45
  go_wp2_with (first | ((with_reducible refine gate_ins rfl ?_); refine wpList_insert_B rfl _ _ _ _ rfl _ rfl rfl rfl Tryd.underlying50 Tryd.underlying4 Tryd.underlying104 (by decide) (by decide) HM ?_; clear HM; intro w1 HM) | ((with_reducible refine gate_dst (N := 6) rfl ?_); refine wpList_lookup_B rfl _ _ _ rfl rfl rfl Tryd.underlying50 Tryd.underlying4 Tryd.underlying104 (zeroBool _) HS.out HM HBB.out ?_) | fail)
  go_ret
  exact ⟨rfl, HM.out.2⟩
theorem requires_any (w : World) (s : ByteArray) (hs : s.size ≤ maxLen) (b : Bool) (hb : decide (s.data.toList ∈ requiresL) = b) : Calls Tryd.prog 58 #[.string s] w fun e w' => e = .returned (.bool b) ∧ Below w.heap.size w w' := by
  have hmm := @run_makeMap Tryd.prog
  have HM := Aside0.mk (show MapB Tryd.prog 50 4 (w.alloc (.map #[] 0)) w.heap.size 0 [] ∧ Below w.heap.size w (w.alloc (.map #[] 0)) from ⟨MapB.new _ _ _ w, below_alloc (Below.refl _ _) _⟩)
  have HS := Aside0.mk hs
  have HBB := Aside0.mk hb
  clear hs hb
  go_enter Tryd.func58, Tryd.ntmps58
  go_wp2_with (first | ((with_reducible refine gate_ins rfl ?_); refine wpList_insert_B rfl _ _ _ _ rfl _ rfl rfl rfl Tryd.underlying50 Tryd.underlying4 Tryd.underlying104 (by decide) (by decide) HM ?_; clear HM; intro w1 HM) | ((with_reducible refine gate_dst (N := 6) rfl ?_); refine wpList_lookup_B rfl _ _ _ rfl rfl rfl Tryd.underlying50 Tryd.underlying4 Tryd.underlying104 (zeroBool _) HS.out HM HBB.out ?_) | fail)
  go_ret
  exact ⟨rfl, HM.out.2⟩
theorem multiple_any (w : World) (s : ByteArray) (hs : s.size ≤ maxLen) (b : Bool) (hb : decide (s.data.toList ∈ multipleL) = b) : Calls Tryd.prog 46 #[.string s] w fun e w' => e = .returned (.bool b) ∧ Below w.heap.size w w' := by
  have hmm := @run_makeMap Tryd.prog
  have HM := Aside0.mk (show MapB Tryd.prog 50 4 (w.alloc (.map #[] 0)) w.heap.size 0 [] ∧ Below w.heap.size w (w.alloc (.map #[] 0)) from ⟨MapB.new _ _ _ w, below_alloc (Below.refl _ _) _⟩)
  have HS := Aside0.mk hs
  have HBB := Aside0.mk hb
  clear hs hb
  go_enter Tryd.func46, Tryd.ntmps46
  go_wp2_with (first | ((with_reducible refine gate_ins rfl ?_); refine wpList_insert_B rfl _ _ _ _ rfl _ rfl rfl rfl Tryd.underlying50 Tryd.underlying4 Tryd.underlying104 (by decide) (by decide) HM ?_; clear HM; intro w1 HM) | ((with_reducible refine gate_dst (N := 6) rfl ?_); refine wpList_lookup_B rfl _ _ _ rfl rfl rfl Tryd.underlying50 Tryd.underlying4 Tryd.underlying104 (zeroBool _) HS.out HM HBB.out ?_) | fail)
  go_ret
  exact ⟨rfl, HM.out.2⟩
theorem not_empty {h : ByteArray} (hh : h.size ≠ 0) : h.toList.isEmpty = false ∧ (h.toList == []) = false ∧ h.toList ≠ [] := by
  have hne : h.toList ≠ [] := fun e => hh (by
    rw [ByteArray.toList_eq] at e
    have : h.size = h.data.toList.length := rfl
    rw [this, e]; rfl)
  exact ⟨List.isEmpty_eq_false_iff.2 hne, beq_eq_false_iff_ne.2 hne, hne⟩
def strs (l : List ByteArray) : List Value := l.map Value.string
theorem strs_len (l : List ByteArray) : (strs l).length = l.length := List.length_map ..
theorem strs_get (l : List ByteArray) (j : Nat) (h : j < l.length) : (strs l)[j]? = some (.string l[j]) := by simp [strs, h]
theorem noEmpty_any (w : World) (p : Value) (A : Option Addr) (c : Nat) (vs : List ByteArray) (hsrc : Src w A vs.length (strs vs)) (hv : ∀ s ∈ vs, s.size ≠ 0) (hl : vs.length ≤ 1000000000) :
    Calls Tryd.prog 57 #[p, .slice A vs.length c] w fun e w' => e = .returned .nilIface ∧ ∃ q, w' = w.drewN q := by
  have HSRC := Aside0.mk hsrc
  have HV := Aside0.mk hv
  clear hsrc hv
  go_enter Tryd.func57, Tryd.ntmps57
  go_wp2_with fail
  go_loopg [9] (vs.length + 1) (fun kq v9 w' => ∃ j : Nat, v9 = .int .i64 (j : Int) ∧ j ≤ vs.length ∧ Aside0 (kq + j = vs.length + 1) ∧ w = w')
  case atStart => exact ⟨0, rfl, Nat.zero_le _, ⟨by omega⟩, rfl⟩
  case round =>
    obtain ⟨j, rfl, hj, HK, rfl⟩ := hrel
    cases gk with
    | zero => exact absurd HK.out (by omega)
    | succ k1 =>
      by_cases hlt : j < vs.length
      · have p1 : 0 ≤ (j : Int) := by omega
        have q1 : (j : Int) < (vs.length : Int) := by omega
        have c0 : decide ((j : Int) < (vs.length : Int)) = true := decide_eq_true q1
        have c1 : decide (j < vs.length) = true := decide_eq_true hlt
        have w1 : wrap64 ((j : Int) + 1) = (j : Int) + 1 := off.w64 (by omega) (by omega)
        obtain ⟨ad, rfl, hc⟩ := HSRC.out.rd j _ (strs_get vs j hlt)
        have hne := HV.out _ (List.getElem_mem hlt)
        generalize vs[j] = s at hc hne
        obtain ⟨e0, e1, _⟩ := not_empty hne
        have e2 : (s.toList != []) = true := by rw [bne, e1]; rfl
        clear hne
        go_wp2_with fail
        go_roundg k1
        case measure => have := HK.out; omega
        case rel => exact ⟨j + 1, by go_num, hlt, ⟨by have := HK.out; omega⟩, rfl⟩
      · have c0 : decide ((j : Int) < (vs.length : Int)) = false := decide_eq_false (by omega)
        have c1 : decide (j < vs.length) = false := decide_eq_false hlt
        go_wp2_with fail
        go_ret
        exact ⟨rfl, 0, rfl⟩
end
section
open Go.RowKit Go.Proofs.YtdobblddnfalcaaDoorW.PrintWords Go.Proofs.YtdobblddnfalcaaDoorW.PrintLast Go.Proofs.YtdobblddnfalcaaDoorW.PrintMore Go.Proofs.YtdobblddnfalcaaDoor.off Go.Proofs.YtdobblddnfalcaaDoor.mapq Go.Proofs.YtdobblddnfalcaaDoor.PFnCapsWritten
set_option linter.unusedVariables false
set_option linter.unusedSimpArgs false
set_option maxHeartbeats 1000000
set_option maxRecDepth 100000
/-- One capability of a list, as it lies in memory. -/
structure Row where
  name : ByteArray
  ge : Nat
  v : Value
  vs : List ByteArray
def own (v : Value) : List Nat := v.ownBlock.toList
def blks (r : Row) : List Nat := r.ge :: own r.v
structure RowAt (w : World) (r : Row) : Prop where
  cells : w.heap[r.ge]? = some (.cells #[.string r.name, r.v] 67 (0, 0))
  slc : Slc w r.v (strs r.vs)
def find (rows : List Row) (s : ByteArray) : Option Nat := (rows.find? (fun r => r.name.data.toList == s.data.toList)).map (·.ge)
def bl (gl gm : Nat) (sv : Value) (rows : List Row) : List Nat := gl :: gm :: (own sv ++ rows.flatMap blks)
structure CapS (w : World) (gl gm : Nat) (sv : Value) (names : List ByteArray) (rows : List Row) : Prop where
  list : w.heap[gl]? = some (.cells #[.map (some gm), sv] 64 (0, 0))
  map : MapP Tryd.prog 50 w gm rows.length (find rows)
  sort : Slc w sv (strs names)
  row : ∀ r ∈ rows, RowAt w r
  nd : (bl gl gm sv rows).Nodup
theorem own_mem {v : Value} {k : Nat} : k ∈ own v ↔ v.ownBlock = some k := by
  unfold own
  cases v.ownBlock <;> simp [eq_comm]
theorem name_eq {a b : ByteArray} : (a.data.toList == b.data.toList) = true ↔ a = b := by
  rw [beq_iff_eq]
  exact ⟨fun h => ba_ext h, fun h => by rw [h]⟩
theorem RowAt.lt {w : World} {r : Row} (h : RowAt w r) : ∀ k ∈ blks r, k < w.heap.size := by
  intro k hk
  rcases List.mem_cons.1 hk with rfl | hk
  · exact blk_lt h.cells
  · exact h.slc.blk k (own_mem.1 hk)
theorem RowAt.keep {w w' : World} {r : Row} (h : RowAt w r) (hs : w.heap.size ≤ w'.heap.size) (hb : ∀ k ∈ blks r, w'.heap[k]? = w.heap[k]?) : RowAt w' r :=
  ⟨(hb _ List.mem_cons_self).trans h.cells, h.slc.keep hs (fun k hk => hb k (List.mem_cons_of_mem _ (own_mem.2 hk)))⟩
section
variable {w w' : World} {gl gm : Nat} {sv : Value} {names : List ByteArray} {rows : List Row}
theorem mem_rows {r : Row} (hr : r ∈ rows) {k : Nat} (hk : k ∈ blks r) : k ∈ rows.flatMap blks := List.mem_flatMap.2 ⟨r, hr, hk⟩
theorem CapS.lt (h : CapS w gl gm sv names rows) : ∀ k ∈ bl gl gm sv rows, k < w.heap.size := by
  intro k hk
  rcases List.mem_cons.1 hk with rfl | hk
  · exact blk_lt h.list
  rcases List.mem_cons.1 hk with rfl | hk
  · exact h.map.lt
  rcases List.mem_append.1 hk with hk | hk
  · exact h.sort.blk k (own_mem.1 hk)
  · obtain ⟨r, hr, hk⟩ := List.mem_flatMap.1 hk
    exact (h.row r hr).lt k hk
theorem CapS.keep (h : CapS w gl gm sv names rows) (hs : w.heap.size ≤ w'.heap.size) (hb : ∀ k ∈ bl gl gm sv rows, w'.heap[k]? = w.heap[k]?) : CapS w' gl gm sv names rows :=
  ⟨(hb _ List.mem_cons_self).trans h.list, h.map.keep (hb _ (List.mem_cons_of_mem _ List.mem_cons_self)), h.sort.keep hs (fun k hk => hb k (List.mem_cons_of_mem _ (List.mem_cons_of_mem _ (List.mem_append_left _ (own_mem.2 hk))))),
    fun r hr => (h.row r hr).keep hs (fun k hk => hb k (List.mem_cons_of_mem _ (List.mem_cons_of_mem _ (List.mem_append_right _ (mem_rows hr hk))))), h.nd⟩
theorem CapS.below (h : CapS w gl gm sv names rows) (hb : Below w.heap.size w w') : CapS w' gl gm sv names rows := h.keep hb.size (fun k hk => hb.block k (h.lt k hk))
/-- What of the blocks is which. -/
theorem CapS.apart (h : CapS w gl gm sv names rows) : gl ≠ gm ∧ (∀ k ∈ own sv, k ≠ gl ∧ k ≠ gm) ∧ (∀ k ∈ rows.flatMap blks, k ≠ gl ∧ k ≠ gm ∧ k ∉ own sv) ∧ (rows.flatMap blks).Nodup := by
  have h0 := h.nd
  unfold bl at h0
  obtain ⟨h1, h2⟩ := List.nodup_cons.1 h0
  obtain ⟨h3, h4⟩ := List.nodup_cons.1 h2
  obtain ⟨h5, h6, h7⟩ := List.nodup_append.1 h4
  refine ⟨fun e => h1 (by rw [e]; exact List.mem_cons_self), fun k hk => ⟨fun e => h1 (by rw [← e]; exact List.mem_cons_of_mem _ (List.mem_append_left _ hk)), fun e => h3 (by rw [← e]; exact List.mem_append_left _ hk)⟩, fun k hk => ⟨fun e => h1 (by rw [← e]; exact List.mem_cons_of_mem _ (List.mem_append_right _ hk)), fun e => h3 (by rw [← e]; exact List.mem_append_right _ hk), fun e => h7 k e k hk rfl⟩, h6⟩
end
theorem find_snoc {rows : List Row} {r : Row} (h : find rows r.name = none) : find (rows ++ [r]) = upd (find rows) r.name r.ge := by
  funext s
  unfold find upd at *
  rw [List.find?_append]
  by_cases e : s = r.name
  · subst e
    rw [if_pos rfl]
    rw [Option.map_eq_none_iff] at h
    rw [h]
    simp
  · rw [if_neg e]
    have hn : (r.name.data.toList == s.data.toList) = false := by
      rw [← Bool.not_eq_true]
      intro h'
      exact e (name_eq.1 h').symm
    rw [List.find?_cons, hn]
    simp
theorem nodup_fresh {X M Y : List Nat} {b : Nat} (h : (X ++ M ++ Y).Nodup) (hb : b ∉ X ++ M ++ Y) : (X ++ [b] ++ Y).Nodup := by
  have h1 : (X ++ Y).Nodup := h.sublist (List.Sublist.append (List.sublist_append_left _ _) (List.Sublist.refl _))
  have h2 : b ∉ X ++ Y := fun h' => hb (by
    rcases List.mem_append.1 h' with h' | h'
    · exact List.mem_append_left _ (List.mem_append_left _ h')
    · exact List.mem_append_right _ h')
  rw [List.append_assoc, List.singleton_append]
  exact List.perm_middle.nodup_iff.2 (List.nodup_cons.2 ⟨h2, h1⟩)
theorem own_fresh {v v' : Value} {n : Nat} (h : v'.ownBlock = v.ownBlock ∨ ∃ b, v'.ownBlock = some b ∧ n ≤ b) : own v' = own v ∨ ∃ b, own v' = [b] ∧ n ≤ b := by
  rcases h with h | ⟨b, h, hn⟩
  · exact .inl (by unfold own; rw [h])
  · exact .inr ⟨b, by unfold own; rw [h]; rfl, hn⟩
theorem nodup_own {X Y : List Nat} {v v' : Value} {n : Nat} (h : (X ++ own v ++ Y).Nodup) (hlt : ∀ k ∈ X ++ own v ++ Y, k < n) (hv : own v' = own v ∨ ∃ b, own v' = [b] ∧ n ≤ b) : (X ++ own v' ++ Y).Nodup := by
  rcases hv with e | ⟨b, e, hn⟩
  · rw [e]; exact h
  · rw [e]; exact nodup_fresh h (fun hb => by have := hlt b hb; omega)
theorem mem_own {X Y : List Nat} {v v' : Value} {n : Nat} (hv : own v' = own v ∨ ∃ b, own v' = [b] ∧ n ≤ b) : ∀ k ∈ X ++ own v' ++ Y, k ∈ X ++ own v ++ Y ∨ n ≤ k := by
  intro k hk
  rcases hv with e | ⟨b, e, hn⟩
  · rw [e] at hk; exact .inl hk
  · rw [e] at hk
    rcases List.mem_append.1 hk with hk | hk
    · rcases List.mem_append.1 hk with hk | hk
      · exact .inl (List.mem_append_left _ (List.mem_append_left _ hk))
      · rw [List.mem_singleton.1 hk]; exact .inr hn
    · exact .inl (List.mem_append_right _ hk)
theorem infoStr : (Tryd.prog.info? 9).map (fun i => (i.zero, i.size, i.bytes)) = some (some (.string ⟨#[]⟩), 1, 16) := by kernel_rfl
theorem appendStr {w : World} {v : Value} {xs news : List Value} {A : Option Addr} {m c : Nat} (ty : TypeId) (h : Slc w v xs) (hsrc : Src w A m news) (hmax : xs.length + m ≤ 4398046511104) :
    ∃ v' w', (Builtin.append_ #[28, 28] ty #[v, .slice A m c]).run Tryd.prog w = .ok v' w' ∧ Slc w' v' (xs ++ news) ∧ Off (fun k => v.ownBlock = some k) w w' ∧ (v'.ownBlock = v.ownBlock ∨ ∃ b, v'.ownBlock = some b ∧ w.heap.size ≤ b) := by
  obtain ⟨i0, hi, hzz⟩ := Option.map_eq_some_iff.1 infoStr
  simp only [Prod.mk.injEq] at hzz
  obtain ⟨hz0, hz1, hz2⟩ := hzz
  exact h.appendW 28 ty 9 i0 _ 16 Tryd.underlying28 hi hz0 hz1 hz2 rfl hsrc (by omega) (by omega)
theorem off_alloc (w : World) (S : Nat → Prop) (o : Obj) : Off S w (w.alloc o) := Off.of_below (below_alloc (Below.refl _ _) _)
/-- A new capability: its entry, and the store into the map. -/
theorem capS_new {w : World} {gl gm : Nat} {sv : Value} {names : List ByteArray} {rows : List Row} (h : CapS w gl gm sv names rows) (name : ByteArray) (hs : name.size ≤ maxLen) (hf : find rows name = none) (hn : rows.length ≤ 1000000) :
    ∃ w', (Instr.mapUpdate 62 (.map (some gm)) (.string name) (.pointer (some ⟨w.heap.size, 0, none⟩))).run Tryd.prog (w.alloc (.cells #[.string name, .slice none 0 0] 67 (0, 0))) = .ok () w' ∧
      CapS w' gl gm sv names (rows ++ [⟨name, w.heap.size, .slice none 0 0, []⟩]) ∧ Off (In [gm]) w w' := by
  have hal := off_alloc w (fun _ => False) (.cells #[.string name, .slice none 0 0] 67 (0, 0))
  have h1 : CapS (w.alloc (.cells #[.string name, .slice none 0 0] 67 (0, 0))) gl gm sv names rows := h.keep hal.size (fun k hk => hal.block k (h.lt k hk) (fun h => h))
  obtain ⟨w', hr, hm, ho⟩ := h1.map.store Tryd.underlying50 Tryd.underlying62 (by unfold maxLen; omega) name hs w.heap.size
  obtain ⟨a1, a2, a3, a4⟩ := h1.apart
  have hlt := h.lt
  have hgm : gm < w.heap.size := h.map.lt
  have hsz : (w.alloc (.cells #[.string name, .slice none 0 0] 67 (0, 0))).heap.size = w.heap.size + 1 := by simp
  have hnew : w'.heap[w.heap.size]? = some (.cells #[.string name, .slice none 0 0] 67 (0, 0)) := ho.blk (blk_new w _) (by simp [In]; omega)
  have hbl : bl gl gm sv (rows ++ [⟨name, w.heap.size, .slice none 0 0, []⟩]) = bl gl gm sv rows ++ [w.heap.size] := by
    unfold bl
    rw [List.flatMap_append]
    simp [blks, own, Value.ownBlock]
  refine ⟨w', hr, ⟨ho.blk h1.list (by simp [In]; exact a1), ?_, ?_, ?_, ?_⟩, ⟨ho.os.trans hal.os, ho.tape.trans hal.tape, ho.output.trans hal.output, Nat.le_trans hal.size ho.size, fun k hk n => (ho.block k (by omega) n).trans (hal.block k hk (fun h => h))⟩⟩
  · rw [List.length_append, List.length_singleton, find_snoc (r := ⟨name, w.heap.size, .slice none 0 0, []⟩) hf]
    exact hm
  · exact h1.sort.off ho (fun k hk => by simp [In]; exact (a2 k (own_mem.2 hk)).2)
  · intro r hr
    rcases List.mem_append.1 hr with hr | hr
    · exact (h1.row r hr).keep ho.size (fun k hk => ho.block k ((h1.row r hr).lt k hk) (by simp [In]; exact (a3 k (mem_rows hr hk)).2.1))
    · rw [List.mem_singleton.1 hr]
      exact ⟨hnew, .inl ⟨rfl, rfl⟩⟩
  · rw [hbl]
    refine List.nodup_append.2 ⟨h.nd, List.nodup_cons.2 ⟨List.not_mem_nil, List.nodup_nil⟩, fun k hk j hj e => ?_⟩
    rw [List.mem_singleton.1 hj] at e
    have := hlt k hk
    omega
/-- One name more in the list's order. -/
theorem capS_name {w : World} {gl gm : Nat} {sv : Value} {names : List ByteArray} {rows : List Row} (h : CapS w gl gm sv names rows) (name : ByteArray) (hn : names.length ≤ 1000000) :
    ∃ v' w2, (Builtin.append_ #[28, 28] 28 #[sv, .slice (some ⟨w.heap.size, 0, none⟩) 1 1]).run Tryd.prog (w.alloc (.cells #[.string name] 9 (0, 0))) = .ok v' w2 ∧
      (∃ A1 c1, v' = .slice A1 (names.length + 1) c1) ∧ w2.cell? ⟨gl, 1, none⟩ = some sv ∧ w2.frozen? ⟨gl, 1, none⟩ = false ∧ CapS (w2.setCell ⟨gl, 1, none⟩ v') gl gm v' (names ++ [name]) rows ∧ Off (fun k => k ∈ bl gl gm sv rows) w (w2.setCell ⟨gl, 1, none⟩ v') ∧ ∀ k ∈ bl gl gm v' rows, k ∈ bl gl gm sv rows ∨ w.heap.size ≤ k := by
  have hal := off_alloc w (fun _ => False) (.cells #[.string name] 9 (0, 0))
  have h1 : CapS (w.alloc (.cells #[.string name] 9 (0, 0))) gl gm sv names rows := h.keep hal.size (fun k hk => hal.block k (h.lt k hk) (fun h => h))
  have hsrc := new_src w (.string name) 9 rfl
  obtain ⟨v', w2, hr, hsl, ho, hfr⟩ := appendStr (c := 1) 28 h1.sort hsrc (by rw [strs_len]; omega)
  obtain ⟨A1, c1, hv1, hc1⟩ := Slc_shape hsl
  rw [List.length_append, strs_len, List.length_singleton] at hv1
  obtain ⟨a1, a2, a3, a4⟩ := h1.apart
  have hG2 : w2.heap[gl]? = some (.cells #[.map (some gm), sv] 64 (0, 0)) := ho.blk h1.list (fun e => (a2 gl (own_mem.2 e)).1 rfl)
  have hsz : (w.alloc (.cells #[.string name] 9 (0, 0))).heap.size = w.heap.size + 1 := by simp
  have hfr' : own v' = own sv ∨ ∃ b, own v' = [b] ∧ w.heap.size ≤ b := by
    rcases own_fresh hfr with e | ⟨b, e, hb⟩
    · exact .inl e
    · exact .inr ⟨b, e, by omega⟩
  have hset := Off.cell (S := fun k => k = gl) (Off.refl _ w2) (g := gl) rfl 1 v'
  have hv'gl : ∀ k ∈ own v', k ≠ gl ∧ k ≠ gm ∧ k ∉ rows.flatMap blks := fun k hk => by
    rcases hfr' with e | ⟨b, e, hb⟩
    · rw [e] at hk
      exact ⟨(a2 k hk).1, (a2 k hk).2, fun hk' => (a3 k hk').2.2 hk⟩
    · rw [e] at hk
      rw [List.mem_singleton.1 hk]
      refine ⟨fun e' => ?_, fun e' => ?_, fun hk' => ?_⟩
      · have := h.lt gl List.mem_cons_self; omega
      · have := h.lt gm (List.mem_cons_of_mem _ List.mem_cons_self); omega
      · have := h.lt b (List.mem_cons_of_mem _ (List.mem_cons_of_mem _ (List.mem_append_right _ hk'))); omega
  refine ⟨v', w2, hr, ⟨A1, c1, hv1⟩, (blk_cell hG2 1).trans rfl, blk_frozen hG2 1, ⟨blk_put hG2 1 _ rfl, ?_, ?_, ?_, ?_⟩, ?_, ?_⟩
  · exact (h1.map.off ho (fun e => (a2 gm (own_mem.2 e)).2 rfl)).off hset (fun e => a1 e.symm)
  · rw [strs, List.map_append]
    exact hsl.off hset (fun k hk e => (hv'gl k (own_mem.2 hk)).1 e)
  · intro r hr'
    refine ((h1.row r hr').keep ho.size (fun k hk => ho.block k ((h1.row r hr').lt k hk) (fun e => (a3 k (mem_rows hr' hk)).2.2 (own_mem.2 e)))).keep hset.size (fun k hk => ?_)
    exact Below.heap_setCell w2 ⟨gl, 1, none⟩ v' k (a3 k (mem_rows hr' hk)).1
  · have := nodup_own (X := [gl, gm]) (Y := rows.flatMap blks) (v := sv) (v' := v') (n := w.heap.size) (by simpa [bl] using h.nd) (fun k hk => h.lt k (by simpa [bl] using hk)) hfr'
    simpa [bl] using this
  · have h2 : Off (fun k => k ∈ bl gl gm sv rows) w w2 := ⟨ho.os.trans hal.os, ho.tape.trans hal.tape, ho.output.trans hal.output, Nat.le_trans hal.size ho.size, fun k hk n => (ho.block k (by omega) (fun e => n (List.mem_cons_of_mem _ (List.mem_cons_of_mem _ (List.mem_append_left _ (own_mem.2 e)))))).trans (hal.block k hk (fun h => h))⟩
    exact h2.cell List.mem_cons_self 1 v'
  · intro k hk
    have := mem_own (X := [gl, gm]) (Y := rows.flatMap blks) (v := sv) (v' := v') (n := w.heap.size) hfr' k (by simpa [bl] using hk)
    simpa [bl] using this
/-- Values more behind those of an entry. -/
theorem capS_vals {w : World} {gl gm : Nat} {sv : Value} {names : List ByteArray} {a b : List Row} {r : Row} (h : CapS w gl gm sv names (a ++ r :: b)) {A : Option Addr} {c : Nat} (vs : List ByteArray) (hsrc : Src w A vs.length (strs vs)) (hn : r.vs.length + vs.length ≤ 1000000) :
    ∃ v' w2, (Builtin.append_ #[28, 28] 28 #[r.v, .slice A vs.length c]).run Tryd.prog w = .ok v' w2 ∧
      (∃ A1 c1, v' = .slice A1 (r.vs.length + vs.length) c1) ∧ w2.cell? ⟨r.ge, 1, none⟩ = some r.v ∧ w2.frozen? ⟨r.ge, 1, none⟩ = false ∧ CapS (w2.setCell ⟨r.ge, 1, none⟩ v') gl gm sv names (a ++ ⟨r.name, r.ge, v', r.vs ++ vs⟩ :: b) ∧ Off (fun k => k ∈ bl gl gm sv (a ++ r :: b)) w (w2.setCell ⟨r.ge, 1, none⟩ v') ∧
      ∀ k ∈ bl gl gm sv (a ++ ⟨r.name, r.ge, v', r.vs ++ vs⟩ :: b), k ∈ bl gl gm sv (a ++ r :: b) ∨ w.heap.size ≤ k := by
  have hrr : r ∈ a ++ r :: b := List.mem_append_right _ List.mem_cons_self
  have hR := h.row r hrr
  obtain ⟨v', w2, hr, hsl, ho, hfr⟩ := appendStr (c := c) 28 hR.slc hsrc (by rw [strs_len]; omega)
  obtain ⟨A1, c1, hv1, hc1⟩ := Slc_shape hsl
  rw [List.length_append, strs_len, strs_len] at hv1
  obtain ⟨a1, a2, a3, a4⟩ := h.apart
  have hfr' := own_fresh hfr
  have hfl : (a ++ r :: b).flatMap blks = (a.flatMap blks ++ [r.ge]) ++ own r.v ++ b.flatMap blks := by
    rw [List.flatMap_append, List.flatMap_cons]
    simp [blks]
  have hfl' : (a ++ ⟨r.name, r.ge, v', r.vs ++ vs⟩ :: b).flatMap blks = (a.flatMap blks ++ [r.ge]) ++ own v' ++ b.flatMap blks := by
    rw [List.flatMap_append, List.flatMap_cons]
    simp [blks]
  have hown : ∀ k ∈ own r.v, k ∈ (a ++ r :: b).flatMap blks := fun k hk => mem_rows hrr (List.mem_cons_of_mem _ hk)
  have hnd : (a.flatMap blks ++ r.ge :: (own r.v ++ b.flatMap blks)).Nodup := by
    have := a4
    rw [hfl] at this
    simpa using this
  obtain ⟨n1, n2, n3⟩ := List.nodup_append.1 hnd
  obtain ⟨n4, n5⟩ := List.nodup_cons.1 n2
  obtain ⟨n6, n7, n8⟩ := List.nodup_append.1 n5
  have hge : ∀ k ∈ own r.v, k ≠ r.ge := fun k hk e => n4 (by rw [← e]; exact List.mem_append_left _ hk)
  have hoth : ∀ q ∈ a ++ b, ∀ k ∈ blks q, k ≠ r.ge ∧ k ∉ own r.v := fun q hq k hk => by
    rcases List.mem_append.1 hq with hq | hq
    · have hk' := mem_rows hq hk
      exact ⟨fun e => n3 k hk' r.ge List.mem_cons_self e, fun hk2 => n3 k hk' k (List.mem_cons_of_mem _ (List.mem_append_left _ hk2)) rfl⟩
    · have hk' := mem_rows hq hk
      exact ⟨fun e => n4 (by rw [← e]; exact List.mem_append_right _ hk'), fun hk2 => n8 k hk2 k hk' rfl⟩
  have hG2 : w2.heap[r.ge]? = some (.cells #[.string r.name, r.v] 67 (0, 0)) := ho.blk hR.cells (fun e => hge r.ge (own_mem.2 e) rfl)
  have hset := Off.cell (S := fun k => k = r.ge) (Off.refl _ w2) (g := r.ge) rfl 1 v'
  have hgerow : r.ge ∈ (a ++ r :: b).flatMap blks := mem_rows hrr List.mem_cons_self
  have hlt : ∀ k ∈ (a ++ r :: b).flatMap blks, k < w.heap.size := fun k hk => h.lt k (List.mem_cons_of_mem _ (List.mem_cons_of_mem _ (List.mem_append_right _ hk)))
  have hv'ge : ∀ k ∈ own v', k ≠ r.ge := fun k hk => by
    rcases hfr' with e | ⟨q, e, hq⟩
    · rw [e] at hk; exact hge k hk
    · rw [e] at hk
      rw [List.mem_singleton.1 hk]
      have := hlt r.ge hgerow
      omega
  refine ⟨v', w2, hr, ⟨A1, c1, hv1⟩, (blk_cell hG2 1).trans rfl, blk_frozen hG2 1, ⟨?_, ?_, ?_, ?_, ?_⟩, ?_, ?_⟩
  · exact hset.blk (ho.blk h.list (fun e => (a3 gl (hown gl (own_mem.2 e))).1 rfl)) (fun e => (a3 r.ge hgerow).1 e.symm)
  · have hm := (h.map.off ho (fun e => (a3 gm (hown gm (own_mem.2 e))).2.1 rfl)).off hset (fun e => (a3 r.ge hgerow).2.1 e.symm)
    have hf : find (a ++ ⟨r.name, r.ge, v', r.vs ++ vs⟩ :: b) = find (a ++ r :: b) := by
      funext s
      unfold find
      rw [List.find?_append, List.find?_append, List.find?_cons, List.find?_cons]
      cases a.find? (fun r => r.name.data.toList == s.data.toList) with
      | some q => rfl
      | none =>
        cases hq : (r.name.data.toList == s.data.toList) <;> rfl
    rw [hf]
    simpa using hm
  · exact (h.sort.off ho (fun k hk e => (a3 k (hown k (own_mem.2 e))).2.2 (own_mem.2 hk))).off hset (fun k hk e => (a3 r.ge hgerow).2.2 (by rw [← e]; exact own_mem.2 hk))
  · intro q hq
    have hoq : ∀ q ∈ a ++ b, RowAt (w2.setCell ⟨r.ge, 1, none⟩ v') q := fun q hq => by
      have hq' : q ∈ a ++ r :: b := (List.mem_append.1 hq).elim (fun h => List.mem_append_left _ h) (fun h => List.mem_append_right _ (List.mem_cons_of_mem _ h))
      refine ((h.row q hq').keep ho.size (fun k hk => ho.block k ((h.row q hq').lt k hk) (fun e => (hoth q hq k hk).2 (own_mem.2 e)))).keep hset.size (fun k hk => ?_)
      exact Below.heap_setCell w2 ⟨r.ge, 1, none⟩ v' k (hoth q hq k hk).1
    rcases List.mem_append.1 hq with hq | hq
    · exact hoq q (List.mem_append_left _ hq)
    rcases List.mem_cons.1 hq with rfl | hq
    · refine ⟨blk_put hG2 1 _ rfl, ?_⟩
      rw [strs, List.map_append]
      exact hsl.off hset (fun k hk e => hv'ge k (own_mem.2 hk) e)
    · exact hoq q (List.mem_append_right _ hq)
  · have hnd0 := h.nd
    unfold bl at hnd0 ⊢
    rw [hfl] at hnd0
    rw [hfl']
    have := nodup_own (X := gl :: gm :: (own sv ++ (a.flatMap blks ++ [r.ge]))) (Y := b.flatMap blks) (v := r.v) (v' := v') (n := w.heap.size) (by simpa using hnd0) (fun k hk => h.lt k (by unfold bl; rw [hfl]; simpa using hk)) hfr'
    simpa using this
  · have h2 : Off (fun k => k ∈ bl gl gm sv (a ++ r :: b)) w w2 := ho.mono (fun k hk => List.mem_cons_of_mem _ (List.mem_cons_of_mem _ (List.mem_append_right _ (hown k (own_mem.2 hk)))))
    exact h2.cell (List.mem_cons_of_mem _ (List.mem_cons_of_mem _ (List.mem_append_right _ hgerow))) 1 v'
  · intro k hk
    unfold bl at hk ⊢
    rw [hfl'] at hk
    rw [hfl]
    have := mem_own (X := gl :: gm :: (own sv ++ (a.flatMap blks ++ [r.ge]))) (Y := b.flatMap blks) (v := r.v) (v' := v') (n := w.heap.size) hfr' k (by simpa using hk)
    simpa using this
end
section
open Go.RowKit Go.Proofs.YtdobblddnfalcaaDoorW.PrintWords Go.Proofs.YtdobblddnfalcaaDoorW.PrintLast Go.Proofs.YtdobblddnfalcaaDoorW.PrintMore Go.Proofs.YtdobblddnfalcaaDoor.off Go.Proofs.YtdobblddnfalcaaDoor.mapq Go.Proofs.YtdobblddnfalcaaDoor.PFnCapsWritten
set_option linter.unusedVariables false
set_option linter.unusedSimpArgs false
set_option maxHeartbeats 2000000
set_option maxRecDepth 100000
theorem zeroPtr (w : World) : (zeroValue 65).run Tryd.prog w = .ok (.pointer none) w := by kernel_rfl
theorem zeroStrs (w : World) : (zeroValue 28).run Tryd.prog w = .ok (.slice none 0 0) w := by kernel_rfl
theorem newList_any (w : World) : Calls Tryd.prog 21 #[] w fun e w' => ∃ gl gm, e = .returned (.pointer (some ⟨gl, 0, none⟩)) ∧ w.heap.size ≤ gl ∧ w.heap.size ≤ gm ∧ CapS w' gl gm (.slice none 0 0) [] [] ∧ Below w.heap.size w w' := by
  have hmm := @run_makeMap Tryd.prog
  have HM := Aside0.mk (MapP.new Tryd.prog 50 w)
  have HB := Aside0.mk (below_alloc (Below.refl w.heap.size w) (.map #[] 0))
  have HSZ := Aside0.mk (show (w.alloc (.map #[] 0)).heap.size = w.heap.size + 1 by simp)
  go_enter Tryd.func21, Tryd.ntmps21
  go_wp2_with fail
  go_ret
  refine ⟨w.heap.size + 1, w.heap.size, rfl, Nat.le_succ _, Nat.le_refl _, ⟨?_, ?_, .inl ⟨rfl, rfl⟩, (fun r hr => by cases hr), ?_⟩, below_alloc HB.out _⟩
  · have := blk_new (w.alloc (.map #[] 0)) (.cells #[.map (some w.heap.size), .slice none 0 0] 64 (0, 0))
    rw [HSZ.out] at this
    exact this
  · exact HM.out.keep ((below_alloc (Below.refl _ _) _).block _ (by rw [HSZ.out]; omega))
  · simp [bl, own, Value.ownBlock]
theorem Src.below {w w' : World} {A : Option Addr} {m : Nat} {news : List Value} (h : Src w A m news) (hb : Below w.heap.size w w') : Src w' A m news :=
  ⟨h.len, fun j u hj => by
    obtain ⟨ad, h1, h2⟩ := h.rd j u hj
    exact ⟨ad, h1, (hb.cell (World.block_lt_of_cell? w _ h2)).trans h2⟩, h.one⟩
theorem supports_any (w : World) (gl gm : Nat) (sv : Value) (names : List ByteArray) (rows : List Row) (h : CapS w gl gm sv names rows) (s : ByteArray) (hs : s.size ≤ maxLen) (b : Bool) (hb : (find rows s).isSome = b) :
    Calls Tryd.prog 43 #[.pointer (some ⟨gl, 0, none⟩), .string s] w fun e w' => e = .returned (.bool b) ∧ Below w.heap.size w w' := by
  have q0 := (blk_cell h.list 0).trans (show _ = some (Value.map (some gm)) from rfl)
  have hr := h.map.look Tryd.underlying50 Tryd.underlying62 (zeroPtr w) s hs
  rw [hb] at hr
  generalize ptrV (find rows s) = pv at hr
  clear h
  go_enter Tryd.func43, Tryd.ntmps43
  go_wp2_with fail
  go_ret
  exact ⟨rfl, by first | exact Below.refl _ _ | exact below_alloc (Below.refl _ _) _⟩
/-- What is asked of a capability's values. -/
structure ArgsOk (name : ByteArray) (vs : List ByteArray) : Prop where
  size : name.size ≤ 1000
  known : decide (name.data.toList ∈ knownL) = true
  some_ : decide (name.data.toList ∈ requiresL) = true → vs ≠ []
  none_ : decide (name.data.toList ∈ requiresL) = false → vs = []
  one : decide (name.data.toList ∈ multipleL) = false → vs.length ≤ 1
  full : ∀ s ∈ vs, s.size ≠ 0
  most : vs.length ≤ 1000
theorem validate_any (w : World) (p : Value) (name : ByteArray) (A : Option Addr) (c : Nat) (vs : List ByteArray) (ok : ArgsOk name vs) (hsrc : Src w A vs.length (strs vs)) :
    Calls Tryd.prog 42 #[p, .string name, .slice A vs.length c] w fun e w' => e = .returned .nilIface ∧ Below w.heap.size w w' := by
  have hsz : name.size ≤ maxLen := Nat.le_trans ok.size (by decide)
  have HK := Aside0.mk (fun W => known_any W name hsz true ok.known)
  obtain ⟨rq, hrq⟩ : ∃ b, decide (name.data.toList ∈ requiresL) = b := ⟨_, rfl⟩
  obtain ⟨mu, hmu⟩ : ∃ b, decide (name.data.toList ∈ multipleL) = b := ⟨_, rfl⟩
  have HR := Aside0.mk (fun W => requires_any W name hsz rq hrq)
  have HU := Aside0.mk (fun W => multiple_any W name hsz mu hmu)
  have h1 := ok.some_
  have h2 := ok.none_
  have h3 := ok.one
  have h4 := ok.most
  rw [hrq] at h1 h2
  rw [hmu] at h3
  have HNE := Aside0.mk (fun W (hb : Below w.heap.size w W) => noEmpty_any W p A c vs (Src.below hsrc hb) ok.full (by omega))
  have HB0 := Aside0.mk (Below.refl w.heap.size w)
  obtain ⟨n, hn⟩ : ∃ n, vs.length = n := ⟨_, rfl⟩
  rw [hn] at HNE h3 h4 ⊢
  have h1' : rq = true → n ≠ 0 := fun h e => h1 h (List.eq_nil_of_length_eq_zero (by omega))
  have h2' : rq = false → n = 0 := fun h => by rw [← hn, h2 h]; rfl
  clear hsrc ok hrq hmu h1 h2 hn
  cases rq with
  | true =>
    have hn0 := h1' rfl
    have d0 : ((n : Int) == 0) = false := beq_eq_false_iff_ne.2 (by omega)
    have d1 : (n == 0) = false := beq_eq_false_iff_ne.2 hn0
    clear h1' h2'
    cases mu with
    | true =>
      clear h3
      go_enter Tryd.func42, Tryd.ntmps42
      go_wp2_with fail
      refine (HK.out _).mono ?_
      rintro e w1 ⟨rfl, hb⟩
      have HB1 := Aside0.mk hb
      clear hb
      go_wp2_with fail
      refine (HR.out _).mono ?_
      rintro e w2 ⟨rfl, hb⟩
      have HB2 := Aside0.mk (below_step HB1.out hb)
      clear hb
      go_wp2_with fail
      refine (HR.out _).mono ?_
      rintro e w3 ⟨rfl, hb⟩
      have HB3 := Aside0.mk (below_step HB2.out hb)
      clear hb
      go_wp2_with fail
      refine (HU.out _).mono ?_
      rintro e w4 ⟨rfl, hb⟩
      have HB4 := Aside0.mk (below_step HB3.out hb)
      clear hb
      go_wp2_with fail
      refine (HNE.out _ HB4.out).mono ?_
      rintro e w5 ⟨rfl, q, rfl⟩
      go_wp2_with fail
      go_ret
      exact ⟨rfl, pw_below_drewN HB4.out _⟩
    | false =>
      have h3' := h3 rfl
      have d2 : decide ((1 : Int) < (n : Int)) = false := decide_eq_false (by omega)
      have d3 : decide (1 < n) = false := decide_eq_false (by omega)
      clear h3
      go_enter Tryd.func42, Tryd.ntmps42
      go_wp2_with fail
      refine (HK.out _).mono ?_
      rintro e w1 ⟨rfl, hb⟩
      have HB1 := Aside0.mk hb
      clear hb
      go_wp2_with fail
      refine (HR.out _).mono ?_
      rintro e w2 ⟨rfl, hb⟩
      have HB2 := Aside0.mk (below_step HB1.out hb)
      clear hb
      go_wp2_with fail
      refine (HR.out _).mono ?_
      rintro e w3 ⟨rfl, hb⟩
      have HB3 := Aside0.mk (below_step HB2.out hb)
      clear hb
      go_wp2_with fail
      refine (HU.out _).mono ?_
      rintro e w4 ⟨rfl, hb⟩
      have HB4 := Aside0.mk (below_step HB3.out hb)
      clear hb
      go_wp2_with fail
      refine (HNE.out _ HB4.out).mono ?_
      rintro e w5 ⟨rfl, q, rfl⟩
      go_wp2_with fail
      go_ret
      exact ⟨rfl, pw_below_drewN HB4.out _⟩
  | false =>
    have hn0 := h2' rfl
    subst hn0
    clear h1' h2' h3 h4
    cases mu <;>
    · go_enter Tryd.func42, Tryd.ntmps42
      go_wp2_with fail
      refine (HK.out _).mono ?_
      rintro e w1 ⟨rfl, hb⟩
      have HB1 := Aside0.mk hb
      clear hb
      go_wp2_with fail
      refine (HR.out _).mono ?_
      rintro e w2 ⟨rfl, hb⟩
      have HB2 := Aside0.mk (below_step HB1.out hb)
      clear hb
      go_wp2_with fail
      refine (HR.out _).mono ?_
      rintro e w3 ⟨rfl, hb⟩
      have HB3 := Aside0.mk (below_step HB2.out hb)
      clear hb
      go_wp2_with fail
      refine (HU.out _).mono ?_
      rintro e w4 ⟨rfl, hb⟩
      have HB4 := Aside0.mk (below_step HB3.out hb)
      clear hb
      go_wp2_with fail
      refine (HNE.out _ HB4.out).mono ?_
      rintro e w5 ⟨rfl, q, rfl⟩
      go_wp2_with fail
      go_ret
      exact ⟨rfl, pw_below_drewN HB4.out _⟩
end
end Go.Proofs.YtdobblddnfalcaaDoor.cap
