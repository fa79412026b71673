/- config: options asked for. -/
import Derived.Test.YtoofbppfbbhliaaDoorPutA
import Derived.Test.YtoofbppfbbhliaaDoorShelf
import Derived.Deep.DeepMust
namespace Go.Proofs.YtoofbppfbbhliaaDoor.confP
open Go.RowKit Go.Proofs.YtoofbppfbbhliaaDoorW.PrintWords Go.Proofs.YtoofbppfbbhliaaDoorW.PrintLast Go.Proofs.YtoofbppfbbhliaaDoorW.PrintMore Go.Proofs.YtoofbppfbbhliaaDoor.PFnConfAdd Go.Proofs.YtoofbppfbbhliaaDoor.ptr
set_option linter.unusedVariables false
set_option linter.unusedSimpArgs false
set_option maxHeartbeats 2000000
set_option maxRecDepth 100000
/-- Small letters alone, at most 1000. -/
def Word (s : ByteArray) : Prop := (∀ (j : Nat) (b : UInt8), s.data.toList[j]? = some b → 97 ≤ b.toNat ∧ b.toNat ≤ 122) ∧ s.size ≤ 1000
/-- Two texts are the same. -/
def eqB (a b : ByteArray) : Bool := a.toList == b.toList
theorem eqB_of {a b : ByteArray} {r : Bool} (h : eqB a b = r) : (a.toList == b.toList) = r := h
theorem fold_list : ∀ (s t : List UInt8), (∀ b ∈ s, 97 ≤ b.toNat ∧ b.toNat ≤ 122) → (∀ b ∈ t, 97 ≤ b.toNat ∧ b.toNat ≤ 122) → Lib.equalFold s t = (s == t)
  | [], [], _, _ => rfl
  | [], _ :: _, _, _ => rfl
  | _ :: _, [], _, _ => rfl
  | x :: s, y :: t, hs, ht => by
    have h1 := hs x (by simp)
    have h2 := ht y (by simp)
    have ih := fold_list s t (fun b hb => hs b (by simp [hb])) (fun b hb => ht b (by simp [hb]))
    have e : Lib.foldEq x y = (x == y) := by
      unfold Lib.foldEq
      by_cases h : x = y
      · subst h; simp
      · have : ¬ x.toNat = y.toNat := fun e => h (UInt8.toNat_inj.1 e)
        rw [show (x == y) = false by simp [h]]
        simp; omega
    rw [Lib.equalFold, e, ih]; rfl
theorem fold_word {a b : ByteArray} (ha : Word a) (hb : Word b) : Lib.equalFold a.data.toList b.data.toList = eqB a b := by
  unfold eqB
  rw [ByteArray.toList_eq, ByteArray.toList_eq]
  refine fold_list _ _ (fun c hc => ?_) (fun c hc => ?_)
  · obtain ⟨i, hi, rfl⟩ := List.getElem_of_mem hc
    exact ha.1 i _ (List.getElem?_eq_getElem hi)
  · obtain ⟨i, hi, rfl⟩ := List.getElem_of_mem hc
    exact hb.1 i _ (List.getElem?_eq_getElem hi)
theorem fold_any (a b : ByteArray) (w : World) (ha : Word a) (hb : Word b) : Calls Tryd.prog 124 #[.string a, .string b] w fun e w' => e = .returned (.bool (eqB a b)) ∧ w = w' :=
  (Tryd.strings_EqualFold a b w (by have := ha.2; omega) (fun j c h => by have := ha.1 j c h; omega) (fun j c h => by have := hb.1 j c h; omega)).mono fun e w' h => ⟨by rw [h.1, fold_word ha hb], h.2.symm⟩
theorem isKey_any (g : Nat) (k key : ByteArray) (v : Value) (w : World) (hg : w.heap[g]? = some (.cells #[.string k, v] 195 (0, 0))) (hk : Word k) (ha : Word key) :
    Calls Tryd.prog 132 #[.pointer (some ⟨g, 0, none⟩), .string key] w fun e w' => e = .returned (.bool (eqB k key)) ∧ w = w' := by
  have h0 : w.cell? ⟨g, 0, none⟩ = some (.string k) := (blk_cell hg 0).trans rfl
  have HE := Aside0.mk (fold_any k key w hk ha)
  clear hg
  go_enter Tryd.func132, Tryd.ntmps132
  go_wp2_with fail
  refine HE.out.mono ?_
  rintro e w' ⟨rfl, rfl⟩
  go_wp2
  go_ret
  exact ⟨rfl, rfl⟩
theorem secName_any (g : Nat) (k key : ByteArray) (v u : Value) (w : World) (hg : w.heap[g]? = some (.cells #[.string k, v, u] 169 (0, 0))) (hk : Word k) (ha : Word key) :
    Calls Tryd.prog 100 #[.pointer (some ⟨g, 0, none⟩), .string key] w fun e w' => e = .returned (.bool (eqB k key)) ∧ w = w' := by
  have h0 : w.cell? ⟨g, 0, none⟩ = some (.string k) := (blk_cell hg 0).trans rfl
  have HE := Aside0.mk (fold_any k key w hk ha)
  clear hg
  go_enter Tryd.func100, Tryd.ntmps100
  go_wp2_with fail
  refine HE.out.mono ?_
  rintro e w' ⟨rfl, rfl⟩
  go_wp2
  go_ret
  exact ⟨rfl, rfl⟩
theorem subName_any (g : Nat) (k key : ByteArray) (v : Value) (w : World) (hg : w.heap[g]? = some (.cells #[.string k, v] 172 (0, 0))) :
    Calls Tryd.prog 101 #[.pointer (some ⟨g, 0, none⟩), .string key] w fun e w' => e = .returned (.bool (eqB k key)) ∧ w = w' := by
  have h0 : w.cell? ⟨g, 0, none⟩ = some (.string k) := (blk_cell hg 0).trans rfl
  clear hg
  go_enter Tryd.func101, Tryd.ntmps101
  go_wp2
  go_ret
  exact ⟨rfl, rfl⟩
/-- The cells of an option. -/
theorem opt_cells {w : World} {g : Nat} {arr : Array Value} {x : S112} (h : k112.K w x arr.toList) (hg : w.heap[g]? = some (.cells arr 195 (0, 0))) : w.heap[g]? = some (.cells #[.string x.f0, .string x.f1] 195 (0, 0)) := by
  have e := k112_open h
  obtain ⟨l⟩ := arr
  simp only at e
  subst e
  exact hg
/-- The last value of a key. -/
def lastVal (l : List S112) (key : ByteArray) : ByteArray := (((l.filter fun o => eqB o.f0 key).getLast?).map (·.f1)).getD ⟨#[]⟩
theorem lastVal_at {l : List S112} {key : ByteArray} {j : Nat} (hj : j < l.length) (h1 : eqB (l[j]).f0 key = true) (h2 : ∀ o ∈ l.drop (j + 1), eqB o.f0 key = false) : lastVal l key = (l[j]).f1 := by
  have e : l = l.take j ++ (l[j] :: l.drop (j + 1)) := by rw [← List.drop_eq_getElem_cons hj, List.take_append_drop]
  have hf : (l.filter fun o => eqB o.f0 key) = ((l.take j).filter fun o => eqB o.f0 key) ++ [l[j]] := by
    conv => lhs; rw [e]
    have h3 : (l.drop (j + 1)).filter (fun o => eqB o.f0 key) = [] := List.filter_eq_nil_iff.2 (fun o ho => by simp [h2 o ho])
    rw [List.filter_append, List.filter_cons, if_pos h1, h3]
  unfold lastVal
  rw [hf]
  simp
theorem lastVal_none {l : List S112} {key : ByteArray} (h : ∀ o ∈ l, eqB o.f0 key = false) : lastVal l key = ⟨#[]⟩ := by
  unfold lastVal
  rw [List.filter_eq_nil_iff.2 (fun o ho => by simp [h o ho])]; rfl
theorem drop_all {l : List S112} {key : ByteArray} {j : Nat} (hj : j < l.length) (h1 : eqB (l[j]).f0 key = false) (h2 : ∀ o ∈ l.drop (j + 1), eqB o.f0 key = false) : ∀ o ∈ l.drop j, eqB o.f0 key = false := by
  intro o ho
  rw [List.drop_eq_getElem_cons hj] at ho
  rcases List.mem_cons.1 ho with rfl | ho
  · exact h1
  · exact h2 o ho
theorem all_room {n j L : Nat} (h1 : n ≤ j) (h2 : j < L) (h3 : L ≤ 4294967295) : (n + 1) * 16 ≤ 140737488355328 := by omega
theorem get_any (A0 : Option Addr) (c0 : Nat) (l : List S112) (key : ByteArray) (w : World) (hr0 : Kd.C kO w A0 l.length l) (hc0 : l.length ≤ c0) (hl : ∀ o ∈ l, Word o.f0) (ha : Word key) :
    Calls Tryd.prog 122 #[.slice A0 l.length c0, .string key] w fun e w' => e = .returned (.string (lastVal l key)) ∧ w = w' := by
  have hm := Kd.C_max hr0
  have HR0 := Aside0.mk hr0
  have HL := Aside0.mk hl
  have HA := Aside0.mk ha
  have hw0 : wrap64 ((l.length : Int) - 1) = (l.length : Int) - 1 := w64 (by omega) (by omega)
  clear hr0 hl ha
  go_enter Tryd.func122, Tryd.ntmps122
  go_wp2
  go_loopg [5] (l.length + 1) (fun kq v5 w' => ∃ (x : Int) (j : Nat), v5 = .int .i64 x ∧ -1 ≤ x ∧ x < (l.length : Int) ∧ Aside0 (x + 1 = (j : Int)) ∧ Aside0 (kq = j + 1) ∧ Aside0 (∀ o ∈ l.drop j, eqB o.f0 key = false) ∧ Aside0 (w = w'))
  case atStart => exact ⟨_, l.length, rfl, by omega, by omega, ⟨by omega⟩, ⟨rfl⟩, ⟨by rw [List.drop_length]; intro o ho; cases ho⟩, ⟨rfl⟩⟩
  case round =>
    clear hw0
    obtain ⟨x, j, rfl, hx1, hx2, HJ, HK, HN, HW⟩ := hrel
    obtain rfl := HW.out
    cases gk with
    | zero => exact absurd HK.out (by omega)
    | succ k1 =>
      by_cases h0 : 0 ≤ x
      · have d1 : decide (0 ≤ x) = true := decide_eq_true h0
        obtain ⟨i, hi⟩ : ∃ i : Nat, x = (i : Int) := ⟨x.toNat, by omega⟩
        subst hi
        have hil : i < l.length := by omega
        obtain rfl : j = i + 1 := by have := HJ.out; omega
        obtain ⟨ad, g, arr, e0, hc, hg, hK⟩ := at_ptr HR0.out i hil
        subst e0
        have hgo := opt_cells hK hg
        have h1 : w.cell? ⟨g, 1, none⟩ = some (.string (l[i]).f1) := (blk_cell hgo 1).trans rfl
        have hw1 : wrap64 ((i : Int) - 1) = (i : Int) - 1 := w64 (by omega) (by omega)
        obtain ⟨b, hb⟩ : ∃ b, eqB (l[i]).f0 key = b := ⟨_, rfl⟩
        have HKey := Aside0.mk (show Calls Tryd.prog 132 #[.pointer (some ⟨g, 0, none⟩), .string key] w fun e w' => e = .returned (.bool b) ∧ w = w' by rw [← hb]; exact isKey_any g _ key _ w hgo (HL.out _ (List.getElem_mem hil)) HA.out)
        have HB := Aside0.mk hb
        have HI := Aside0.mk hil
        clear hgo hg hK hb
        go_wp2_with fail
        refine HKey.out.mono ?_
        rintro e w' ⟨rfl, rfl⟩
        clear HKey
        cases b with
        | true =>
          go_wp2
          go_ret
          exact ⟨by rw [lastVal_at HI.out HB.out HN.out]; rfl, rfl⟩
        | false =>
          go_wp2
          go_roundg k1
          case measure => have := HK.out; omega
          case rel => exact ⟨_, i, rfl, by omega, by omega, ⟨by omega⟩, ⟨by have := HK.out; omega⟩, ⟨drop_all HI.out HB.out HN.out⟩, ⟨rfl⟩⟩
      · have d1 : decide (0 ≤ x) = false := decide_eq_false h0
        obtain rfl : x = -1 := by omega
        obtain rfl : j = 0 := by have := HJ.out; omega
        go_wp2
        go_ret
        exact ⟨by rw [lastVal_none (by simpa using HN.out)]; rfl, rfl⟩
/-- All values of a key, in their order. -/
def allVals (l : List S112) (key : ByteArray) : List ByteArray := (l.filter fun o => eqB o.f0 key).map (·.f1)
theorem allVals_step {l : List S112} {key : ByteArray} {j : Nat} (hj : j < l.length) : allVals (l.take (j + 1)) key = if eqB (l[j]).f0 key = true then allVals (l.take j) key ++ [(l[j]).f1] else allVals (l.take j) key := by
  unfold allVals
  rw [take_snoc hj, List.filter_append, List.map_append]
  split
  · rename_i h; simp [h]
  · rename_i h; simp [h]
theorem allVals_len (l : List S112) (key : ByteArray) : (allVals l key).length ≤ l.length := by
  unfold allVals; rw [List.length_map]; exact List.length_filter_le _ _
theorem infoS : (Tryd.prog.info? 9).map (fun i => (i.zero, i.size, i.bytes)) = some (some (.string ⟨#[]⟩), 1, 16) := by kernel_rfl
theorem getAll_any (A0 : Option Addr) (c0 : Nat) (l : List S112) (key : ByteArray) (w : World) (hr0 : Kd.C kO w A0 l.length l) (hc0 : l.length ≤ c0) (hl : ∀ o ∈ l, Word o.f0) (ha : Word key) (hll : l.length ≤ 4294967295) :
    Calls Tryd.prog 123 #[.slice A0 l.length c0, .string key] w fun e w' => ∃ v, e = .returned v ∧ Kd.R Kd.string 9 w' w.heap.size (fun _ => True) v (allVals l key) ∧ Below w.heap.size w w' := by
  have HR0 := Aside0.mk hr0
  have HL := Aside0.mk hl
  have HA := Aside0.mk ha
  clear hr0 hl ha
  go_enter Tryd.func123, Tryd.ntmps123
  go_wp2
  have HB0 := Aside0.mk (below_alloc (Below.refl w.heap.size w) (.cells #[] 9 (0, 0)))
  have HR00 := Aside0.mk (Kd.R_of_own (enc := Value.string) (h1 := fun _ => rfl) (xs := ([] : List ByteArray)) (ok := fun _ => True) (own_lit_of (enc := Value.string) w w.heap.size 9 [] (Nat.le_refl _) (by simp)) (fun _ _ => trivial))
  go_loopg [5, 11] (l.length + 1) (fun kq v5 v11 w' => ∃ (j : Nat), v11 = .int .i64 (j : Int) ∧ j ≤ l.length ∧ Aside0 (kq + j = l.length + 1) ∧ Aside0 (Kd.R Kd.string 9 w' w.heap.size (fun _ => True) v5 (allVals (l.take j) key)) ∧ Aside0 (Below w.heap.size w w'))
  case atStart => exact ⟨0, rfl, Nat.zero_le _, ⟨by omega⟩, ⟨HR00.out⟩, HB0⟩
  case round =>
    clear HB0 HR00
    obtain ⟨j, rfl, hj, HK, HO, HB⟩ := hrel
    cases gk with
    | zero => exact absurd HK.out (by omega)
    | succ k1 =>
      by_cases hlt : j < l.length
      · have p150 : 0 ≤ (j : Int) := by omega
        have q150 : (j : Int) < (l.length : Int) := by omega
        have c5b0 : decide ((j : Int) < (l.length : Int)) = true := decide_eq_true q150
        obtain ⟨ad, g, arr, e0, hc, hg, hK⟩ := at_ptr HR0.out j hlt
        subst e0
        have hgo := opt_cells hK hg
        replace hc := (HB.out.cell (World.block_lt_of_cell? w _ hc)).trans hc
        replace hgo := (HB.out.block g (blk_lt hgo)).trans hgo
        obtain ⟨x, hx⟩ : ∃ x, l[j] = x := ⟨_, rfl⟩
        have HWx := Aside0.mk (HL.out _ (List.getElem_mem hlt))
        have hst := allVals_step (key := key) hlt
        rw [hx] at hgo HWx hst
        have h1 : wr.cell? ⟨g, 1, none⟩ = some (.string x.f1) := (blk_cell hgo 1).trans rfl
        obtain ⟨b, hb⟩ : ∃ b, eqB x.f0 key = b := ⟨_, rfl⟩
        have HKey := Aside0.mk (show Calls Tryd.prog 132 #[.pointer (some ⟨g, 0, none⟩), .string key] wr fun e w' => e = .returned (.bool b) ∧ wr = w' by rw [← hb]; exact isKey_any g _ key _ wr hgo HWx.out HA.out)
        have HTl := Aside0.mk (show (allVals (l.take j) key).length ≤ j from by have := allVals_len (l.take j) key; rw [List.length_take] at this; omega)
        rw [hb] at hst
        have HST := Aside0.mk hst
        have HI := Aside0.mk hlt
        clear hgo hg hK hb hst hx
        go_wp2_with fail
        refine HKey.out.mono ?_
        rintro e w' ⟨rfl, rfl⟩
        clear HKey
        cases b with
        | true =>
          have HST1 := Aside0.mk (HST.out.trans (if_pos rfl))
          go_wp2_with (first | ((with_reducible refine gate_builtin (b := .append) (xs := #[.tmp 18, .tmp 23]) rfl ?_); at_builtin; go_must (refine Kd.R_append Kd.string (w0 := w) w.heap.size rfl (.tmp 18) (.tmp 23) 64 9 (.string ⟨#[]⟩) 16 rfl Tryd.underlying64 infoS rfl (by decide) (by omega) u5 (allVals (l.take j) key) x.f1 [.string x.f1] (fun _ => True) (fun _ => False) rfl (by first | (go_simp; done) | (go_simp; rfl)) rfl (fun _ hk => hk.elim) (fun _ _ => trivial) HO.out HB.out (below_size HB.out) (all_room HTl.out HI.out hll) ?_); intro v3 wc ho hb hg hat; go_must (rw [← HST1.out] at ho); have HO3 := Aside0.mk ho; have HB3 := Aside0.mk hb; clear ho hb hg hat))
          go_roundg k1
          case measure => have := HK.out; omega
          case rel => exact ⟨j + 1, by go_num, HI.out, ⟨by have := HK.out; omega⟩, HO3, HB3⟩
        | false =>
          have HST2 := Aside0.mk (HST.out.trans (if_neg (by decide)))
          go_wp2
          go_roundg k1
          case measure => have := HK.out; omega
          case rel => exact ⟨j + 1, by go_num, HI.out, ⟨by have := HK.out; omega⟩, ⟨by rw [HST2.out]; exact HO.out⟩, HB⟩
      · have c5b0 : decide ((j : Int) < (l.length : Int)) = false := decide_eq_false (by omega)
        have HT := Aside0.mk (show l.take j = l from List.take_of_length_le (by omega))
        go_wp2
        go_ret
        exact ⟨_, rfl, by rw [← HT.out]; exact HO.out, HB.out⟩
end Go.Proofs.YtoofbppfbbhliaaDoor.confP
