/- config: a section is there, a part of one is there; a section is removed. -/
import Derived.Test.YtoofbppfbbhliaaDoorDropK
namespace Go.Proofs.YtoofbppfbbhliaaDoor.confD
open Go.RowKit Go.Proofs.YtoofbppfbbhliaaDoorW.PrintWords Go.Proofs.YtoofbppfbbhliaaDoorW.PrintLast Go.Proofs.YtoofbppfbbhliaaDoorW.PrintMore Go.Proofs.YtoofbppfbbhliaaDoor.PFnConfDrop Go.Proofs.YtoofbppfbbhliaaDoor.ptr
set_option linter.unusedVariables false
set_option linter.unusedSimpArgs false
set_option maxHeartbeats 2000000
set_option maxRecDepth 100000
theorem below_mono {b B : Nat} {w w' : World} (h : Below B w w') (hb : b ≤ B) : Below b w w' := ⟨h.os, h.tape, h.output, h.size, fun k hk => h.block k (Nat.lt_of_lt_of_le hk hb)⟩
theorem any_at {α : Type} {p : α → Bool} {l : List α} {j : Nat} (hj : j < l.length) (h : p l[j] = true) : l.any p = true := List.any_eq_true.2 ⟨_, List.getElem_mem hj, h⟩
theorem take_no {α : Type} {p : α → Bool} {l : List α} {j : Nat} (hj : j < l.length) (h1 : p l[j] = false) (h2 : ∀ o ∈ l.take j, p o = false) : ∀ o ∈ l.take (j + 1), p o = false := by
  intro o ho
  rw [take_snoc hj] at ho
  rcases List.mem_append.1 ho with ho | ho
  · exact h2 o ho
  · rw [List.mem_singleton.1 ho]; exact h1
theorem any_no {α : Type} {p : α → Bool} {l : List α} {j : Nat} (hj : ¬ j < l.length) (h : ∀ o ∈ l.take j, p o = false) : l.any p = false := by
  rw [List.take_of_length_le (by omega)] at h
  exact List.any_eq_false.2 (fun o ho => by simp [h o ho])
theorem hasSection_any (gc : Nat) (v : Value) (u0 u2 : Value) (l : List S71) (name : ByteArray) (base : Nat) (w : World) (hC : w.heap[gc]? = some (.cells #[u0, v, u2] 163 (0, 0))) (HO : Kd.R kP 122 w base (fun _ => True) v l)
    (hw : ∀ s ∈ l, Word s.f0) (ha : Word name) (hl : l.length ≤ 2147483647) :
    Calls Tryd.prog 73 #[.pointer (some ⟨gc, 0, none⟩), .string name] w fun e w' => e = .returned (.bool (l.any fun s => eqB s.f0 name)) ∧ w = w' := by
  have hcv : w.cell? ⟨gc, 1, none⟩ = some v := (blk_cell hC 1).trans rfl
  obtain ⟨A, c, ev, hc, _⟩ := Kd.R_reads HO
  subst ev
  have HR := Aside0.mk HO
  have HW := Aside0.mk hw
  have HA := Aside0.mk ha
  clear HO hC hw ha
  go_enter Tryd.func73, Tryd.ntmps73
  go_wp2
  go_loopg [12] (l.length + 1) (fun kq v12 w' => ∃ (j : Nat), v12 = .int .i64 (j : Int) ∧ j ≤ l.length ∧ Aside0 (kq + j = l.length + 1) ∧ Aside0 (∀ o ∈ l.take j, eqB o.f0 name = false) ∧ Aside0 (w = w'))
  case atStart => exact ⟨0, rfl, Nat.zero_le _, ⟨by omega⟩, ⟨by intro o ho; simp at ho⟩, ⟨rfl⟩⟩
  case round =>
    obtain ⟨j, rfl, hj, HK, HN, HWW⟩ := hrel
    obtain rfl := HWW.out
    cases gk with
    | zero => exact absurd HK.out (by omega)
    | succ k1 =>
      by_cases hlt : j < l.length
      · have p150 : 0 ≤ (j : Int) := by omega
        have q150 : (j : Int) < (l.length : Int) := by omega
        have c5b0 : decide ((j : Int) < (l.length : Int)) = true := decide_eq_true q150
        obtain ⟨ad, c', g, arr, e0, _, hcl, _, hgb, hg, hM⟩ := at_ptrM HR.out j hlt
        injection e0 with e0 _ ec
        subst e0
        subst ec
        have HG := Aside0.mk hg
        have HM := Aside0.mk (kSec.M_mono (fun k hk => hk.2) hM : kSec.M w base (fun k => k ≠ g) l[j] arr.toList)
        obtain ⟨b, hb⟩ : ∃ b, eqB (l[j]).f0 name = b := ⟨_, rfl⟩
        have HKey := Aside0.mk (show Calls Tryd.prog 100 #[.pointer (some ⟨g, 0, none⟩), .string name] w fun e w' => e = .returned (.bool b) ∧ w = w' by
          rw [← hb]
          obtain ⟨_, _, ea, _, _⟩ := kSec_openM HM.out
          obtain ⟨arr⟩ := arr
          simp only at ea
          subst ea
          exact secName_any g _ name _ _ w HG.out (HW.out _ (List.getElem_mem hlt)) HA.out)
        have HBB := Aside0.mk hb
        have HI := Aside0.mk hlt
        clear hgb hg hM hb
        go_wp2_with fail
        refine HKey.out.mono ?_
        rintro e w' ⟨rfl, rfl⟩
        clear HKey
        cases b with
        | true =>
          go_wp2
          go_ret
          exact ⟨by rw [any_at (p := fun s => eqB s.f0 name) HI.out HBB.out]; rfl, rfl⟩
        | false =>
          go_wp2
          go_roundg k1
          case measure => have := HK.out; omega
          case rel => exact ⟨j + 1, by go_num, HI.out, ⟨by have := HK.out; omega⟩, ⟨take_no (p := fun s => eqB s.f0 name) HI.out HBB.out HN.out⟩, ⟨rfl⟩⟩
      · have c5b0 : decide ((j : Int) < (l.length : Int)) = false := decide_eq_false (by omega)
        have HX := Aside0.mk (any_no (p := fun s => eqB s.f0 name) hlt HN.out)
        go_wp2
        go_ret
        exact ⟨by rw [HX.out]; rfl, rfl⟩
theorem hasSubsection_any (gc : Nat) (v : Value) (u0 u1 : Value) (l : List S115) (name : ByteArray) (base : Nat) (ok : Nat → Prop) (w : World) (hC : w.heap[gc]? = some (.cells #[u0, u1, v] 169 (0, 0))) (HO : Kd.R kU 155 w base ok v l)
    (hl : l.length ≤ 2147483647) :
    Calls Tryd.prog 75 #[.pointer (some ⟨gc, 0, none⟩), .string name] w fun e w' => e = .returned (.bool (l.any fun s => eqB s.f0 name)) ∧ w = w' := by
  have hcv : w.cell? ⟨gc, 2, none⟩ = some v := (blk_cell hC 2).trans rfl
  obtain ⟨A, c, ev, hc, _⟩ := Kd.R_reads HO
  subst ev
  have HR := Aside0.mk HO
  clear HO hC
  go_enter Tryd.func75, Tryd.ntmps75
  go_wp2
  go_loopg [12] (l.length + 1) (fun kq v12 w' => ∃ (j : Nat), v12 = .int .i64 (j : Int) ∧ j ≤ l.length ∧ Aside0 (kq + j = l.length + 1) ∧ Aside0 (∀ o ∈ l.take j, eqB o.f0 name = false) ∧ Aside0 (w = w'))
  case atStart => exact ⟨0, rfl, Nat.zero_le _, ⟨by omega⟩, ⟨by intro o ho; simp at ho⟩, ⟨rfl⟩⟩
  case round =>
    obtain ⟨j, rfl, hj, HK, HN, HWW⟩ := hrel
    obtain rfl := HWW.out
    cases gk with
    | zero => exact absurd HK.out (by omega)
    | succ k1 =>
      by_cases hlt : j < l.length
      · have p150 : 0 ≤ (j : Int) := by omega
        have q150 : (j : Int) < (l.length : Int) := by omega
        have c5b0 : decide ((j : Int) < (l.length : Int)) = true := decide_eq_true q150
        obtain ⟨ad, c', g, arr, e0, _, hcl, _, hgb, hg, hM⟩ := at_ptrM HR.out j hlt
        injection e0 with e0 _ ec
        subst e0
        subst ec
        have HG := Aside0.mk hg
        have HM := Aside0.mk (kSub.M_mono (fun k hk => hk.2) hM : kSub.M w base (fun k => k ≠ g) l[j] arr.toList)
        obtain ⟨b, hb⟩ : ∃ b, eqB (l[j]).f0 name = b := ⟨_, rfl⟩
        have HKey := Aside0.mk (show Calls Tryd.prog 101 #[.pointer (some ⟨g, 0, none⟩), .string name] w fun e w' => e = .returned (.bool b) ∧ w = w' by
          rw [← hb]
          obtain ⟨_, ea, _⟩ := kSub_openM HM.out
          obtain ⟨arr⟩ := arr
          simp only at ea
          subst ea
          exact subName_any g _ name _ w HG.out)
        have HBB := Aside0.mk hb
        have HI := Aside0.mk hlt
        clear hgb hg hM hb
        go_wp2_with fail
        refine HKey.out.mono ?_
        rintro e w' ⟨rfl, rfl⟩
        clear HKey
        cases b with
        | true =>
          go_wp2
          go_ret
          exact ⟨by rw [any_at (p := fun s => eqB s.f0 name) HI.out HBB.out]; rfl, rfl⟩
        | false =>
          go_wp2
          go_roundg k1
          case measure => have := HK.out; omega
          case rel => exact ⟨j + 1, by go_num, HI.out, ⟨by have := HK.out; omega⟩, ⟨take_no (p := fun s => eqB s.f0 name) HI.out HBB.out HN.out⟩, ⟨rfl⟩⟩
      · have c5b0 : decide ((j : Int) < (l.length : Int)) = false := decide_eq_false (by omega)
        have HX := Aside0.mk (any_no (p := fun s => eqB s.f0 name) hlt HN.out)
        go_wp2
        go_ret
        exact ⟨by rw [HX.out]; rfl, rfl⟩
/-- A configuration whose sections are these. -/
def Holds (gc base : Nat) (u0 u2 : Value) (w : World) (l : List S71) (e : Ending) (w' : World) : Prop := ∃ v', e = .returned (.pointer (some ⟨gc, 0, none⟩)) ∧ w'.heap[gc]? = some (.cells #[u0, v', u2] 163 (0, 0)) ∧ Kd.R kP 122 w' base (fun _ => True) v' l ∧ Below base w w'
theorem kP_E : ∀ q ∈ kP.E, 122 ≠ q := by decide
theorem filter_take {α : Type} {p : α → Bool} {l : List α} {j : Nat} (hj : j < l.length) : (l.take (j + 1)).filter p = if p l[j] = true then (l.take j).filter p ++ [l[j]] else (l.take j).filter p := by
  rw [take_snoc hj, List.filter_append]
  by_cases h : p l[j] = true
  · rw [if_pos h]; simp [h]
  · rw [if_neg h]; simp [h]
theorem keeps_len {α : Type} {p : α → Bool} {l : List α} {j : Nat} (hl : l.length ≤ 2147483647) : ((l.take j).filter p).length ≤ 2147483647 := Nat.le_trans (List.length_filter_le _ _) (by rw [List.length_take]; omega)
theorem nil_R (w : World) (base : Nat) (h : base ≤ w.heap.size) : Kd.R kP 122 (w.alloc (.cells #[] 122)) base (fun _ => True) (.slice (some ⟨w.heap.size, 0, none⟩) 0 0) [] :=
  ⟨fun _ _ => trivial, [], own_lit_of (enc := Value.string) w base 122 [] h (by simp), Reps.none _ _⟩
theorem old_P {w : World} {base g : Nat} {arr : Array Value} {s : S71} {ok : Nat → Prop} (hgb : base ≤ g) (hg : w.heap[g]? = some (.cells arr 169 (0, 0))) (hM : kSec.M w base (fun k => ok k ∧ k ≠ g) s arr.toList) :
    kP.M w base (fun k => ∃ q, q ∈ kP.E ∧ ∃ cells, w.heap[k]? = some (.cells cells q (0, 0))) s [.pointer (some ⟨g, 0, none⟩)] :=
  kP.M_mono (fun k hk => hk.2.2.2) (kP.M_bound (show kP.M w base (fun _ => True) s [.pointer (some ⟨g, 0, none⟩)] from ⟨g, arr, rfl, trivial, hgb, hg, kSec.M_mono (fun k hk => ⟨trivial, hk.2⟩) hM⟩))
theorem removeSection_any (gc : Nat) (v : Value) (u0 u2 : Value) (l : List S71) (name : ByteArray) (base : Nat) (w : World) (hbase : base ≤ w.heap.size) (hgb : base ≤ gc) (hC : w.heap[gc]? = some (.cells #[u0, v, u2] 163 (0, 0))) (HO : Kd.R kP 122 w base (fun _ => True) v l)
    (hw : ∀ s ∈ l, Word s.f0) (ha : Word name) (hl : l.length ≤ 2147483647) :
    Calls Tryd.prog 70 #[.pointer (some ⟨gc, 0, none⟩), .string name] w (Holds gc base u0 u2 w (l.filter fun s => !eqB s.f0 name)) := by
  obtain ⟨A, c, ev, hc, _⟩ := Kd.R_reads HO
  subst ev
  have HR := Aside0.mk HO
  have HCB := Aside0.mk hC
  have HW := Aside0.mk hw
  have HA := Aside0.mk ha
  have HBS := Aside0.mk hbase
  have HGB := Aside0.mk hgb
  have hcv : (w.alloc (.cells #[] 122)).cell? ⟨gc, 1, none⟩ = some (.slice A l.length c) := (blk_cell (blk_alloc hC _) 1).trans rfl
  have H0 := Aside0.mk (nil_R w base hbase)
  have HB0 := Aside0.mk (below_alloc (Below.refl w.heap.size w) (.cells #[] 122))
  clear HO hC hw ha hbase hgb
  go_enter Tryd.func70, Tryd.ntmps70
  go_wp2_with fail
  clear hcv
  go_loopg [5, 14] (l.length + 1) (fun kq v5 v14 w' => ∃ (j : Nat), v14 = .int .i64 (j : Int) ∧ j ≤ l.length ∧ Aside0 (kq + j = l.length + 1) ∧ Aside0 (Kd.R kP 122 w' base (fun _ => True) v5 ((l.take j).filter fun s => !eqB s.f0 name)) ∧ Aside0 (∀ k, v5.ownBlock = some k → w.heap.size ≤ k) ∧ Aside0 (Below w.heap.size w w'))
  case atStart => exact ⟨0, rfl, Nat.zero_le _, ⟨by omega⟩, H0, ⟨by intro k hk; simp only [Value.ownBlock, Option.some.injEq] at hk; omega⟩, HB0⟩
  case round =>
    clear H0 HB0
    obtain ⟨j, rfl, hj, HK, HO, HOB, HB⟩ := hrel
    cases gk with
    | zero => exact absurd HK.out (by omega)
    | succ k1 =>
      obtain ⟨xs, hxs⟩ : ∃ xs, ((l.take j).filter fun s => !eqB s.f0 name) = xs := ⟨_, rfl⟩
      rw [hxs] at HO
      by_cases hlt : j < l.length
      · have p150 : 0 ≤ (j : Int) := by omega
        have q150 : (j : Int) < (l.length : Int) := by omega
        have c5b0 : decide ((j : Int) < (l.length : Int)) = true := decide_eq_true q150
        have HRr := Aside0.mk (Kd.R_below HR.out HB.out)
        obtain ⟨ad, c', g, arr, e0, _, hcl, _, hgb, hg, hM⟩ := at_ptrM HRr.out j hlt
        injection e0 with e0 _ ec
        subst e0
        subst ec
        have HG := Aside0.mk hg
        obtain ⟨s, hs⟩ : ∃ s, l[j] = s := ⟨_, rfl⟩
        rw [hs] at hM
        have HWs := Aside0.mk (show Word s.f0 by rw [← hs]; exact HW.out _ (List.getElem_mem hlt))
        have HP := Aside0.mk (old_P hgb hg hM)
        have HM := Aside0.mk (kSec.M_mono (fun k hk => hk.2) hM : kSec.M wr base (fun k => k ≠ g) s arr.toList)
        have HFT := Aside0.mk (filter_take (p := fun s => !eqB s.f0 name) hlt)
        rw [hs, hxs] at HFT
        have HXL := Aside0.mk (show xs.length ≤ 2147483647 by rw [← hxs]; exact keeps_len hl)
        obtain ⟨b, hb⟩ : ∃ b, eqB s.f0 name = b := ⟨_, rfl⟩
        have HKey := Aside0.mk (show Calls Tryd.prog 100 #[.pointer (some ⟨g, 0, none⟩), .string name] wr fun e w' => e = .returned (.bool b) ∧ wr = w' by
          rw [← hb]
          obtain ⟨_, _, ea, _, _⟩ := kSec_openM HM.out
          obtain ⟨arr⟩ := arr
          simp only at ea
          subst ea
          exact secName_any g _ name _ _ wr HG.out HWs.out HA.out)
        rw [hb] at HFT
        have HI := Aside0.mk hlt
        have HBb := Aside0.mk (below_mono HB.out HBS.out)
        obtain ⟨A3, c3, e3⟩ := Kd.R_slice HO.out
        subst e3
        clear hgb hg hM hb hs hxs
        go_wp2_with fail
        refine HKey.out.mono ?_
        rintro e w' ⟨rfl, rfl⟩
        clear HKey
        cases b with
        | true =>
          go_wp2
          go_roundg k1
          case measure => have := HK.out; omega
          case rel => exact ⟨j + 1, by go_num, HI.out, ⟨by have := HK.out; omega⟩, ⟨by rw [HFT.out]; exact HO.out⟩, HOB, HB⟩
        | false =>
          go_wp2_with (first | ((with_reducible refine gate_builtin (b := .append) (xs := #[.tmp 22, .tmp 24]) rfl ?_); at_builtin; go_must (refine Kd.R_append kP (w0 := w) base rfl (.tmp 22) (.tmp 24) 159 122 (.pointer none) 8 rfl Tryd.underlying159 infoQ rfl (by decide) (by omega) (.slice A3 xs.length c3) xs s [.pointer (some ⟨g, 0, none⟩)] (fun _ => True) (fun k => ∃ q, q ∈ kP.E ∧ ∃ cells, wr.heap[k]? = some (.cells cells q (0, 0))) rfl (by first | (go_simp; done) | (go_simp; rfl)) HP.out (fun k ⟨q, hq, cells, hk⟩ => ⟨trivial, Kd.R_ne HO.out hk (kP_E q hq)⟩) (fun _ _ => trivial) HO.out HBb.out (Nat.le_trans HBS.out HB.out.size) (sub_room HXL.out) ?_); intro v5 w5 ho hb hg hat; have HO5 := Aside0.mk ho; have HB5 := Aside0.mk (pw_below_grown HB.out _ HB.out.size hg HOB.out); have HT5 := Aside0.mk (show ∀ k, v5.ownBlock = some k → w.heap.size ≤ k from fun k hk => by rcases hat with h | ⟨b, h, h2⟩; exact HOB.out k (h ▸ hk); exact Nat.le_trans HB.out.size (by rw [hk] at h; injection h with h; omega)); clear ho hb hg hat) | fail)
          go_roundg k1
          case measure => have := HK.out; omega
          case rel => exact ⟨j + 1, by go_num, HI.out, ⟨by have := HK.out; omega⟩, ⟨by rw [HFT.out]; exact HO5.out⟩, HT5, HB5⟩
      · have c5b0 : decide ((j : Int) < (l.length : Int)) = false := decide_eq_false (by omega)
        have HT := Aside0.mk (show (l.filter fun s => !eqB s.f0 name) = xs by rw [← hxs, List.take_of_length_le (by omega)])
        have HC1 := Aside0.mk ((HB.out.block gc (blk_lt HCB.out)).trans HCB.out)
        have n1 : wr.cell? ⟨gc, 1, none⟩ = some (.slice A l.length c) := (blk_cell HC1.out 1).trans rfl
        have nf := blk_frozen HC1.out 1
        obtain ⟨A3, c3, e3⟩ := Kd.R_slice HO.out
        subst e3
        clear hxs
        go_wp2
        go_ret
        exact ⟨_, rfl, blk_put (cs := #[u0, .slice A l.length c, u2]) HC1.out 1 _ rfl, by rw [HT.out]; exact Kd.R_set HO.out HC1.out (by decide) 1 _, (below_mono HB.out HBS.out).setCell (by exact HGB.out) _⟩
end Go.Proofs.YtoofbppfbbhliaaDoor.confD
