/- config: sections, found or made, told with sections that keep apart. -/
import Derived.Test.YtoofbppfbbhliaaDoorPudC
import Derived.Test.YtoofbppfbbhliaaDoorSepB
import Derived.Test.YtoofbppfbbhliaaDoorPutD
namespace Go.Proofs.YtoofbppfbbhliaaDoor.confP
open Go.RowKit Go.Proofs.YtoofbppfbbhliaaDoorW.PrintWords Go.Proofs.YtoofbppfbbhliaaDoorW.PrintLast Go.Proofs.YtoofbppfbbhliaaDoorW.PrintMore Go.Proofs.YtoofbppfbbhliaaDoor.PFnConfAdd Go.Proofs.YtoofbppfbbhliaaDoor.ptr
set_option linter.unusedVariables false
set_option linter.unusedSimpArgs false
set_option maxHeartbeats 2000000
set_option maxRecDepth 100000
theorem cell_same {w w' : World} {p : Addr} (h : w'.heap[p.block]? = w.heap[p.block]?) : w'.cell? p = w.cell? p := by unfold World.cell?; rw [h]
theorem add_block (a : Addr) (n : Nat) : (a.add n).block = a.block := by unfold Addr.add; split <;> rfl
/-- The list with the element that is so (the last one), or with a new one behind it; and its place. -/
def Placed {α : Type} (p : α → Bool) (d : α) (l l' : List α) (j : Nat) : Prop := (l' = l ∧ ∃ h : j < l.length, p l[j] = true ∧ ∀ o ∈ l.drop (j + 1), p o = false) ∨ (l' = l ++ [d] ∧ j = l.length ∧ ∀ o ∈ l, p o = false)
theorem Placed.lt {α : Type} {p : α → Bool} {d : α} {l l' : List α} {j : Nat} (h : Placed p d l l' j) : j < l'.length := by
  rcases h with ⟨rfl, h, _⟩ | ⟨rfl, rfl, _⟩
  · exact h
  · simp
/-- The section that is found or made, in its configuration. -/
def FoundSec (gc base : Nat) (u0 u2 : Value) (w : World) (l : List S71) (name : ByteArray) (e : Ending) (w' : World) : Prop := ∃ g v' l' j ad cap, e = .returned (.pointer (some ⟨g, 0, none⟩)) ∧ Placed (fun s : S71 => eqB s.f0 name) ⟨name, [], []⟩ l l' j ∧ w'.heap[gc]? = some (.cells #[u0, v', u2] 163 (0, 0)) ∧
  Kd.S kPS 122 w' base (fun _ => True) v' l' ∧ v' = .slice (some ad) l'.length cap ∧ w'.cell? (ad.add j) = some (.pointer (some ⟨g, 0, none⟩)) ∧ Below base w w'
theorem sectionS_any (gc : Nat) (v : Value) (u0 u2 : Value) (l : List S71) (name : ByteArray) (base : Nat) (w : World) (hbase : base ≤ w.heap.size) (hgb : base ≤ gc) (hC : w.heap[gc]? = some (.cells #[u0, v, u2] 163 (0, 0))) (HO : Kd.S kPS 122 w base (fun _ => True) v l)
    (hw : ∀ s ∈ l, Word s.f0) (ha : Word name) (hl : l.length ≤ 4294967295) :
    Calls Tryd.prog 74 #[.pointer (some ⟨gc, 0, none⟩), .string name] w (FoundSec gc base u0 u2 w l name) := by
  have hcv : w.cell? ⟨gc, 1, none⟩ = some v := (blk_cell hC 1).trans rfl
  have hw0 : wrap64 ((l.length : Int) - 1) = (l.length : Int) - 1 := w64 (by omega) (by omega)
  obtain ⟨A, c, ev, hc, _⟩ := Kd.S_reads HO
  subst ev
  have HR := Aside0.mk HO
  have HBK := Aside0.mk hC
  have HW := Aside0.mk hw
  have HA := Aside0.mk ha
  have HBS := Aside0.mk hbase
  have HGB := Aside0.mk hgb
  clear HO hC hbase hgb hw ha
  go_enter Tryd.func74, Tryd.ntmps74
  go_wp2
  go_loopg [5] (l.length + 1) (fun kq v5 w' => ∃ (x : Int) (j : Nat), v5 = .int .i64 x ∧ -1 ≤ x ∧ x < (l.length : Int) ∧ Aside0 (x + 1 = (j : Int)) ∧ Aside0 (kq = j + 1) ∧ Aside0 (∀ o ∈ l.drop j, eqB o.f0 name = false) ∧ Aside0 (w = w'))
  case atStart => exact ⟨_, l.length, rfl, by omega, by omega, ⟨by omega⟩, ⟨rfl⟩, ⟨by rw [List.drop_length]; intro o ho; cases ho⟩, ⟨rfl⟩⟩
  case round =>
    clear hw0
    obtain ⟨x, j, rfl, hx1, hx2, HJ, HK, HN, HWW⟩ := hrel
    obtain rfl := HWW.out
    cases gk with
    | zero => exact absurd HK.out (by omega)
    | succ k1 =>
      by_cases h0 : 0 ≤ x
      · have d1 : decide (0 ≤ x) = true := decide_eq_true h0
        obtain ⟨i, hi⟩ : ∃ i : Nat, x = (i : Int) := ⟨x.toNat, by omega⟩
        subst hi
        have hil : i < l.length := by omega
        obtain rfl : j = i + 1 := by have := HJ.out; omega
        obtain ⟨ad, c', g, arr, e0, _, hcl, _, hgb, hg, hM⟩ := at_ptrM (Kd.S_R HR.out) i hil
        injection e0 with e0 _ ec
        subst e0
        subst ec
        have HG := Aside0.mk hg
        have hw1 : wrap64 ((i : Int) - 1) = (i : Int) - 1 := w64 (by omega) (by omega)
        obtain ⟨b, hb⟩ : ∃ b, eqB (l[i]).f0 name = b := ⟨_, rfl⟩
        have HKey := Aside0.mk (show Calls Tryd.prog 100 #[.pointer (some ⟨g, 0, none⟩), .string name] w fun e w' => e = .returned (.bool b) ∧ w = w' by
          rw [← hb]
          obtain ⟨_, _, _, ea, _, _⟩ := kSecS_openM hM
          obtain ⟨arr⟩ := arr
          simp only at ea
          subst ea
          exact secName_any g _ name _ _ w HG.out (HW.out _ (List.getElem_mem hil)) HA.out)
        have HBB := Aside0.mk hb
        have HI := Aside0.mk hil
        have HCL := Aside0.mk hcl
        clear hgb hg hM hb
        go_wp2_with fail
        refine HKey.out.mono ?_
        rintro e w' ⟨rfl, rfl⟩
        clear HKey
        cases b with
        | true =>
          go_wp2
          go_ret
          exact ⟨g, .slice (some ad) l.length c, l, i, ad, c, rfl, .inl ⟨rfl, HI.out, HBB.out, HN.out⟩, HBK.out, HR.out, rfl, HCL.out, Below.refl _ _⟩
        | false =>
          go_wp2
          go_roundg k1
          case measure => have := HK.out; omega
          case rel => exact ⟨_, i, rfl, by omega, by omega, ⟨by omega⟩, ⟨by have := HK.out; omega⟩, ⟨drop_no (p := fun s => eqB s.f0 name) HI.out HBB.out HN.out⟩, ⟨rfl⟩⟩
      · have d1 : decide (0 ≤ x) = false := decide_eq_false h0
        obtain rfl : x = -1 := by omega
        obtain rfl : j = 0 := by have := HJ.out; omega
        have HLL := Aside0.mk hl
        go_wp2_with (first | ((with_reducible refine gate_dst (N := 31) rfl ?_); refine box_event ?hg8 (N := 31) ?hd8 (cs := #[.string name, .slice none 0 0, .slice none 0 0]) (t := 169) ?hr8 ?_; (case hd8 => rfl); (case hg8 => rfl); (case hr8 => first | (go_simp; done) | (go_simp; rfl)); intro g3 hg3 wb hbox hb; have HBb := Aside0.mk hb; have GE3 := Aside0.mk (show base ≤ g3 by rw [hg3]; exact HBS.out); have BK3 := Aside0.mk hbox; have HRb := Aside0.mk (Kd.S_below (Kd.S_mono (Kd.S_bound HR.out) (fun k hk => ⟨trivial, by rw [hg3]; exact Nat.ne_of_lt hk.2.2.1⟩) : Kd.S kPS 122 w base (fun k => True ∧ ¬ k = g3) _ _) hb); have HCb := Aside0.mk ((hb.block gc (blk_lt HBK.out)).trans HBK.out); have hcv2 : wb.cell? ⟨gc, 1, none⟩ = some (.slice A l.length c) := (blk_cell HCb.out 1).trans rfl; have HBX := Aside0.mk ((⟨hb.os, hb.tape, hb.output, hb.size, fun i hi => hb.block i (Nat.lt_of_lt_of_le hi HBS.out)⟩ : Below base w wb)); have HSZ := Aside0.mk (Nat.le_trans HBS.out hb.size); clear hbox hb hg3) | ((with_reducible refine gate_builtin (b := .append) (xs := #[.tmp 36, .tmp 38]) rfl ?_); at_builtin; go_must (refine S_append_at kPS (w0 := w) base rfl (.tmp 36) (.tmp 38) 159 122 (.pointer none) 8 rfl Tryd.underlying159 infoQ rfl (by decide) (by omega) (.slice A l.length c) l (⟨name, [], []⟩ : S71) [.pointer (some ⟨g3, 0, none⟩)] (fun _ => True) (fun k => k = g3) rfl (by first | (go_simp; done) | (go_simp; rfl)) ⟨g3, _, rfl, rfl, GE3.out, BK3.out, kSecS_mkM (p := fun _ => True) (Kd.R_nil _ _ _ _ _) (Kd.S_nil _ _ _ _ _)⟩ (fun k hk => by rw [hk]; exact ⟨trivial, Kd.S_ne HRb.out BK3.out (by decide)⟩) (fun _ _ => trivial) HRb.out HBX.out HSZ.out (sub_room HLL.out) ?_); intro v5 w5 ho hcell hb hg hat; obtain ⟨ad5, c5, e5, hcell⟩ := hcell; subst e5; have HO5 := Aside0.mk ho; have HCE := Aside0.mk (hcell 0 _ rfl); have BC5 := Aside0.mk (blk_grown HCb.out hg (Kd.S_ne HRb.out HCb.out (by decide))); have HB5 := Aside0.mk hb; clear ho hb hg hat hcell; have n1 : w5.cell? ⟨gc, 1, none⟩ = some (.slice A l.length c) := (blk_cell BC5.out 1).trans rfl; have nf := blk_frozen BC5.out 1) | fail)
        go_ret
        have HNE : ad5.block ≠ gc := fun he => by
          obtain ⟨gr, _, e1, _, _, cells, hcs⟩ := Kd.S_form HO5.out (by simp)
          injection e1 with e1 _ _
          injection e1 with e1
          subst e1
          have : gr = gc := he
          subst this
          have := BC5.out.symm.trans hcs
          simp at this
        refine ⟨g3, _, l ++ [⟨name, [], []⟩], l.length, ad5, c5, rfl, .inr ⟨rfl, rfl, by simpa using HN.out⟩, blk_put (cs := #[u0, .slice A l.length c, u2]) BC5.out 1 _ rfl, Kd.S_set HO5.out BC5.out (by decide) 1 _, by simp, ?_, HB5.out.setCell (by exact HGB.out) _⟩
        refine (cell_same (Below.heap_setCell w5 ⟨gc, 1, none⟩ _ _ (by rw [add_block]; exact HNE))).trans ?_
        have := HCE.out
        rwa [show l.length * kPS.sz + 0 = l.length from by show l.length * 1 + 0 = l.length; omega] at this
end Go.Proofs.YtoofbppfbbhliaaDoor.confP
