/- config: sections and their parts, found or made. -/
import Derived.Test.YtoofbppfbbhliaaDoorPutC
namespace Go.Proofs.YtoofbppfbbhliaaDoor.confP
open Go.RowKit Go.Proofs.YtoofbppfbbhliaaDoorW.PrintWords Go.Proofs.YtoofbppfbbhliaaDoorW.PrintLast Go.Proofs.YtoofbppfbbhliaaDoorW.PrintMore Go.Proofs.YtoofbppfbbhliaaDoor.PFnConfAdd Go.Proofs.YtoofbppfbbhliaaDoor.ptr
set_option linter.unusedVariables false
set_option linter.unusedSimpArgs false
set_option maxHeartbeats 2000000
set_option maxRecDepth 100000
/-- A pointer to a block of the call's own, that reads so. -/
def Found {α : Type} (kd : Kd α) (t : Nat) (base : Nat) (w : World) (x : α) (e : Ending) (w' : World) : Prop := ∃ g arr, e = .returned (.pointer (some ⟨g, 0, none⟩)) ∧ base ≤ g ∧ w'.heap[g]? = some (.cells arr t (0, 0)) ∧ kd.M w' base (fun k => k ≠ g) x arr.toList ∧ Below base w w'
/-- The last section with a name, or a new one. -/
def secOf (l : List S71) (name : ByteArray) : S71 := lastD (fun s => eqB s.f0 name) ⟨name, [], []⟩ l
def subOf (l : List S115) (name : ByteArray) : S115 := lastD (fun s => eqB s.f0 name) ⟨name, []⟩ l
theorem section_any (gc : Nat) (v : Value) (u0 u2 : Value) (l : List S71) (name : ByteArray) (base : Nat) (w : World) (hbase : base ≤ w.heap.size) (hgb : base ≤ gc) (hC : w.heap[gc]? = some (.cells #[u0, v, u2] 163 (0, 0))) (HO : Kd.R kP 122 w base (fun _ => True) v l)
    (hw : ∀ s ∈ l, Word s.f0) (ha : Word name) (hl : l.length ≤ 4294967295) :
    Calls Tryd.prog 74 #[.pointer (some ⟨gc, 0, none⟩), .string name] w (Found kSec 169 base w (secOf l name)) := by
  have hcv : w.cell? ⟨gc, 1, none⟩ = some v := (blk_cell hC 1).trans rfl
  have hw0 : wrap64 ((l.length : Int) - 1) = (l.length : Int) - 1 := w64 (by omega) (by omega)
  obtain ⟨A, c, ev, hc, _⟩ := Kd.R_reads HO
  subst ev
  have HR := Aside0.mk HO
  have HBK := Aside0.mk hC
  have HW := Aside0.mk hw
  have HA := Aside0.mk ha
  have HBS := Aside0.mk hbase
  have HGB := Aside0.mk hgb
  clear HO hC hbase hgb hw ha
  go_enter Tryd.func74, Tryd.ntmps74
  go_wp2
  go_loopg [5] (l.length + 1) (fun kq v5 w' => ∃ (x : Int) (j : Nat), v5 = .int .i64 x ∧ -1 ≤ x ∧ x < (l.length : Int) ∧ Aside0 (x + 1 = (j : Int)) ∧ Aside0 (kq = j + 1) ∧ Aside0 (∀ o ∈ l.drop j, eqB o.f0 name = false) ∧ Aside0 (w = w'))
  case atStart => exact ⟨_, l.length, rfl, by omega, by omega, ⟨by omega⟩, ⟨rfl⟩, ⟨by rw [List.drop_length]; intro o ho; cases ho⟩, ⟨rfl⟩⟩
  case round =>
    clear hw0
    obtain ⟨x, j, rfl, hx1, hx2, HJ, HK, HN, HWW⟩ := hrel
    obtain rfl := HWW.out
    cases gk with
    | zero => exact absurd HK.out (by omega)
    | succ k1 =>
      by_cases h0 : 0 ≤ x
      · have d1 : decide (0 ≤ x) = true := decide_eq_true h0
        obtain ⟨i, hi⟩ : ∃ i : Nat, x = (i : Int) := ⟨x.toNat, by omega⟩
        subst hi
        have hil : i < l.length := by omega
        obtain rfl : j = i + 1 := by have := HJ.out; omega
        obtain ⟨ad, c', g, arr, e0, _, hcl, _, hgb, hg, hM⟩ := at_ptrM HR.out i hil
        injection e0 with e0 _ ec
        subst e0
        subst ec
        have HGG := Aside0.mk hgb
        have HG := Aside0.mk hg
        have HM := Aside0.mk (kSec.M_mono (fun k hk => hk.2) hM : kSec.M w base (fun k => k ≠ g) l[i] arr.toList)
        have hw1 : wrap64 ((i : Int) - 1) = (i : Int) - 1 := w64 (by omega) (by omega)
        obtain ⟨b, hb⟩ : ∃ b, eqB (l[i]).f0 name = b := ⟨_, rfl⟩
        have HKey := Aside0.mk (show Calls Tryd.prog 100 #[.pointer (some ⟨g, 0, none⟩), .string name] w fun e w' => e = .returned (.bool b) ∧ w = w' by
          rw [← hb]
          obtain ⟨_, _, ea, _, _⟩ := kSec_openM HM.out
          obtain ⟨arr⟩ := arr
          simp only at ea
          subst ea
          exact secName_any g _ name _ _ w HG.out (HW.out _ (List.getElem_mem hil)) HA.out)
        have HBB := Aside0.mk hb
        have HI := Aside0.mk hil
        clear hgb hg hM hb
        go_wp2_with fail
        refine HKey.out.mono ?_
        rintro e w' ⟨rfl, rfl⟩
        clear HKey
        cases b with
        | true =>
          go_wp2
          go_ret
          exact ⟨g, arr, rfl, HGG.out, HG.out, by rw [show secOf l name = l[i] from lastD_at HI.out HBB.out HN.out]; exact HM.out, Below.refl _ _⟩
        | false =>
          go_wp2
          go_roundg k1
          case measure => have := HK.out; omega
          case rel => exact ⟨_, i, rfl, by omega, by omega, ⟨by omega⟩, ⟨by have := HK.out; omega⟩, ⟨drop_no (p := fun s => eqB s.f0 name) HI.out HBB.out HN.out⟩, ⟨rfl⟩⟩
      · have d1 : decide (0 ≤ x) = false := decide_eq_false h0
        obtain rfl : x = -1 := by omega
        obtain rfl : j = 0 := by have := HJ.out; omega
        have HLL := Aside0.mk hl
        go_wp2_with (first | ((with_reducible refine gate_dst (N := 31) rfl ?_); refine box_event ?hg8 (N := 31) ?hd8 (cs := #[.string name, .slice none 0 0, .slice none 0 0]) (t := 169) ?hr8 ?_; (case hd8 => rfl); (case hg8 => rfl); (case hr8 => first | (go_simp; done) | (go_simp; rfl)); intro g3 hg3 wb hbox hb; have HBb := Aside0.mk hb; have GE3 := Aside0.mk (show base ≤ g3 by rw [hg3]; exact HBS.out); have BK3 := Aside0.mk hbox; have HRb := Aside0.mk (Kd.R_below HR.out hb); have HCb := Aside0.mk ((hb.block gc (blk_lt HBK.out)).trans HBK.out); have hcv2 : wb.cell? ⟨gc, 1, none⟩ = some (.slice A l.length c) := (blk_cell HCb.out 1).trans rfl; have HBX := Aside0.mk ((⟨hb.os, hb.tape, hb.output, hb.size, fun i hi => hb.block i (Nat.lt_of_lt_of_le hi HBS.out)⟩ : Below base w wb)); have HSZ := Aside0.mk (Nat.le_trans HBS.out hb.size); clear hbox hb hg3) | ((with_reducible refine gate_builtin (b := .append) (xs := #[.tmp 36, .tmp 38]) rfl ?_); at_builtin; go_must (refine Kd.R_append kP (w0 := w) base rfl (.tmp 36) (.tmp 38) 159 122 (.pointer none) 8 rfl Tryd.underlying159 infoQ rfl (by decide) (by omega) (.slice A l.length c) l (⟨name, [], []⟩ : S71) [.pointer (some ⟨g3, 0, none⟩)] (fun _ => True) (fun k => k = g3) rfl (by first | (go_simp; done) | (go_simp; rfl)) ⟨g3, _, rfl, rfl, GE3.out, BK3.out, kSec_mkM (Kd.R_nil _ _ _ _ _) (Kd.R_nil _ _ _ _ _)⟩ (fun k hk => by rw [hk]; exact ⟨trivial, Kd.R_ne HRb.out BK3.out (by decide)⟩) (fun _ _ => trivial) HRb.out HBX.out HSZ.out (sub_room HLL.out) ?_); intro v5 w5 ho hb hg hat; obtain ⟨A5, c5, e5⟩ := Kd.R_slice ho; subst e5; have BC5 := Aside0.mk (blk_grown HCb.out hg (Kd.R_ne HRb.out HCb.out (by decide))); have BG5 := Aside0.mk (blk_grown BK3.out hg (Kd.R_ne HRb.out BK3.out (by decide))); have HB5 := Aside0.mk hb; clear ho hb hg hat; have n1 : w5.cell? ⟨gc, 1, none⟩ = some (.slice A l.length c) := (blk_cell BC5.out 1).trans rfl; have nf := blk_frozen BC5.out 1) | fail)
        go_ret
        exact ⟨g3, _, rfl, GE3.out, blk_far BG5.out (p := ⟨gc, 1, none⟩) (blk_ne BG5.out BC5.out (by decide)) _, by rw [show secOf l name = (⟨name, [], []⟩ : S71) from lastD_none (by simpa using HN.out)]; exact kSec_mkM (Kd.R_nil _ _ _ _ _) (Kd.R_nil _ _ _ _ _), HB5.out.setCell (by exact HGB.out) _⟩
theorem subsection_any (gc : Nat) (v : Value) (u0 u1 : Value) (l : List S115) (name : ByteArray) (base : Nat) (w : World) (hbase : base ≤ w.heap.size) (hgb : base ≤ gc) (hC : w.heap[gc]? = some (.cells #[u0, u1, v] 169 (0, 0))) (HO : Kd.R kU 155 w base (fun _ => True) v l)
    (hl : l.length ≤ 4294967295) :
    Calls Tryd.prog 94 #[.pointer (some ⟨gc, 0, none⟩), .string name] w (Found kSub 172 base w (subOf l name)) := by
  have hcv : w.cell? ⟨gc, 2, none⟩ = some v := (blk_cell hC 2).trans rfl
  have hw0 : wrap64 ((l.length : Int) - 1) = (l.length : Int) - 1 := w64 (by omega) (by omega)
  obtain ⟨A, c, ev, hc, _⟩ := Kd.R_reads HO
  subst ev
  have HR := Aside0.mk HO
  have HBK := Aside0.mk hC
  skip
  skip
  have HBS := Aside0.mk hbase
  have HGB := Aside0.mk hgb
  clear HO hC hbase hgb
  go_enter Tryd.func94, Tryd.ntmps94
  go_wp2
  go_loopg [5] (l.length + 1) (fun kq v5 w' => ∃ (x : Int) (j : Nat), v5 = .int .i64 x ∧ -1 ≤ x ∧ x < (l.length : Int) ∧ Aside0 (x + 1 = (j : Int)) ∧ Aside0 (kq = j + 1) ∧ Aside0 (∀ o ∈ l.drop j, eqB o.f0 name = false) ∧ Aside0 (w = w'))
  case atStart => exact ⟨_, l.length, rfl, by omega, by omega, ⟨by omega⟩, ⟨rfl⟩, ⟨by rw [List.drop_length]; intro o ho; cases ho⟩, ⟨rfl⟩⟩
  case round =>
    clear hw0
    obtain ⟨x, j, rfl, hx1, hx2, HJ, HK, HN, HWW⟩ := hrel
    obtain rfl := HWW.out
    cases gk with
    | zero => exact absurd HK.out (by omega)
    | succ k1 =>
      by_cases h0 : 0 ≤ x
      · have d1 : decide (0 ≤ x) = true := decide_eq_true h0
        obtain ⟨i, hi⟩ : ∃ i : Nat, x = (i : Int) := ⟨x.toNat, by omega⟩
        subst hi
        have hil : i < l.length := by omega
        obtain rfl : j = i + 1 := by have := HJ.out; omega
        obtain ⟨ad, c', g, arr, e0, _, hcl, _, hgb, hg, hM⟩ := at_ptrM HR.out i hil
        injection e0 with e0 _ ec
        subst e0
        subst ec
        have HGG := Aside0.mk hgb
        have HG := Aside0.mk hg
        have HM := Aside0.mk (kSub.M_mono (fun k hk => hk.2) hM : kSub.M w base (fun k => k ≠ g) l[i] arr.toList)
        have hw1 : wrap64 ((i : Int) - 1) = (i : Int) - 1 := w64 (by omega) (by omega)
        obtain ⟨b, hb⟩ : ∃ b, eqB (l[i]).f0 name = b := ⟨_, rfl⟩
        have HKey := Aside0.mk (show Calls Tryd.prog 101 #[.pointer (some ⟨g, 0, none⟩), .string name] w fun e w' => e = .returned (.bool b) ∧ w = w' by
          rw [← hb]
          obtain ⟨_, ea, _⟩ := kSub_openM HM.out
          obtain ⟨arr⟩ := arr
          simp only at ea
          subst ea
          exact subName_any g _ name _ w HG.out)
        have HBB := Aside0.mk hb
        have HI := Aside0.mk hil
        clear hgb hg hM hb
        go_wp2_with fail
        refine HKey.out.mono ?_
        rintro e w' ⟨rfl, rfl⟩
        clear HKey
        cases b with
        | true =>
          go_wp2
          go_ret
          exact ⟨g, arr, rfl, HGG.out, HG.out, by rw [show subOf l name = l[i] from lastD_at HI.out HBB.out HN.out]; exact HM.out, Below.refl _ _⟩
        | false =>
          go_wp2
          go_roundg k1
          case measure => have := HK.out; omega
          case rel => exact ⟨_, i, rfl, by omega, by omega, ⟨by omega⟩, ⟨by have := HK.out; omega⟩, ⟨drop_no (p := fun s => eqB s.f0 name) HI.out HBB.out HN.out⟩, ⟨rfl⟩⟩
      · have d1 : decide (0 ≤ x) = false := decide_eq_false h0
        obtain rfl : x = -1 := by omega
        obtain rfl : j = 0 := by have := HJ.out; omega
        have HLL := Aside0.mk hl
        go_wp2_with (first | ((with_reducible refine gate_dst (N := 31) rfl ?_); refine box_event ?hg8 (N := 31) ?hd8 (cs := #[.string name, .slice none 0 0]) (t := 172) ?hr8 ?_; (case hd8 => rfl); (case hg8 => rfl); (case hr8 => first | (go_simp; done) | (go_simp; rfl)); intro g3 hg3 wb hbox hb; have HBb := Aside0.mk hb; have GE3 := Aside0.mk (show base ≤ g3 by rw [hg3]; exact HBS.out); have BK3 := Aside0.mk hbox; have HRb := Aside0.mk (Kd.R_below HR.out hb); have HCb := Aside0.mk ((hb.block gc (blk_lt HBK.out)).trans HBK.out); have hcv2 : wb.cell? ⟨gc, 2, none⟩ = some (.slice A l.length c) := (blk_cell HCb.out 2).trans rfl; have HBX := Aside0.mk ((⟨hb.os, hb.tape, hb.output, hb.size, fun i hi => hb.block i (Nat.lt_of_lt_of_le hi HBS.out)⟩ : Below base w wb)); have HSZ := Aside0.mk (Nat.le_trans HBS.out hb.size); clear hbox hb hg3) | ((with_reducible refine gate_builtin (b := .append) (xs := #[.tmp 36, .tmp 38]) rfl ?_); at_builtin; go_must (refine Kd.R_append kU (w0 := w) base rfl (.tmp 36) (.tmp 38) 167 155 (.pointer none) 8 rfl Tryd.underlying167 infoU rfl (by decide) (by omega) (.slice A l.length c) l (⟨name, []⟩ : S115) [.pointer (some ⟨g3, 0, none⟩)] (fun _ => True) (fun k => k = g3) rfl (by first | (go_simp; done) | (go_simp; rfl)) ⟨g3, _, rfl, rfl, GE3.out, BK3.out, kSub_mkM (Kd.R_nil _ _ _ _ _)⟩ (fun k hk => by rw [hk]; exact ⟨trivial, Kd.R_ne HRb.out BK3.out (by decide)⟩) (fun _ _ => trivial) HRb.out HBX.out HSZ.out (sub_room HLL.out) ?_); intro v5 w5 ho hb hg hat; obtain ⟨A5, c5, e5⟩ := Kd.R_slice ho; subst e5; have BC5 := Aside0.mk (blk_grown HCb.out hg (Kd.R_ne HRb.out HCb.out (by decide))); have BG5 := Aside0.mk (blk_grown BK3.out hg (Kd.R_ne HRb.out BK3.out (by decide))); have HB5 := Aside0.mk hb; clear ho hb hg hat; have n1 : w5.cell? ⟨gc, 2, none⟩ = some (.slice A l.length c) := (blk_cell BC5.out 2).trans rfl; have nf := blk_frozen BC5.out 2) | fail)
        go_ret
        exact ⟨g3, _, rfl, GE3.out, blk_far BG5.out (p := ⟨gc, 2, none⟩) (blk_ne BG5.out BC5.out (by decide)) _, by rw [show subOf l name = (⟨name, []⟩ : S115) from lastD_none (by simpa using HN.out)]; exact kSub_mkM (Kd.R_nil _ _ _ _ _), HB5.out.setCell (by exact HGB.out) _⟩
end Go.Proofs.YtoofbppfbbhliaaDoor.confP
