/- config: the parts of a section, found or made, told with parts that keep apart. -/
import Derived.Test.YtoofbppfbbhliaaDoorPudG
namespace Go.Proofs.YtoofbppfbbhliaaDoor.confP
open Go.RowKit Go.Proofs.YtoofbppfbbhliaaDoorW.PrintWords Go.Proofs.YtoofbppfbbhliaaDoorW.PrintLast Go.Proofs.YtoofbppfbbhliaaDoorW.PrintMore Go.Proofs.YtoofbppfbbhliaaDoor.PFnConfAdd Go.Proofs.YtoofbppfbbhliaaDoor.ptr
set_option linter.unusedVariables false
set_option linter.unusedSimpArgs false
set_option maxHeartbeats 2000000
set_option maxRecDepth 100000
/-- The part that is found or made, in its section. -/
def FoundPart (gc base : Nat) (ok : Nat → Prop) (u0 u1 : Value) (w : World) (v : Value) (l : List S115) (name : ByteArray) (e : Ending) (w' : World) : Prop := ∃ g v' l' j ad cap, e = .returned (.pointer (some ⟨g, 0, none⟩)) ∧ Placed (fun s : S115 => eqB s.f0 name) ⟨name, []⟩ l l' j ∧ w'.heap[gc]? = some (.cells #[u0, u1, v'] 169 (0, 0)) ∧
  Kd.S kU 155 w' base (fun k => ok k ∨ w.heap.size ≤ k) v' l' ∧ v' = .slice (some ad) l'.length cap ∧ w'.cell? (ad.add j) = some (.pointer (some ⟨g, 0, none⟩)) ∧ Near w w' gc v.ownBlock
theorem Near.refl (w : World) (g : Nat) (row : Option Nat) : Near w w g row := ⟨rfl, rfl, rfl, Nat.le_refl _, fun _ _ _ _ => rfl⟩
theorem subsectionS_any (gc : Nat) (v : Value) (u0 u1 : Value) (l : List S115) (name : ByteArray) (base : Nat) (ok : Nat → Prop) (w : World) (hbase : base ≤ w.heap.size) (hgb : base ≤ gc) (hC : w.heap[gc]? = some (.cells #[u0, u1, v] 169 (0, 0))) (HO0 : Kd.S kU 155 w base ok v l)
    (hl : l.length ≤ 4294967295) :
    Calls Tryd.prog 94 #[.pointer (some ⟨gc, 0, none⟩), .string name] w (FoundPart gc base ok u0 u1 w v l name) := by
  have hcv : w.cell? ⟨gc, 2, none⟩ = some v := (blk_cell hC 2).trans rfl
  have HO := (Kd.S_mono HO0 (fun k hk => Or.inl hk) : Kd.S kU 155 w base (fun k => ok k ∨ w.heap.size ≤ k) v l)
  have HOO := Aside0.mk HO0
  clear HO0
  have hw0 : wrap64 ((l.length : Int) - 1) = (l.length : Int) - 1 := w64 (by omega) (by omega)
  obtain ⟨A, c, ev, hc, _⟩ := Kd.S_reads HO
  subst ev
  have HR := Aside0.mk HO
  have HBK := Aside0.mk hC
  have HBS := Aside0.mk hbase
  have HGB := Aside0.mk hgb
  clear HO hC hbase hgb
  go_enter Tryd.func94, Tryd.ntmps94
  go_wp2
  go_loopg [5] (l.length + 1) (fun kq v5 w' => ∃ (x : Int) (j : Nat), v5 = .int .i64 x ∧ -1 ≤ x ∧ x < (l.length : Int) ∧ Aside0 (x + 1 = (j : Int)) ∧ Aside0 (kq = j + 1) ∧ Aside0 (∀ o ∈ l.drop j, eqB o.f0 name = false) ∧ Aside0 (w = w'))
  case atStart => exact ⟨_, l.length, rfl, by omega, by omega, ⟨by omega⟩, ⟨rfl⟩, ⟨by rw [List.drop_length]; intro o ho; cases ho⟩, ⟨rfl⟩⟩
  case round =>
    clear hw0
    obtain ⟨x, j, rfl, hx1, hx2, HJ, HK, HN, HWW⟩ := hrel
    obtain rfl := HWW.out
    cases gk with
    | zero => exact absurd HK.out (by omega)
    | succ k1 =>
      by_cases h0 : 0 ≤ x
      · have d1 : decide (0 ≤ x) = true := decide_eq_true h0
        obtain ⟨i, hi⟩ : ∃ i : Nat, x = (i : Int) := ⟨x.toNat, by omega⟩
        subst hi
        have hil : i < l.length := by omega
        obtain rfl : j = i + 1 := by have := HJ.out; omega
        obtain ⟨ad, c', g, arr, e0, _, hcl, _, hgb, hg, hM⟩ := at_ptrM (Kd.S_R HR.out) i hil
        injection e0 with e0 _ ec
        subst e0
        subst ec
        have HG := Aside0.mk hg
        have hw1 : wrap64 ((i : Int) - 1) = (i : Int) - 1 := w64 (by omega) (by omega)
        obtain ⟨b, hb⟩ : ∃ b, eqB (l[i]).f0 name = b := ⟨_, rfl⟩
        have HKey := Aside0.mk (show Calls Tryd.prog 101 #[.pointer (some ⟨g, 0, none⟩), .string name] w fun e w' => e = .returned (.bool b) ∧ w = w' by
          rw [← hb]
          obtain ⟨_, ea, _⟩ := kSub_openM hM
          obtain ⟨arr⟩ := arr
          simp only at ea
          subst ea
          exact subName_any g _ name _ w HG.out)
        have HBB := Aside0.mk hb
        have HI := Aside0.mk hil
        have HCL := Aside0.mk hcl
        clear hgb hg hM hb
        go_wp2_with fail
        refine HKey.out.mono ?_
        rintro e w' ⟨rfl, rfl⟩
        clear HKey
        cases b with
        | true =>
          go_wp2
          go_ret
          exact ⟨g, .slice (some ad) l.length c, l, i, ad, c, rfl, .inl ⟨rfl, HI.out, HBB.out, HN.out⟩, HBK.out, HR.out, rfl, HCL.out, Near.refl _ _ _⟩
        | false =>
          go_wp2
          go_roundg k1
          case measure => have := HK.out; omega
          case rel => exact ⟨_, i, rfl, by omega, by omega, ⟨by omega⟩, ⟨by have := HK.out; omega⟩, ⟨drop_no (p := fun s => eqB s.f0 name) HI.out HBB.out HN.out⟩, ⟨rfl⟩⟩
      · have d1 : decide (0 ≤ x) = false := decide_eq_false h0
        obtain rfl : x = -1 := by omega
        obtain rfl : j = 0 := by have := HJ.out; omega
        have HLL := Aside0.mk hl
        go_wp2_with (first | ((with_reducible refine gate_dst (N := 31) rfl ?_); refine box_event ?hg8 (N := 31) ?hd8 (cs := #[.string name, .slice none 0 0]) (t := 172) ?hr8 ?_; (case hd8 => rfl); (case hg8 => rfl); (case hr8 => first | (go_simp; done) | (go_simp; rfl)); intro g3 hg3 wb hbox hb; have HBb := Aside0.mk hb; have GE3 := Aside0.mk (show base ≤ g3 by rw [hg3]; exact HBS.out); have BK3 := Aside0.mk hbox; have HRb := Aside0.mk (Kd.S_below (Kd.S_mono (Kd.S_bound HR.out) (fun k hk => ⟨hk.1, by rw [hg3]; exact Nat.ne_of_lt hk.2.2.1⟩) : Kd.S kU 155 w base (fun k => (ok k ∨ w.heap.size ≤ k) ∧ ¬ k = g3) _ _) hb); have HG3 := Aside0.mk hg3; have HB0 := Aside0.mk hb; have HCb := Aside0.mk ((hb.block gc (blk_lt HBK.out)).trans HBK.out); have hcv2 : wb.cell? ⟨gc, 2, none⟩ = some (.slice A l.length c) := (blk_cell HCb.out 2).trans rfl; have HBX := Aside0.mk ((⟨hb.os, hb.tape, hb.output, hb.size, fun i hi => hb.block i (Nat.lt_of_lt_of_le hi HBS.out)⟩ : Below base w wb)); have HSZ := Aside0.mk (Nat.le_trans HBS.out hb.size); clear hbox hb hg3) | ((with_reducible refine gate_builtin (b := .append) (xs := #[.tmp 36, .tmp 38]) rfl ?_); at_builtin; go_must (refine S_append_at kU (w0 := w) base rfl (.tmp 36) (.tmp 38) 167 155 (.pointer none) 8 rfl Tryd.underlying167 infoU rfl (by decide) (by omega) (.slice A l.length c) l (⟨name, []⟩ : S115) [.pointer (some ⟨g3, 0, none⟩)] (fun k => ok k ∨ w.heap.size ≤ k) (fun k => k = g3) rfl (by first | (go_simp; done) | (go_simp; rfl)) ⟨g3, _, rfl, rfl, GE3.out, BK3.out, kSub_mkM (Kd.R_nil _ _ _ _ _)⟩ (fun k hk => by rw [hk]; exact ⟨Or.inr (by rw [HG3.out]; exact Nat.le_refl _), Kd.S_ne HRb.out BK3.out (by decide)⟩) (fun k hk => Or.inr (Nat.le_trans HB0.out.size hk)) HRb.out HBX.out HSZ.out (sub_room HLL.out) ?_); intro v5 w5 ho hcell hb hg hat; obtain ⟨ad5, c5, e5, hcell⟩ := hcell; subst e5; have HO5 := Aside0.mk ho; have HCE := Aside0.mk (hcell 0 _ rfl); have BC5 := Aside0.mk (blk_grown HCb.out hg (Kd.S_ne HRb.out HCb.out (by decide))); have HG5 := Aside0.mk (grown_step HB0.out hg); clear ho hb hg hat hcell; have n1 : w5.cell? ⟨gc, 2, none⟩ = some (.slice A l.length c) := (blk_cell BC5.out 2).trans rfl; have nf := blk_frozen BC5.out 2) | fail)
        go_ret
        have HNE : ad5.block ≠ gc := fun he => by
          obtain ⟨gr, _, e1, _, _, cells, hcs⟩ := Kd.S_form HO5.out (by simp)
          injection e1 with e1 _ _
          injection e1 with e1
          subst e1
          have : gr = gc := he
          subst this
          have := BC5.out.symm.trans hcs
          simp at this
        refine ⟨g3, _, l ++ [⟨name, []⟩], l.length, ad5, c5, rfl, .inr ⟨rfl, rfl, by simpa using HN.out⟩, blk_put (cs := #[u0, u1, .slice A l.length c]) BC5.out 2 _ rfl, Kd.S_set HO5.out BC5.out (by decide) 2 _, by simp, ?_, Near.put HG5.out 2 _⟩
        refine (cell_same (Below.heap_setCell w5 ⟨gc, 2, none⟩ _ _ (by rw [add_block]; exact HNE))).trans ?_
        have := HCE.out
        rwa [show l.length * kU.sz + 0 = l.length from by show l.length * 1 + 0 = l.length; omega] at this
end Go.Proofs.YtoofbppfbbhliaaDoor.confP
