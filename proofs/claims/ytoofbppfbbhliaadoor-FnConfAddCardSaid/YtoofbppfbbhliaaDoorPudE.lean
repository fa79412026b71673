/- config: an option put behind the others. -/
import Derived.Test.YtoofbppfbbhliaaDoorPudD
namespace Go.Proofs.YtoofbppfbbhliaaDoor.confP
open Go.RowKit Go.Proofs.YtoofbppfbbhliaaDoorW.PrintWords Go.Proofs.YtoofbppfbbhliaaDoorW.PrintLast Go.Proofs.YtoofbppfbbhliaaDoorW.PrintMore Go.Proofs.YtoofbppfbbhliaaDoor.PFnConfAdd Go.Proofs.YtoofbppfbbhliaaDoor.ptr
set_option linter.unusedVariables false
set_option linter.unusedSimpArgs false
set_option maxHeartbeats 2000000
set_option maxRecDepth 100000
/-- The options, with one more: what was made, and what else was left as it was. -/
def Added (w : World) (base : Nat) (ok : Nat → Prop) (v : Value) (l' : List S112) (e : Ending) (w' : World) : Prop := ∃ v1, e = .returned v1 ∧ Kd.R kO 194 w' base (fun k => ok k ∨ w.heap.size ≤ k) v1 l' ∧ w.grownBy w' v.ownBlock ∧ (v1.ownBlock = v.ownBlock ∨ ∃ b, v1.ownBlock = some b ∧ w.heap.size ≤ b)
theorem grown_step {w w1 w2 : World} {row : Option Nat} (h : Below w.heap.size w w1) (k : w1.grownBy w2 row) : w.grownBy w2 row :=
  ⟨k.os.trans h.os, k.tape.trans h.tape, k.output.trans h.output, Nat.le_trans h.size k.size, fun i hi hne => (k.block i (Nat.lt_of_lt_of_le hi h.size) hne).trans (h.block i hi)⟩
theorem withAdded_any (v : Value) (l : List S112) (key value : ByteArray) (ok : Nat → Prop) (base : Nat) (w : World) (hbase : base ≤ w.heap.size) (HO : Kd.R kO 194 w base ok v l) (hl : l.length ≤ 4294967295) :
    Calls Tryd.prog 125 #[v, .string key, .string value] w (Added w base ok v (l ++ [⟨key, value⟩])) := by
  obtain ⟨A, c, ev⟩ := Kd.R_slice HO
  subst ev
  have HR := Aside0.mk (Kd.R_mono HO (fun k hk => Or.inl hk) : Kd.R kO 194 w base (fun k => ok k ∨ w.heap.size ≤ k) _ l)
  have HBS := Aside0.mk hbase
  have HLL := Aside0.mk hl
  clear HO hbase hl
  go_enter Tryd.func125, Tryd.ntmps125
  go_wp2_with (first | ((with_reducible refine gate_dst (N := 11) rfl ?_); refine box_event ?hg2 (N := 11) ?hd2 (cs := #[.string key, .string value]) (t := 195) ?hr2 ?_; (case hd2 => rfl); (case hg2 => rfl); (case hr2 => first | (go_simp; done) | (go_simp; rfl)); intro g2 hg2 wb hbox hb; have HO2 := Aside0.mk (Kd.R_below HR.out hb); have HB2 := Aside0.mk hb; have HBb := Aside0.mk (show Below base w wb from ⟨hb.os, hb.tape, hb.output, hb.size, fun i hi => hb.block i (Nat.lt_of_lt_of_le hi HBS.out)⟩); have HG2 := Aside0.mk hg2; have GE2 := Aside0.mk (show base ≤ g2 by rw [hg2]; exact HBS.out); have BK2 := Aside0.mk hbox; clear hbox hb hg2) | ((with_reducible refine gate_builtin (b := .append) (xs := #[.tmp 7, .tmp 12]) rfl ?_); at_builtin; go_must (refine Kd.R_append kO (w0 := w) base rfl (.tmp 7) (.tmp 12) 165 194 (.pointer none) 8 rfl Tryd.underlying165 infoO rfl (by decide) (by omega) (.slice A l.length c) l (⟨key, value⟩ : S112) [.pointer (some ⟨g2, 0, none⟩)] (fun k => ok k ∨ w.heap.size ≤ k) (fun k => k = g2) rfl (by first | (go_simp; done) | (go_simp; rfl)) ⟨g2, _, rfl, rfl, GE2.out, BK2.out, k112_mkM _ _ _ (⟨key, value⟩ : S112)⟩ (fun k hk => by rw [hk]; exact ⟨Or.inr (by rw [HG2.out]; exact Nat.le_refl _), Kd.R_ne HO2.out BK2.out (by decide)⟩) (fun k hk => Or.inr (Nat.le_trans HB2.out.size hk)) HO2.out HBb.out (Nat.le_trans HBS.out HB2.out.size) (sub_room HLL.out) ?_); intro v3 wc ho hb hg hat; have HO3 := Aside0.mk ho; have HG3 := Aside0.mk (grown_step HB2.out hg); have HA3 := Aside0.mk (show v3.ownBlock = (Value.slice A l.length c).ownBlock ∨ ∃ b, v3.ownBlock = some b ∧ w.heap.size ≤ b from hat.imp id (fun ⟨b, h1, h2⟩ => ⟨b, h1, Nat.le_trans HB2.out.size h2⟩)); clear ho hb hg hat) | fail)
  go_ret
  exact ⟨_, rfl, HO3.out, HG3.out, HA3.out⟩
end Go.Proofs.YtoofbppfbbhliaaDoor.confP
