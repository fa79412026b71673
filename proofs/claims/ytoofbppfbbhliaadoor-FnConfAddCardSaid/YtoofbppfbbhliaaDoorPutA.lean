/- config: the options of a list, made and told again. -/
import Derived.Test.YtoofbppfbbhliaaDoorMFnConfAddx4
import Derived.Test.YtoofbppfbbhliaaDoorPtr
import Derived.Deep.RegionHeld3
namespace Go.Proofs.YtoofbppfbbhliaaDoor.confP
open Go.RowKit Go.Proofs.YtoofbppfbbhliaaDoorW.PrintWords Go.Proofs.YtoofbppfbbhliaaDoorW.PrintLast Go.Proofs.YtoofbppfbbhliaaDoorW.PrintMore Go.Proofs.YtoofbppfbbhliaaDoor.PFnConfAdd Go.Proofs.YtoofbppfbbhliaaDoor.ptr
set_option linter.unusedVariables false
set_option linter.unusedSimpArgs false
set_option maxHeartbeats 2000000
set_option maxRecDepth 100000
theorem infoP {t : TypeId} (h : (Tryd.prog.info? t).map (fun i => (i.zero, i.size, i.bytes)) = some (some (.pointer none), 1, 8)) : (Tryd.prog.info? t).map (fun i => (i.zero, i.size, i.bytes)) = some (some (.pointer none), (1 : Nat), 8) := h
theorem infoO : (Tryd.prog.info? 194).map (fun i => (i.zero, i.size, i.bytes)) = some (some (.pointer none), 1, 8) := by kernel_rfl
theorem w64 {n : Int} (h0 : -9223372036854775808 ≤ n) (h1 : n < 9223372036854775808) : wrap64 n = n := by
  unfold wrap64; first | omega | (simp [IntKind.wrap_i64]; omega)
theorem rdO {l : List S112} {j : Nat} (h : j < l.length) : rd_T112 l (j : Int) = l[j] := by
  unfold rd_T112
  rw [Int.toNat_natCast, List.getD_eq_getElem?_getD, List.getElem?_eq_getElem h]; rfl
theorem take_snoc {α : Type} {l : List α} {j : Nat} (h : j < l.length) : l.take (j + 1) = l.take j ++ [l[j]] := List.take_succ_eq_append_getElem h
/-- A list of options of the package. -/
abbrev kO : Kd S112 := ptr 195 k112
theorem optionsOf_any (A0 : Option Addr) (c0 : Nat) (l0 : List S112) (w : World) (hr0 : Kd.C k112 w A0 l0.length l0) (hc0 : l0.length ≤ c0) (hl : l0.length ≤ 4294967295) :
    Calls Tryd.prog 99 #[.slice A0 l0.length c0] w fun e w' => ∃ v, e = .returned v ∧ Kd.R kO 194 w' w.heap.size (fun _ => True) v l0 ∧ Below w.heap.size w w' := by
  have hu112 := Tryd.underlying112
  have HR0 := Aside0.mk hr0
  have HB := Aside0.mk (Below.refl w.heap.size w)
  clear hr0
  go_enter Tryd.func99, Tryd.ntmps99
  go_wp2
  go_loopg [3, 8] (l0.length + 1) (fun kq v3 v8 w' => ∃ (j : Nat), v8 = .int .i64 (j : Int) ∧ j ≤ l0.length ∧ Aside0 (kq + j = l0.length + 1) ∧ Aside0 (Kd.R kO 194 w' w.heap.size (fun _ => True) v3 (l0.take j)) ∧ Aside0 (Below w.heap.size w w'))
  case atStart => exact ⟨0, rfl, Nat.zero_le _, ⟨by omega⟩, ⟨Kd.R_nil _ _ _ _ _⟩, HB⟩
  case round =>
    clear HB
    obtain ⟨j, rfl, hj, HK, HO, HB⟩ := hrel
    cases gk with
    | zero => exact absurd HK.out (by omega)
    | succ k1 =>
      by_cases hlt : j < l0.length
      · have p150 : 0 ≤ (j : Int) := by omega
        have q150 : (j : Int) < (l0.length : Int) := by omega
        have c5b0 : decide ((j : Int) < (l0.length : Int)) = true := decide_eq_true q150
        obtain ⟨ad150, e150, hx0, hx1⟩ := at_T112 HR0.out j p150 q150
        cases e150
        rw [rdO hlt, Int.toNat_natCast] at hx0 hx1
        replace hx0 := (HB.out.cell (World.block_lt_of_cell? w _ hx0)).trans hx0
        replace hx1 := (HB.out.cell (World.block_lt_of_cell? w _ hx1)).trans hx1
        obtain ⟨x, hx⟩ : ∃ x, l0[j] = x := ⟨_, rfl⟩
        rw [hx] at hx0 hx1
        have HT := Aside0.mk ((take_snoc hlt).trans (by rw [hx]))
        have HJ := Aside0.mk hlt
        have HTl := Aside0.mk (show (l0.take j).length = j by rw [List.length_take]; omega)
        clear hx
        go_wp2_with (first | ((with_reducible refine gate_dst (N := 5) rfl ?_); refine box_event ?hg (N := 5) ?hd (cs := #[.string (⟨#[]⟩ : ByteArray), .string (⟨#[]⟩ : ByteArray)]) (t := 112) ?hr ?_; (case hd => rfl); (case hg => rfl); (case hr => first | (go_simp; done) | (go_simp; rfl)); intro g1 hg1 wa hbox hb; have HB1 := Aside0.mk (below_step HB.out hb); have HO1 := Aside0.mk (Kd.R_below HO.out hb); have GE1 := Aside0.mk (show w.heap.size ≤ g1 by rw [hg1]; exact HB.out.size); have BK1 := Aside0.mk hbox; clear hbox hb hg1; have hz0 : wa.cell? ⟨g1, 0, none⟩ = some (.string (⟨#[]⟩ : ByteArray)) := (blk_cell BK1.out 0).trans rfl; have hz1 : wa.cell? ⟨g1, 1, none⟩ = some (.string (⟨#[]⟩ : ByteArray)) := (blk_cell BK1.out 1).trans rfl; have hf0 := blk_frozen BK1.out 0; have hf1 := blk_frozen BK1.out 1) | ((with_reducible refine gate_dst (N := 18) rfl ?_); refine box_event ?hg2 (N := 18) ?hd2 (cs := #[.string x.f0, .string x.f1]) (t := 195) ?hr2 ?_; (case hd2 => rfl); (case hg2 => rfl); (case hr2 => first | (go_simp; done) | (go_simp; rfl)); intro g2 hg2 wb hbox hb; have HO2 := Aside0.mk (Kd.R_below (Kd.R_mono (Kd.R_far (p := ⟨g1, 1, none⟩) (Kd.R_far (p := ⟨g1, 0, none⟩) (Kd.R_types HO1.out BK1.out (by decide)) (fun _ hk => hk.2) (.string x.f0)) (fun _ hk => hk.2) (.string x.f1)) (fun _ hk => trivial)) hb); have HB2 := Aside0.mk (below_step (below_set (below_set HB1.out GE1.out) GE1.out) hb); have GE2 := Aside0.mk (show w.heap.size ≤ g2 by rw [hg2]; simpa using HB1.out.size); have BK2 := Aside0.mk hbox; clear hbox hb hg2) | ((with_reducible refine gate_builtin (b := .append) (xs := #[.tmp 12, .tmp 19]) rfl ?_); at_builtin; refine Kd.R_append kO (w0 := w) w.heap.size rfl (.tmp 12) (.tmp 19) 165 194 (.pointer none) 8 rfl Tryd.underlying165 infoO rfl (by decide) (by omega) u3 (l0.take j) x [.pointer (some ⟨g2, 0, none⟩)] (fun _ => True) (fun k => k = g2) rfl (by first | (go_simp; done) | (go_simp; rfl)) ?aP ?aK ?aF HO2.out HB2.out ?aS ?aL ?_; (case aP => exact ⟨g2, _, rfl, rfl, GE2.out, BK2.out, k112_mkM _ _ _ x⟩); (case aK => rintro k rfl; exact ⟨trivial, Kd.R_ne HO2.out BK2.out (by decide)⟩); (case aF => exact fun _ _ => trivial); (case aS => exact below_size HB2.out); (case aL => have := HTl.out; have := HJ.out; rw [HTl.out]; omega); intro v3 wc ho hb hg hat; rw [← HT.out] at ho; have HO3 := Aside0.mk ho; have HB3 := Aside0.mk hb; clear ho hb hg hat))
        go_roundg k1
        case measure => have := HK.out; omega
        case rel => exact ⟨j + 1, by go_num, HJ.out, ⟨by have := HK.out; omega⟩, HO3, HB3⟩
      · have c5b0 : decide ((j : Int) < (l0.length : Int)) = false := decide_eq_false (by omega)
        have HT := Aside0.mk (show l0.take j = l0 from List.take_of_length_le (by omega))
        go_wp2
        go_ret
        exact ⟨_, rfl, by rw [← HT.out]; exact HO.out, HB.out⟩
end Go.Proofs.YtoofbppfbbhliaaDoor.confP
