/- index: impl.filesOf, impl.DropFile. -/
import Derived.Test.YtoofbppfbbhliaaDoorIdxD
namespace Go.Proofs.YtoofbppfbbhliaaDoor.idx
open Go.RowKit Go.Lib Go.Proofs.YtoofbppfbbhliaaDoorW.PrintWords Go.Proofs.YtoofbppfbbhliaaDoorW.PrintLast Go.Proofs.YtoofbppfbbhliaaDoorW.PrintMore Go.Proofs.YtoofbppfbbhliaaDoor.PFnIdxDrop Go.Proofs.YtoofbppfbbhliaaDoor.ptr
set_option linter.unusedVariables false
set_option linter.unusedSimpArgs false
set_option maxHeartbeats 2000000
set_option maxRecDepth 100000
theorem infoF : (Tryd.prog.info? 35).map (fun i => (i.zero, i.size, i.bytes)) = some (some (.agg #[.int .i64 0, .int .i64 0, .int .i64 0, .int .i64 0, .int .u32 0, .int .u32 0, .int .u32 0, .int .u32 0, .int .u32 0, .int .u32 0, .string ⟨#[]⟩, .string ⟨#[]⟩, .int .i64 0, .bool false, .bool false]), 15, 104) := by kernel_rfl
theorem file_room {n : Nat} (h : n ≤ 1000) : (n + 1) * 104 ≤ 140737488355328 := by omega
/-- Files that are made. -/
def Made (w : World) (l : List S35) (e : Ending) (w' : World) : Prop := ∃ v, e = .returned v ∧ Kd.R k35 35 w' w.heap.size (fun _ => True) v l ∧ Below w.heap.size w w'
theorem filesOf_any (gx : Nat) (v : Value) (l : List S35) (base : Nat) (w : World) (hX : w.heap[gx]? = some (.cells (idxCells v) 134 (0, 0))) (hO : Kd.R kPE 91 w base (fun _ => True) v l) (hl : l.length ≤ 1000) :
    Calls Tryd.prog 53 #[.pointer (some ⟨gx, 0, none⟩)] w (Made w l) := by
  obtain ⟨A, c, ea⟩ := Kd.R_slice hO
  subst ea
  have h1 : w.cell? ⟨gx, 1, none⟩ = some (.slice A l.length c) := (blk_cell hX 1).trans rfl
  have HO := Aside0.mk hO
  clear hX hO
  go_enter Tryd.func53, Tryd.ntmps53
  go_wp2_with fail
  clear h1
  go_loopg [3, 11] (l.length + 1) (fun kq v3 v11 w' => ∃ (j : Nat), v11 = .int .i64 (j : Int) ∧ j ≤ l.length ∧ Aside0 (kq + j = l.length + 1) ∧ Aside0 (Kd.R k35 35 w' w.heap.size (fun _ => True) v3 (l.take j)) ∧ Aside0 (Below w.heap.size w w'))
  case atStart => exact ⟨0, rfl, Nat.zero_le _, ⟨by omega⟩, ⟨Kd.R_nil _ _ _ _ _⟩, ⟨Below.refl _ _⟩⟩
  case round =>
    obtain ⟨j, rfl, hj, HK, HR, HB⟩ := hrel
    cases gk with
    | zero => exact absurd HK.out (by omega)
    | succ k1 =>
      obtain ⟨wo, hwo⟩ : ∃ wo : World, wo = wr := ⟨_, rfl⟩
      subst hwo
      by_cases hlt : j < l.length
      · have p150 : 0 ≤ (j : Int) := by omega
        have q150 : (j : Int) < (l.length : Int) := by omega
        have c5b0 : decide ((j : Int) < (l.length : Int)) = true := decide_eq_true q150
        obtain ⟨ad, c', g, arr, e1, hlc, hcl, _, hgb, hg, hM⟩ := at_ptrM HO.out j hlt
        injection e1 with e1 _ ec
        subst e1
        subst ec
        have hcl2 := (HB.out.cell (World.block_lt_of_cell? w _ hcl)).trans hcl
        have HFO := Aside0.mk (fileOf_any g arr l[j] wo ((HB.out.block g (blk_lt hg)).trans hg) hM)
        have HTu := Aside0.mk (take_snoc hlt)
        obtain ⟨x, hx⟩ : ∃ x, l[j] = x := ⟨_, rfl⟩
        rw [hx] at HFO HTu
        replace HFO : Aside0 (Calls Tryd.prog 81 #[.pointer (some ⟨g, 0, none⟩)] wo fun e w' => e = .returned (.agg #[.int .i64 x.f0.f0, .int .i64 x.f0.f1, .int .i64 x.f1.f0, .int .i64 x.f1.f1, .int .u32 x.f2, .int .u32 x.f3, .int .u32 x.f4, .int .u32 x.f5, .int .u32 x.f6, .int .u32 x.f7, .string x.f8, .string x.f9, .int .i64 x.f10, .bool x.f11, .bool x.f12]) ∧ Below wo.heap.size wo w') := HFO
        obtain ⟨ys, hys⟩ : ∃ ys, l.take j = ys := ⟨_, rfl⟩
        have HYl := Aside0.mk (show ys.length ≤ 1000 by rw [← hys, List.length_take]; omega)
        rw [hys] at HR HTu
        obtain ⟨zs, hzs⟩ : ∃ zs, l.take (j + 1) = zs := ⟨_, rfl⟩
        rw [hzs] at HTu
        have HZ := Aside0.mk hzs
        obtain ⟨A3, c3, e3⟩ := Kd.R_slice HR.out
        subst e3
        have HI := Aside0.mk hlt
        clear hzs hys hx hcl hgb hg hM hlc
        go_wp2_with fail
        refine HFO.out.mono ?_
        rintro e w4 ⟨rfl, hb4⟩
        have HR4 := Aside0.mk (Kd.R_below HR.out hb4)
        have HB4 := Aside0.mk (below_step HB.out hb4)
        clear hb4 HFO
        go_wp2_with (first | ((with_reducible refine gate_builtin (b := .append) (xs := #[.tmp 15, .tmp 18]) rfl ?_); at_builtin; go_must (refine Kd.R_append k35 (w0 := w) w.heap.size rfl (.tmp 15) (.tmp 18) 29 35 (.agg #[.int .i64 0, .int .i64 0, .int .i64 0, .int .i64 0, .int .u32 0, .int .u32 0, .int .u32 0, .int .u32 0, .int .u32 0, .int .u32 0, .string ⟨#[]⟩, .string ⟨#[]⟩, .int .i64 0, .bool false, .bool false]) 104 rfl Tryd.underlying29 infoF rfl (show (0 : Nat) < 15 by decide) (by omega) (.slice A3 ys.length c3) ys x [.int .i64 x.f0.f0, .int .i64 x.f0.f1, .int .i64 x.f1.f0, .int .i64 x.f1.f1, .int .u32 x.f2, .int .u32 x.f3, .int .u32 x.f4, .int .u32 x.f5, .int .u32 x.f6, .int .u32 x.f7, .string x.f8, .string x.f9, .int .i64 x.f10, .bool x.f11, .bool x.f12] (fun _ => True) (fun _ => False) rfl (by first | (go_simp; done) | (go_simp; rfl)) (k35_mkM _ _ _ x) (fun _ h => h.elim) (fun _ _ => trivial) HR4.out HB4.out (below_size HB4.out) (file_room HYl.out) ?_); intro v7 w7 ho hb hg hat; rw [← HTu.out] at ho; have HR7 := Aside0.mk ho; have HB7 := Aside0.mk hb; clear ho hb hg hat) | fail)
        go_roundg k1
        case measure => have := HK.out; omega
        case rel => exact ⟨j + 1, by go_num, HI.out, ⟨by have := HK.out; omega⟩, ⟨by rw [HZ.out]; exact HR7.out⟩, HB7⟩
      · have c5b0 : decide ((j : Int) < (l.length : Int)) = false := decide_eq_false (by omega)
        have HT := Aside0.mk (show l.take j = l from List.take_of_length_le (by omega))
        rw [HT.out] at HR
        go_wp2_with fail
        go_ret
        exact ⟨_, rfl, HR.out, HB.out⟩
/-- What DropFile tells. -/
def Dropped (w : World) (l : List S35) (name : ByteArray) (e : Ending) (w' : World) : Prop := ∃ v l2 b, e = .returned (.tuple #[v, .bool b]) ∧ Kd.R k35 35 w' w.heap.size (fun _ => True) v l2 ∧ (b = true → ∃ (j : Nat) (h : j < l.length), eqB l[j].f9 name = true ∧ (∀ o ∈ l.take j, eqB o.f9 name = false) ∧ l2 = l.eraseIdx j) ∧ (b = false → ∀ o ∈ l, eqB o.f9 name = false) ∧ Below w.heap.size w w'
theorem dropFile_any (A0 : Option Addr) (c0 : Nat) (l : List S35) (name : ByteArray) (w : World) (hr0 : Kd.C k35 w A0 l.length l) (hc0 : l.length ≤ c0) (hl : l.length ≤ 1000) (hg : ∀ x ∈ l, Good x) (ev : Value) (hE : w.cell? ⟨4, 0, none⟩ = some ev) (τ : TypeId) (u : Value) (hE2 : w.cell? ⟨1, 0, none⟩ = some (.iface τ u)) :
    Calls Tryd.prog 22 #[.slice A0 l.length c0, .string name] w (Dropped w l name) := by
  have HI := Aside0.mk (indexOf_any A0 c0 l w hr0 hc0 hl hg ev hE)
  have HE2 := Aside0.mk hE2
  have HLL := Aside0.mk hl
  clear hr0 hg hE hE2 hl
  go_enter Tryd.func22, Tryd.ntmps22
  go_wp2_with fail
  refine HI.out.mono ?_
  clear HI
  rintro e w1 ⟨gx, v1, rfl, hgx, hX1, hO1, hb1⟩
  have HR := Aside0.mk (remove_any gx v1 l name w.heap.size w1 hb1.size hgx hX1 hO1 HLL.out (.iface τ u) ((hb1.cell (World.block_lt_of_cell? w _ HE2.out)).trans HE2.out))
  have HB1 := Aside0.mk hb1
  clear hgx hX1 hO1 hb1
  go_wp2_with fail
  refine HR.out.mono ?_
  clear HR
  rintro e w2 ⟨hb2, h | h⟩
  · obtain ⟨j, hj, p, v2, rfl, hn, ht, hX2, hO2⟩ := h
    have HD := Aside0.mk (show ∃ (j : Nat) (h : j < l.length), eqB l[j].f9 name = true ∧ (∀ o ∈ l.take j, eqB o.f9 name = false) ∧ l.eraseIdx j = l.eraseIdx j from ⟨j, hj, hn, ht, rfl⟩)
    have HF := Aside0.mk (filesOf_any gx v2 (l.eraseIdx j) w.heap.size w2 hX2 hO2 (by rw [List.length_eraseIdx_of_lt hj]; have := HLL.out; omega))
    have HD := Aside0.mk (show true = true → ∃ (j' : Nat) (h : j' < l.length), eqB l[j'].f9 name = true ∧ (∀ o ∈ l.take j', eqB o.f9 name = false) ∧ l.eraseIdx j = l.eraseIdx j' from fun _ => ⟨j, hj, hn, ht, rfl⟩)
    have HB2 := Aside0.mk (HB1.out.trans hb2)
    clear hb2 hn ht hX2 hO2
    go_wp2_with fail
    refine HF.out.mono ?_
    rintro e w3 ⟨v3, rfl, hR3, hb3⟩
    have HR3 := Aside0.mk (Kd.R_lower hR3 HB2.out.size)
    have HB3 := Aside0.mk (below_step HB2.out hb3)
    clear hR3 hb3 HF
    go_wp2_with fail
    go_ret2
    exact ⟨_, _, true, rfl, HR3.out, (fun _ => HD.out (by trivial)), (fun h => by cases h), HB3.out⟩
  · obtain ⟨hn, rfl⟩ := h
    have HN := Aside0.mk hn
    have HB2 := Aside0.mk (HB1.out.trans hb2)
    clear hb2 hn
    go_wp2_with fail
    go_ret2
    exact ⟨_, [], false, rfl, Kd.R_nil _ _ _ _ _, (fun h => by cases h), (fun _ => HN.out), HB2.out⟩
end Go.Proofs.YtoofbppfbbhliaaDoor.idx
