/- config: a configuration made of a list. -/
import Derived.Test.YtoofbppfbbhliaaDoorPutB
import Derived.Deep.RegionHeld3
namespace Go.Proofs.YtoofbppfbbhliaaDoor.confP
open Go.RowKit Go.Proofs.YtoofbppfbbhliaaDoorW.PrintWords Go.Proofs.YtoofbppfbbhliaaDoorW.PrintLast Go.Proofs.YtoofbppfbbhliaaDoorW.PrintMore Go.Proofs.YtoofbppfbbhliaaDoor.PFnConfAdd Go.Proofs.YtoofbppfbbhliaaDoor.ptr
set_option linter.unusedVariables false
set_option linter.unusedSimpArgs false
set_option maxHeartbeats 2000000
set_option maxRecDepth 100000
/-- A part of a section, and a section, as they lie in blocks of their own. -/
def kSub : Kd S115 := Kd.iso (Kd.pair Kd.string (Kd.slice 194 kO)) (fun x : S115 => (x.f0, x.f1))
abbrev kU : Kd S115 := ptr 172 kSub
def kSec : Kd S71 := Kd.iso (Kd.pair Kd.string (Kd.pair (Kd.slice 194 kO) (Kd.slice 155 kU))) (fun x : S71 => (x.f0, x.f1, x.f2))
abbrev kP : Kd S71 := ptr 169 kSec
theorem kSub_mkM {w : World} {base : Nat} {ok : Nat → Prop} {x : S115} {v : Value} (h : kO.R 194 w base ok v x.f1) : kSub.M w base ok x [.string x.f0, v] := ⟨[.string x.f0], [v], rfl, rfl, ⟨v, rfl, h⟩⟩
theorem kSub_openM {w : World} {base : Nat} {ok : Nat → Prop} {x : S115} {cs : List Value} (h : kSub.M w base ok x cs) : ∃ v, cs = [.string x.f0, v] ∧ kO.R 194 w base ok v x.f1 := by
  obtain ⟨_, _, rfl, rfl, ⟨v, rfl, h⟩⟩ := h
  exact ⟨v, rfl, h⟩
theorem kSub_open {w : World} {x : S115} {cs : List Value} (h : kSub.K w x cs) : ∃ A c, cs = [.string x.f0, .slice A x.f1.length c] ∧ x.f1.length ≤ c ∧ kO.C w A x.f1.length x.f1 := by
  obtain ⟨_, _, rfl, rfl, ⟨A, c, rfl, h1, h2⟩⟩ := h
  exact ⟨A, c, rfl, h1, h2⟩
theorem kSec_mkM {w : World} {base : Nat} {ok : Nat → Prop} {x : S71} {v u : Value} (h : kO.R 194 w base ok v x.f1) (h2 : kU.R 155 w base ok u x.f2) : kSec.M w base ok x [.string x.f0, v, u] :=
  ⟨[.string x.f0], [v, u], rfl, rfl, ⟨[v], [u], rfl, ⟨v, rfl, h⟩, ⟨u, rfl, h2⟩⟩⟩
theorem kSec_openM {w : World} {base : Nat} {ok : Nat → Prop} {x : S71} {cs : List Value} (h : kSec.M w base ok x cs) : ∃ v u, cs = [.string x.f0, v, u] ∧ kO.R 194 w base ok v x.f1 ∧ kU.R 155 w base ok u x.f2 := by
  obtain ⟨_, _, rfl, rfl, ⟨_, _, rfl, ⟨v, rfl, h⟩, ⟨u, rfl, h2⟩⟩⟩ := h
  exact ⟨v, u, rfl, h, h2⟩
theorem kSec_open {w : World} {x : S71} {cs : List Value} (h : kSec.K w x cs) : ∃ A c A' c', cs = [.string x.f0, .slice A x.f1.length c, .slice A' x.f2.length c'] ∧ x.f1.length ≤ c ∧ kO.C w A x.f1.length x.f1 ∧ x.f2.length ≤ c' ∧ kU.C w A' x.f2.length x.f2 := by
  obtain ⟨_, _, rfl, rfl, ⟨_, _, rfl, ⟨A, c, rfl, h1, h2⟩, ⟨A', c', rfl, h3, h4⟩⟩⟩ := h
  exact ⟨A, c, A', c', rfl, h1, h2, h3, h4⟩
/-- Nothing in it is too long for the model's memory. -/
def Fits (l : List S71) : Prop := l.length ≤ 4294967295 ∧ ∀ s ∈ l, s.f1.length ≤ 4294967295 ∧ s.f2.length ≤ 4294967295 ∧ ∀ x ∈ s.f2, x.f1.length ≤ 4294967295
theorem rdS {l : List S71} {j : Nat} (h : j < l.length) : rd_T71 l (j : Int) = l[j] := by
  unfold rd_T71
  rw [Int.toNat_natCast, List.getD_eq_getElem?_getD, List.getElem?_eq_getElem h]; rfl
theorem rdU {l : List S115} {j : Nat} (h : j < l.length) : rd_T115 l (j : Int) = l[j] := by
  unfold rd_T115
  rw [Int.toNat_natCast, List.getD_eq_getElem?_getD, List.getElem?_eq_getElem h]; rfl
theorem infoQ : (Tryd.prog.info? 122).map (fun i => (i.zero, i.size, i.bytes)) = some (some (.pointer none), 1, 8) := by kernel_rfl
theorem infoU : (Tryd.prog.info? 155).map (fun i => (i.zero, i.size, i.bytes)) = some (some (.pointer none), 1, 8) := by kernel_rfl
theorem sub_room {n : Nat} (h : n ≤ 4294967295) : (n + 1) * 8 ≤ 140737488355328 := by omega
theorem sub_M {w5 : World} {lo base : Nat} {x : S115} {A5 : Option Addr} {c5 : Nat} (h : kO.R 194 w5 lo (fun _ => True) (.slice A5 x.f1.length c5) x.f1) (hb : base ≤ lo) (hl : lo ≤ w5.heap.size) :
    kU.M (w5.alloc (.cells #[.string x.f0, .slice A5 x.f1.length c5] 172 (0, 0))) base (fun k => lo ≤ k) x [.pointer (some ⟨w5.heap.size, 0, none⟩)] :=
  ⟨w5.heap.size, _, rfl, hl, Nat.le_trans hb hl, blk_new w5 _, kSub_mkM (Kd.R_lower (Kd.R_mono (Kd.R_bound (Kd.R_types (Kd.R_alloc h _) (blk_new w5 _) (by decide))) (fun k hk => ⟨hk.2.1, hk.1.2⟩)) hb)⟩
theorem sec_M {w : World} {gx lo base : Nat} {s : S71} {v u : Value} (h1 : kO.R 194 w lo (fun _ => True) v s.f1) (h2 : kU.R 155 w lo (fun _ => True) u s.f2) (hx : w.heap[gx]? = some (.cells #[.string s.f0, v, u] 169 (0, 0))) (hg : lo ≤ gx) (hb : base ≤ lo) :
    kP.M w base (fun k => lo ≤ k) s [.pointer (some ⟨gx, 0, none⟩)] :=
  ⟨gx, _, rfl, hg, Nat.le_trans hb hg, hx, kSec_mkM (Kd.R_lower (Kd.R_mono (Kd.R_bound (Kd.R_types h1 hx (by decide))) (fun k hk => ⟨hk.2.1, hk.1.2⟩)) hb) (Kd.R_lower (Kd.R_mono (Kd.R_bound (Kd.R_types h2 hx (by decide))) (fun k hk => ⟨hk.2.1, hk.1.2⟩)) hb)⟩
theorem configOf_any (A0 : Option Addr) (c0 : Nat) (l0 : List S71) (w : World) (hr0 : Kd.C k71 w A0 l0.length l0) (hc0 : l0.length ≤ c0) (hl : Fits l0) :
    Calls Tryd.prog 69 #[.slice A0 l0.length c0] w fun e w' => ∃ g v, e = .returned (.pointer (some ⟨g, 0, none⟩)) ∧ w.heap.size ≤ g ∧ w'.heap[g]? = some (.cells #[.pointer none, v, .slice none 0 0] 163 (0, 0)) ∧ Kd.R kP 122 w' w.heap.size (fun _ => True) v l0 ∧ Below w.heap.size w w' := by
  have hu71 := Tryd.underlying71
  have hu115 := Tryd.underlying115
  have HR0 := Aside0.mk hr0
  have HL := Aside0.mk hl
  have hb31 := hl.1
  clear hr0 hl
  have HN : Calls Tryd.prog 98 #[] w fun e w' => ∃ g, e = .returned (.pointer (some ⟨g, 0, none⟩)) ∧ w.heap.size ≤ g ∧ w'.heap[g]? = some (.cells #[.pointer none, .slice none 0 0, .slice none 0 0] 163 (0, 0)) ∧ Below w.heap.size w w' := by
    go_enter Tryd.func98, Tryd.ntmps98
    go_wp2
    go_ret
    exact ⟨w.heap.size, rfl, Nat.le_refl _, blk_new w _, below_alloc (Below.refl _ _) _⟩
  have HNN := Aside0.mk HN
  clear HN
  go_enter Tryd.func69, Tryd.ntmps69
  go_wp2_with fail
  refine HNN.out.mono ?_
  clear HNN
  rintro e w1 ⟨gc, rfl, hgc, hbc, hb1⟩
  have HGC := Aside0.mk hgc
  have HBC := Aside0.mk hbc
  have HB1 := Aside0.mk hb1
  clear hgc hbc hb1
  go_wp2_with fail
  go_loopg [12] (l0.length + 1) (fun kq v12 w' => ∃ (j : Nat) (v : Value), v12 = .int .i64 (j : Int) ∧ j ≤ l0.length ∧ Aside0 (kq + j = l0.length + 1) ∧ Aside0 (w'.heap[gc]? = some (.cells #[.pointer none, v, .slice none 0 0] 163 (0, 0))) ∧ Aside0 (Kd.R kP 122 w' w.heap.size (fun _ => True) v (l0.take j)) ∧ Aside0 (Below w.heap.size w w'))
  case atStart => exact ⟨0, .slice none 0 0, rfl, Nat.zero_le _, ⟨by omega⟩, HBC, ⟨Kd.R_nil _ _ _ _ _⟩, HB1⟩
  case round =>
    clear HBC HB1
    obtain ⟨j, v, rfl, hj, HK, HC, HO, HB⟩ := hrel
    cases gk with
    | zero => exact absurd HK.out (by omega)
    | succ k1 =>
      obtain ⟨wo, hwo⟩ : ∃ wo : World, wo = wr := ⟨_, rfl⟩
      subst hwo
      by_cases hlt : j < l0.length
      · have p150 : 0 ≤ (j : Int) := by omega
        have q150 : (j : Int) < (l0.length : Int) := by omega
        have c5b0 : decide ((j : Int) < (l0.length : Int)) = true := decide_eq_true q150
        obtain ⟨ad, A1, c1, A2, c2, e0, hx0, hx1, hx2, hl1, hC1, hl2, hC2⟩ := at_T71 HR0.out j p150 q150
        subst e0
        rw [rdS hlt] at hx0 hx1 hx2 hl1 hC1 hl2 hC2
        rw [Int.toNat_natCast] at hx0 hx1 hx2
        replace hx0 := (HB.out.cell (World.block_lt_of_cell? w _ hx0)).trans hx0
        replace hx1 := (HB.out.cell (World.block_lt_of_cell? w _ hx1)).trans hx1
        replace hx2 := (HB.out.cell (World.block_lt_of_cell? w _ hx2)).trans hx2
        have HF := Aside0.mk (HL.out.2 _ (List.getElem_mem hlt))
        have hb32 := HF.out.2.1
        obtain ⟨s, hs⟩ : ∃ s, l0[j] = s := ⟨_, rfl⟩
        have HT := Aside0.mk (take_snoc hlt)
        rw [hs] at hx0 hx1 hx2 hl1 hC1 hl2 hC2 HF HT hb32
        have HC1 := Aside0.mk (Kd.C_below hC1 HB.out)
        have HC2 := Aside0.mk (Kd.C_below hC2 HB.out)
        have HL1 := Aside0.mk hl1
        have HL2 := Aside0.mk hl2
        have HI := Aside0.mk hlt
        clear hC1 hC2 hl1 hl2 hs
        go_wp2_with (first | ((with_reducible refine gate_dst (N := 5) rfl ?_); refine box_event ?hg (N := 5) ?hd (cs := #[.string (⟨#[]⟩ : ByteArray), .slice none 0 0, .slice none 0 0]) (t := 71) ?hr ?_; (case hd => rfl); (case hg => rfl); (case hr => first | (go_simp; done) | (go_simp; rfl)); intro g1 hg1 wa hbox hb; have HBa := Aside0.mk hb; have GE1 := Aside0.mk (show wo.heap.size ≤ g1 by rw [hg1]; exact Nat.le_refl _); have BK1 := Aside0.mk hbox; clear hbox hb hg1; have hz0 : wa.cell? ⟨g1, 0, none⟩ = some (.string (⟨#[]⟩ : ByteArray)) := (blk_cell BK1.out 0).trans rfl; have hz1 : wa.cell? ⟨g1, 1, none⟩ = some (.slice none 0 0) := (blk_cell BK1.out 1).trans rfl; have hz2 : wa.cell? ⟨g1, 2, none⟩ = some (.slice none 0 0) := (blk_cell BK1.out 2).trans rfl; have hf0 := blk_frozen BK1.out 0; have hf1 := blk_frozen BK1.out 1; have hf2 := blk_frozen BK1.out 2))
        generalize hW : World.setCell _ _ _ = W1
        have BW := Aside0.mk (show W1.heap[g1]? = some (.cells #[.string s.f0, .slice A1 s.f1.length c1, .slice A2 s.f2.length c2] 71 (0, 0)) by rw [← hW]; exact blk_put (cs := #[.string s.f0, .slice A1 s.f1.length c1, .slice none 0 0]) (blk_put (cs := #[.string s.f0, .slice none 0 0, .slice none 0 0]) (blk_put (cs := #[.string (⟨#[]⟩ : ByteArray), .slice none 0 0, .slice none 0 0]) BK1.out 0 _ rfl) 1 _ rfl) 2 _ rfl)
        have HB1 := Aside0.mk (show Below wo.heap.size wo W1 by rw [← hW]; exact below_set (below_set (below_set HBa.out GE1.out) GE1.out) GE1.out)
        clear hz0 hz1 hz2 hf0 hf1 hf2 BK1 HBa hW hx0 hx1 hx2
        have h0 : W1.cell? ⟨g1, 0, none⟩ = some (.string s.f0) := (blk_cell BW.out 0).trans rfl
        have h1 : W1.cell? ⟨g1, 1, none⟩ = some (.slice A1 s.f1.length c1) := (blk_cell BW.out 1).trans rfl
        go_region_held3 (fun w' => w'.cell? ⟨g1, 0, none⟩ = some (.string s.f0) ∧ w'.cell? ⟨g1, 1, none⟩ = some (.slice A1 s.f1.length c1)) (first | go_keep | exact ⟨q0, q1⟩) ((go_at_call 99; refine (optionsOf_any A1 c1 s.f1 _ (Kd.C_below HC1.out (below_drew HB1.out)) HL1.out HF.out.1).mono ?_; rintro e w2 ⟨v2, rfl, hR2, hb2⟩; obtain ⟨Ao, co, eo⟩ := Kd.R_slice hR2; subst eo; have q0 := (hb2.cell (World.block_lt_of_cell? W1.drew _ h0)).trans h0; have q1 := (hb2.cell (World.block_lt_of_cell? W1.drew _ h1)).trans h1; have HR2 := Aside0.mk hR2; have HB2 := Aside0.mk hb2; clear hR2 hb2))
        have BX := Aside0.mk (blk_new w2 (.cells #[.string s.f0, .slice Ao s.f1.length co, .slice none 0 0] 169 (0, 0)))
        have hb3 : Below wo.heap.size wo (w2.alloc (.cells #[.string s.f0, .slice Ao s.f1.length co, .slice none 0 0] 169 (0, 0))) := below_alloc (below_step (below_drew HB1.out) HB2.out) _
        have BS := Aside0.mk (blk_alloc ((HB2.out.block g1 (blk_lt BW.out)).trans BW.out) (.cells #[.string s.f0, .slice Ao s.f1.length co, .slice none 0 0] 169 (0, 0)))
        have HR3 := Aside0.mk (Kd.R_lower (Kd.R_alloc HR2.out (.cells #[.string s.f0, .slice Ao s.f1.length co, .slice none 0 0] 169 (0, 0))) (HB1.out.size))
        have GX := Aside0.mk (below_size (below_step (below_drew HB1.out) HB2.out))
        have HB3 := Aside0.mk hb3
        clear hb3 HR2 HB2 BW HB1 h0 h1 q0 q1
        generalize w2.alloc (.cells #[.string s.f0, .slice Ao s.f1.length co, .slice none 0 0] 169 (0, 0)) = W3 at *
        generalize w2.heap.size = gx at *
        have h2 : W3.cell? ⟨g1, 2, none⟩ = some (.slice A2 s.f2.length c2) := (blk_cell BS.out 2).trans rfl
        go_wp2_with fail
        clear h2
        go_loopg [26] (s.f2.length + 1) (fun kq v26 w' => ∃ (i : Nat) (vu : Value), v26 = .int .i64 (i : Int) ∧ i ≤ s.f2.length ∧ Aside0 (kq + i = s.f2.length + 1) ∧ Aside0 (w'.heap[gx]? = some (.cells #[.string s.f0, .slice Ao s.f1.length co, vu] 169 (0, 0))) ∧ Aside0 (Kd.R kO 194 w' wo.heap.size (fun _ => True) (.slice Ao s.f1.length co) s.f1) ∧ Aside0 (Kd.R kU 155 w' wo.heap.size (fun _ => True) vu (s.f2.take i)) ∧ Aside0 (Below wo.heap.size wo w'))
        case atStart => exact ⟨0, .slice none 0 0, rfl, Nat.zero_le _, ⟨by omega⟩, BX, HR3, ⟨Kd.R_nil _ _ _ _ _⟩, HB3⟩
        case round =>
          clear BX HR3 HB3 BS
          obtain ⟨i, vu, rfl, hi, HKi, HX, HRO, HRU, HBi⟩ := hrel
          cases gk with
          | zero => exact absurd HKi.out (by omega)
          | succ k2 =>
            by_cases hlu : i < s.f2.length
            · have p250 : 0 ≤ (i : Int) := by omega
              have q250 : (i : Int) < (s.f2.length : Int) := by omega
              have c6b0 : decide ((i : Int) < (s.f2.length : Int)) = true := decide_eq_true q250
              obtain ⟨ad2, A4, c4, e2, hy0, hy1, hl4, hC4⟩ := at_T115 HC2.out i p250 q250
              subst e2
              rw [rdU hlu] at hy0 hy1 hl4 hC4
              rw [Int.toNat_natCast] at hy0 hy1
              replace hy0 := (HBi.out.cell (World.block_lt_of_cell? wo _ hy0)).trans hy0
              replace hy1 := (HBi.out.cell (World.block_lt_of_cell? wo _ hy1)).trans hy1
              have HFx := Aside0.mk (HF.out.2.2 _ (List.getElem_mem hlu))
              have HTu := Aside0.mk (take_snoc hlu)
              have HYl := Aside0.mk (show (s.f2.take i).length ≤ 4294967295 by rw [List.length_take]; have := HF.out.2.1; omega)
              obtain ⟨x, hx⟩ : ∃ x, s.f2[i] = x := ⟨_, rfl⟩
              rw [hx] at hy0 hy1 hl4 hC4 HFx HTu
              obtain ⟨ys, hys⟩ : ∃ ys, s.f2.take i = ys := ⟨_, rfl⟩
              obtain ⟨zs, hzs⟩ : ∃ zs, s.f2.take (i + 1) = zs := ⟨_, rfl⟩
              rw [hys] at HRU HTu HYl
              rw [hzs] at HTu
              have HZ := Aside0.mk hzs
              have HC4 := Aside0.mk hC4
              have HL4 := Aside0.mk hl4
              have HIu := Aside0.mk hlu
              obtain ⟨Au, cu, eu⟩ := Kd.R_slice HRU.out
              subst eu
              clear hx hys hzs hC4 hl4
              go_wp2_with (first | ((with_reducible refine gate_dst (N := 8) rfl ?_); refine box_event ?hg8 (N := 8) ?hd8 (cs := #[.string (⟨#[]⟩ : ByteArray), .slice none 0 0]) (t := 115) ?hr8 ?_; (case hd8 => rfl); (case hg8 => rfl); (case hr8 => first | (go_simp; done) | (go_simp; rfl)); intro g3 hg3 wb hbox hb; have HBb := Aside0.mk hb; have GE3 := Aside0.mk (show wr.heap.size ≤ g3 by rw [hg3]; exact Nat.le_refl _); have BK3 := Aside0.mk hbox; clear hbox hb hg3; have hz0 : wb.cell? ⟨g3, 0, none⟩ = some (.string (⟨#[]⟩ : ByteArray)) := (blk_cell BK3.out 0).trans rfl; have hz1 : wb.cell? ⟨g3, 1, none⟩ = some (.slice none 0 0) := (blk_cell BK3.out 1).trans rfl; have hf0 := blk_frozen BK3.out 0; have hf1 := blk_frozen BK3.out 1))
              generalize hW : World.setCell _ _ _ = W4
              have BW4 := Aside0.mk (show W4.heap[g3]? = some (.cells #[.string x.f0, .slice A4 x.f1.length c4] 115 (0, 0)) by rw [← hW]; exact blk_put (cs := #[.string x.f0, .slice none 0 0]) (blk_put (cs := #[.string (⟨#[]⟩ : ByteArray), .slice none 0 0]) BK3.out 0 _ rfl) 1 _ rfl)
              have HB4 := Aside0.mk (show Below wr.heap.size wr W4 by rw [← hW]; exact below_set (below_set HBb.out GE3.out) GE3.out)
              clear hz0 hz1 hf0 hf1 BK3 HBb hW hy0 hy1
              have HX4 := Aside0.mk ((HB4.out.block gx (blk_lt HX.out)).trans HX.out)
              have h3 : W4.cell? ⟨g3, 0, none⟩ = some (.string x.f0) := (blk_cell BW4.out 0).trans rfl
              have h4 : W4.cell? ⟨g3, 1, none⟩ = some (.slice A4 x.f1.length c4) := (blk_cell BW4.out 1).trans rfl
              have h5 : W4.cell? ⟨gx, 2, none⟩ = some (.slice Au ys.length cu) := (blk_cell HX4.out 2).trans rfl
              have HRU4 := Aside0.mk (Kd.R_below (Kd.R_below HRU.out HB4.out) (below_drew (Below.refl _ _)))
              have HRO4 := Aside0.mk (Kd.R_below (Kd.R_below HRO.out HB4.out) (below_drew (Below.refl _ _)))
              have HBo4 := Aside0.mk (below_drew (below_step HBi.out HB4.out))
              -- REGION9
              refine start_ (n := 17) (S := fun w' => w'.cell? ⟨g3, 0, none⟩ = some (.string x.f0) ∧ w'.cell? ⟨g3, 1, none⟩ = some (.slice A4 x.f1.length c4) ∧ w'.cell? ⟨gx, 2, none⟩ = some (.slice Au ys.length cu)) (ds := [16]) #[false, false, false, false, false, false, false, false, false, false, false, false, false, false, false, false, false] (by kernel_rfl) rfl rfl ⟨h3, h4, h5⟩ (fun hHeld => ?_)
              refine pure_ (i := 0) (N := some 30) (v := ?_) (a' := ?_) #[true, false, false, false, false, false, false, false, false, false, false, false, false, false, false, false, false] rfl rfl (by kernel_rfl) (fun _ _ _ h => h) (Or.inl ⟨by rfl, ?_⟩) ?_ ?_
              rotate_left
              · intro w'
                go_simp
                with_reducible rfl
              rotate_left
              · simp only [Act.put, List.setIfInBounds_toArray, List.set_cons_zero, List.set_cons_succ, i64_w, i32_w]
                rfl
              refine pure_ (i := 1) (N := some 31) (v := ?_) (a' := ?_) #[true, true, false, false, false, false, false, false, false, false, false, false, false, false, false, false, false] rfl rfl (by kernel_rfl) (fun _ _ _ h => h) (Or.inl ⟨by rfl, ?_⟩) ?_ ?_
              rotate_left
              · intro w'
                go_simp
                with_reducible rfl
              rotate_left
              · simp only [Act.put, List.setIfInBounds_toArray, List.set_cons_zero, List.set_cons_succ, i64_w, i32_w]
                rfl
              refine pure_ (i := 2) (N := some 32) (v := ?_) (a' := ?_) #[true, true, true, false, false, false, false, false, false, false, false, false, false, false, false, false, false] rfl rfl (by kernel_rfl) (fun _ _ _ h => h) (Or.inl ⟨by rfl, ?_⟩) ?_ ?_
              rotate_left
              · intro w'
                go_simp
                with_reducible rfl
              rotate_left
              · simp only [Act.put, List.setIfInBounds_toArray, List.set_cons_zero, List.set_cons_succ, i64_w, i32_w]
                rfl
              refine pure_ (i := 3) (N := some 33) (v := ?_) (a' := ?_) #[true, true, true, true, false, false, false, false, false, false, false, false, false, false, false, false, false] rfl rfl (by kernel_rfl) (fun _ _ _ h => h) (Or.inl ⟨by rfl, ?_⟩) ?_ ?_
              rotate_left
              · intro w'
                go_simp
                with_reducible rfl
              rotate_left
              · simp only [Act.put, List.setIfInBounds_toArray, List.set_cons_zero, List.set_cons_succ, i64_w, i32_w]
                rfl
              refine pure_ (i := 5) (N := some 35) (v := ?_) (a' := ?_) #[true, true, true, true, false, true, false, false, false, false, false, false, false, false, false, false, false] rfl rfl (by kernel_rfl) (fun _ _ _ h => h) (Or.inl ⟨by rfl, ?_⟩) ?_ ?_
              rotate_left
              · intro w'
                go_simp
                with_reducible rfl
              rotate_left
              · simp only [Act.put, List.setIfInBounds_toArray, List.set_cons_zero, List.set_cons_succ, i64_w, i32_w]
                rfl
              refine pure_ (i := 7) (N := some 37) (v := ?_) (a' := ?_) #[true, true, true, true, false, true, false, true, false, false, false, false, false, false, false, false, false] rfl rfl (by kernel_rfl) (fun _ _ _ h => h) (Or.inl ⟨by rfl, ?_⟩) ?_ ?_
              rotate_left
              · intro w'
                go_simp
                with_reducible rfl
              rotate_left
              · simp only [Act.put, List.setIfInBounds_toArray, List.set_cons_zero, List.set_cons_succ, i64_w, i32_w]
                rfl
              refine take_ (i := 4) (N := some 34) (v := ?_) (a' := ?_) #[true, true, true, true, true, true, false, true, false, false, false, false, false, false, false, false, false] rfl rfl (by kernel_rfl) (fun _ _ _ h => h) (Or.inl ⟨by rfl, ?_⟩) hHeld ?_ ?_
              rotate_left
              · rintro w' ⟨s0, s1, s2⟩
                go_simp
                with_reducible rfl
              rotate_left
              · simp only [Act.put, List.setIfInBounds_toArray, List.set_cons_zero, List.set_cons_succ, i64_w, i32_w]
                rfl
              refine take_ (i := 6) (N := some 36) (v := ?_) (a' := ?_) #[true, true, true, true, true, true, true, true, false, false, false, false, false, false, false, false, false] rfl rfl (by kernel_rfl) (fun _ _ _ h => h) (Or.inl ⟨by rfl, ?_⟩) hHeld ?_ ?_
              rotate_left
              · rintro w' ⟨s0, s1, s2⟩
                go_simp
                with_reducible rfl
              rotate_left
              · simp only [Act.put, List.setIfInBounds_toArray, List.set_cons_zero, List.set_cons_succ, i64_w, i32_w]
                rfl
              refine take_ (i := 8) (N := some 38) (v := ?_) (a' := ?_) #[true, true, true, true, true, true, true, true, true, false, false, false, false, false, false, false, false] rfl rfl (by kernel_rfl) (fun _ _ _ h => h) (Or.inl ⟨by rfl, ?_⟩) hHeld ?_ ?_
              rotate_left
              · rintro w' ⟨s0, s1, s2⟩
                go_simp
                with_reducible rfl
              rotate_left
              · simp only [Act.put, List.setIfInBounds_toArray, List.set_cons_zero, List.set_cons_succ, i64_w, i32_w]
                rfl
              refine one_ (i := 9) (N := some 39) #[true, true, true, true, true, true, true, true, true, true, false, false, false, false, false, false, false] rfl rfl (by kernel_rfl) (by decide) (fun K hK => ?_)
              refine goes_ Tryd.func99 (by kernel_rfl) rfl #[.slice A4 x.f1.length c4] (by rfl) rfl rfl (by simp only [List.map_toArray, List.map_cons, List.map_nil]; rfl) ?_
              with_reducible refine (optionsOf_any A4 c4 x.f1 _ (Kd.C_below HC4.out HBo4.out) HL4.out HFx.out).mono ?_
              rintro e w5 ⟨v5, rfl, hR5, hb5⟩
              refine ⟨_, rfl, ?_⟩
              obtain ⟨A5, c5, e5⟩ := Kd.R_slice hR5
              subst e5
              have BX5 := Aside0.mk ((hb5.block gx (blk_lt HX4.out)).trans HX4.out)
              have BW5 := Aside0.mk ((hb5.block g3 (blk_lt BW4.out)).trans BW4.out)
              have HUw := Aside0.mk (Kd.R_alloc (Kd.R_below HRU4.out hb5) (.cells #[.string x.f0, .slice A5 x.f1.length c5] 172 (0, 0)))
              have HOw := Aside0.mk (Kd.R_alloc (Kd.R_below HRO4.out hb5) (.cells #[.string x.f0, .slice A5 x.f1.length c5] 172 (0, 0)))
              have HBw := Aside0.mk (below_alloc (below_step HBo4.out hb5) (.cells #[.string x.f0, .slice A5 x.f1.length c5] 172 (0, 0)))
              have HMw := Aside0.mk (sub_M hR5 HBo4.out.size hb5.size)
              have HXw := Aside0.mk (blk_alloc BX5.out (.cells #[.string x.f0, .slice A5 x.f1.length c5] 172 (0, 0)))
              have HWw := Aside0.mk (blk_alloc BW5.out (.cells #[.string x.f0, .slice A5 x.f1.length c5] 172 (0, 0)))
              have HHH := Aside0.mk (show Value.slice (some ⟨w5.heap.size + 1, 0, none⟩) 1 1 = Value.slice (some ⟨(w5.alloc (.cells #[.string x.f0, .slice A5 x.f1.length c5] 172 (0, 0))).heap.size, 0, none⟩) 1 1 by simp)
              clear hR5 hb5
              refine hK.out _ _ ⟨(blk_cell BW5.out 0).trans rfl, (blk_cell BW5.out 1).trans rfl, (blk_cell BX5.out 2).trans rfl⟩ (fun hHeld => ?_)
              clear hK K
              refine norm_ (a' := ?_) ?_ ?_
              rotate_left
              · show Act.put _ (some 39) _ = _
                simp only [Act.put, List.setIfInBounds_toArray, List.set_cons_zero, List.set_cons_succ, i64_w, i32_w]
                rfl
              refine pure_ (i := 10) (N := some 40) (v := ?_) (a' := ?_) #[true, true, true, true, true, true, true, true, true, true, true, false, false, false, false, false, false] rfl rfl (by kernel_rfl) (fun _ _ _ h => h) (Or.inl ⟨by rfl, ?_⟩) ?_ ?_
              rotate_left
              · intro w'
                go_simp
                with_reducible rfl
              rotate_left
              · simp only [Act.put, List.setIfInBounds_toArray, List.set_cons_zero, List.set_cons_succ, i64_w, i32_w]
                rfl
              refine one_ (i := 11) (N := some 41) #[true, true, true, true, true, true, true, true, true, true, true, true, false, false, false, false, false] rfl rfl (by kernel_rfl) (by decide) (fun K hK => ?_)
              refine value_ (w1 := ?_) (v := ?_) (by rfl) rfl ?_ ?_
              rotate_left 2
              · go_simp
                constructor
                · rfl
                · rfl
              refine hK.out _ _ ⟨(blk_cell HWw.out 0).trans rfl, (blk_cell HWw.out 1).trans rfl, (blk_cell HXw.out 2).trans rfl⟩ (fun hHeld => ?_)
              clear hK K
              refine norm_ (a' := ?_) ?_ ?_
              rotate_left
              · show Act.put _ (some 41) _ = _
                simp only [Act.put, List.setIfInBounds_toArray, List.set_cons_zero, List.set_cons_succ, i64_w, i32_w]
                rfl
              refine one_ (i := 12) (N := some 42) #[true, true, true, true, true, true, true, true, true, true, true, true, true, false, false, false, false] rfl rfl (by kernel_rfl) (by decide) (fun K hK => ?_)
              refine value_ (w1 := ?_) (v := ?_) (by rfl) rfl ?_ ?_
              rotate_left 2
              · go_simp
                constructor
                · rfl
                · rfl
              refine hK.out _ _ ⟨(blk_cell (blk_alloc HWw.out _) 0).trans rfl, (blk_cell (blk_alloc HWw.out _) 1).trans rfl, (blk_cell (blk_alloc HXw.out _) 2).trans rfl⟩ (fun hHeld => ?_)
              clear hK K
              refine norm_ (a' := ?_) ?_ ?_
              rotate_left
              · show Act.put _ (some 42) _ = _
                simp only [Act.put, List.setIfInBounds_toArray, List.set_cons_zero, List.set_cons_succ, i64_w, i32_w]
                rfl
              refine one_ (i := 13) (N := some 43) #[true, true, true, true, true, true, true, true, true, true, true, true, true, true, false, false, false] rfl rfl (by kernel_rfl) (by decide) (fun K hK => ?_)
              refine append_E kU (w0 := wo) (W := w5.alloc (.cells #[.string x.f0, .slice A5 x.f1.length c5] 172 (0, 0))) wo.heap.size rfl (.tmp 34) (.tmp 42) 167 155 (.pointer none) 8 rfl Tryd.underlying167 infoU rfl (by decide) (by omega) (.slice Au ys.length cu) ys x [.pointer (some ⟨w5.heap.size, 0, none⟩)] (fun _ => True) (fun k => W4.drew.heap.size ≤ k) rfl HHH.out HMw.out (fun k hk => ⟨trivial, Kd.fresh' (Kd.R_lt HRU4.out) k hk⟩) (fun _ _ => trivial) HUw.out HBw.out (below_size HBw.out) (sub_room HYl.out) ?_
              intro v6 w6 ho hb hg hat
              rw [← HTu.out] at ho
              obtain ⟨A6, c6, e6⟩ := Kd.R_slice ho
              subst e6
              have BX6 := Aside0.mk (blk_grown HXw.out hg (Kd.R_ne HUw.out HXw.out (by decide)))
              have BW6 := Aside0.mk (blk_grown HWw.out hg (Kd.R_ne HUw.out HWw.out (by decide)))
              have HRO6 := Aside0.mk (Kd.R_over HOw.out HUw.out (by decide) hg)
              have HRU6 := Aside0.mk ho
              have HB6 := Aside0.mk hb
              clear ho hb hg hat
              have m2 : w6.cell? ⟨gx, 2, none⟩ = some (.slice Au ys.length cu) := (blk_cell BX6.out 2).trans rfl
              have mf := blk_frozen BX6.out 2
              refine hK.out _ _ ⟨(blk_cell BW6.out 0).trans rfl, (blk_cell BW6.out 1).trans rfl, (blk_cell BX6.out 2).trans rfl⟩ (fun hHeld => ?_)
              clear hK K
              refine norm_ (a' := ?_) ?_ ?_
              rotate_left
              · show Act.put _ (some 43) _ = _
                simp only [Act.put, List.setIfInBounds_toArray, List.set_cons_zero, List.set_cons_succ, i64_w, i32_w]
                rfl
              refine pure_ (i := 14) (N := some 44) (v := ?_) (a' := ?_) #[true, true, true, true, true, true, true, true, true, true, true, true, true, true, true, false, false] rfl rfl (by kernel_rfl) (fun _ _ _ h => h) (Or.inl ⟨by rfl, ?_⟩) ?_ ?_
              rotate_left
              · intro w'
                go_simp
                with_reducible rfl
              rotate_left
              · simp only [Act.put, List.setIfInBounds_toArray, List.set_cons_zero, List.set_cons_succ, i64_w, i32_w]
                rfl
              refine pure_ (i := 15) (N := some 45) (v := ?_) (a' := ?_) #[true, true, true, true, true, true, true, true, true, true, true, true, true, true, true, true, false] rfl rfl (by kernel_rfl) (fun _ _ _ h => h) (Or.inl ⟨by rfl, ?_⟩) ?_ ?_
              rotate_left
              · intro w'
                go_simp
                with_reducible rfl
              rotate_left
              · simp only [Act.put, List.setIfInBounds_toArray, List.set_cons_zero, List.set_cons_succ, i64_w, i32_w]
                rfl
              refine last_ (i := 16) (N := none) #[true, true, true, true, true, true, true, true, true, true, true, true, true, true, true, true, true] rfl rfl (by kernel_rfl) (by decide) (fun K hK => ?_)
              refine skip_ (w1 := ?_) (by rfl) rfl ?_ ?_
              rotate_left
              · go_simp
                rfl
              refine hK.out _ _ ?_
              clear hK K
              refine done_ (by kernel_rfl) ?_
              -- END9
              go_wp2
              go_roundg k2
              case measure => have := HKi.out; omega
              case rel => exact ⟨i + 1, .slice A6 zs.length c6, by go_num, HIu.out, ⟨by have := HKi.out; omega⟩, ⟨blk_put (cs := #[.string s.f0, .slice Ao s.f1.length co, .slice Au ys.length cu]) BX6.out 2 _ rfl⟩, ⟨Kd.R_set HRO6.out BX6.out (by decide) 2 _⟩, ⟨by rw [HZ.out]; exact Kd.R_set HRU6.out BX6.out (by decide) 2 _⟩, ⟨below_set HB6.out GX.out⟩⟩
            · have c6b0 : decide ((i : Int) < (s.f2.length : Int)) = false := decide_eq_false (by omega)
              have HTu := Aside0.mk (show s.f2.take i = s.f2 from List.take_of_length_le (by omega))
              rw [HTu.out] at HRU
              have HCi := Aside0.mk ((HBi.out.block gc (blk_lt HC.out)).trans HC.out)
              have HOi := Aside0.mk (Kd.R_below HO.out HBi.out)
              have hv1 : wr.cell? ⟨gc, 1, none⟩ = some v := (blk_cell HCi.out 1).trans rfl
              have GCX := Aside0.mk (blk_ne HCi.out HX.out (by decide))
              clear HTu
              have HBw := Aside0.mk (below_step HB.out HBi.out)
              obtain ⟨zs, hzs⟩ : ∃ zs, l0.take (j + 1) = zs := ⟨_, rfl⟩
              rw [hzs] at HT
              have HZ := Aside0.mk hzs
              have HTl := Aside0.mk (show (l0.take j).length ≤ 4294967295 by rw [List.length_take]; have := HL.out.1; omega)
              clear hzs
              go_wp2_with (first | ((with_reducible refine gate_builtin (b := .append) (xs := #[.tmp 51, .tmp 53]) rfl ?_); at_builtin; go_must (refine Kd.R_append kP (w0 := w) w.heap.size rfl (.tmp 51) (.tmp 53) 159 122 (.pointer none) 8 rfl Tryd.underlying159 infoQ rfl (by decide) (by omega) v (l0.take j) s [.pointer (some ⟨gx, 0, none⟩)] (fun _ => True) (fun k => wo.heap.size ≤ k) rfl (by first | (go_simp; done) | (go_simp; rfl)) (sec_M HRO.out HRU.out HX.out GX.out HB.out.size) (fun k hk => ⟨trivial, Kd.fresh' (Kd.R_lt HO.out) k hk⟩) (fun _ _ => trivial) HOi.out HBw.out (below_size HBw.out) (sub_room HTl.out) ?_); intro v5 w5 ho hb hg hat; go_must (rw [← HT.out] at ho); obtain ⟨A5, c5, e5⟩ := Kd.R_slice ho; subst e5; have BC5 := Aside0.mk (blk_grown HCi.out hg (Kd.R_ne HOi.out HCi.out (by decide))); have HO5 := Aside0.mk ho; have HB5 := Aside0.mk hb; clear ho hb hg hat; have n1 : w5.cell? ⟨gc, 1, none⟩ = some v := (blk_cell BC5.out 1).trans rfl; have nf := blk_frozen BC5.out 1))
              go_roundg k1
              case measure => have := HK.out; omega
              case rel => exact ⟨j + 1, .slice A5 zs.length c5, by go_num, HI.out, ⟨by have := HK.out; omega⟩, ⟨blk_put (cs := #[.pointer none, v, .slice none 0 0]) BC5.out 1 _ rfl⟩, ⟨by rw [HZ.out]; exact Kd.R_set HO5.out BC5.out (by decide) 1 _⟩, ⟨below_set HB5.out HGC.out⟩⟩
      · have c5b0 : decide ((j : Int) < (l0.length : Int)) = false := decide_eq_false (by omega)
        have HT := Aside0.mk (show l0.take j = l0 from List.take_of_length_le (by omega))
        go_wp2
        go_ret
        exact ⟨gc, v, rfl, HGC.out, HC.out, by rw [← HT.out]; exact HO.out, HB.out⟩
end Go.Proofs.YtoofbppfbbhliaaDoor.confP
