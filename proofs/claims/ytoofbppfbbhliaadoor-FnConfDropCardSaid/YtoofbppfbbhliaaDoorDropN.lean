/- config: the text of one section. -/
import Derived.Test.YtoofbppfbbhliaaDoorDropM
namespace Go.Proofs.YtoofbppfbbhliaaDoor.confD
open Go.RowKit Go.Proofs.YtoofbppfbbhliaaDoorW.PrintWords Go.Proofs.YtoofbppfbbhliaaDoorW.PrintLast Go.Proofs.YtoofbppfbbhliaaDoorW.PrintMore Go.Proofs.YtoofbppfbbhliaaDoor.PFnConfDrop Go.Proofs.YtoofbppfbbhliaaDoor.ptr
set_option linter.unusedVariables false
set_option linter.unusedSimpArgs false
set_option maxHeartbeats 2000000
set_option maxRecDepth 100000
def subL (n : ByteArray) (x : S115) : ByteArray := (((((⟨#[91]⟩ : ByteArray) ++ n) ++ (⟨#[32, 34]⟩ : ByteArray)) ++ x.f0) ++ (⟨#[34, 93, 10]⟩ : ByteArray)) ++ optsT x.f1
def subsT (n t : ByteArray) (l : List S115) : ByteArray := l.foldl (fun t x => t ++ subL n x) t
def headT (t : ByteArray) (s : S71) : ByteArray := if 0 < s.f1.length then t ++ ((((⟨#[91]⟩ : ByteArray) ++ s.f0) ++ (⟨#[93, 10]⟩ : ByteArray)) ++ optsT s.f1) else t
def secA (t : ByteArray) (s : S71) : ByteArray := subsT s.f0 (headT t s) s.f2
def confT (l : List S71) : ByteArray := l.foldl secA (⟨#[]⟩ : ByteArray)
/-- A section of which the text can be told. -/
def SecSz (s : S71) : Prop := s.f0.size ≤ 1000 ∧ OptsOK s.f1 ∧ s.f2.length ≤ 2147483647 ∧ ∀ x ∈ s.f2, x.f0.size ≤ 2147483647 ∧ OptsOK x.f1
theorem subsT_snoc {n t : ByteArray} {l : List S115} {j : Nat} (h : j < l.length) : subsT n t (l.take (j + 1)) = subsT n t (l.take j) ++ subL n l[j] := by
  rw [take_snoc h]; unfold subsT; rw [List.foldl_append]; rfl
theorem confT_snoc {l : List S71} {j : Nat} (h : j < l.length) : confT (l.take (j + 1)) = secA (confT (l.take j)) l[j] := by
  rw [take_snoc h]; unfold confT; rw [List.foldl_append]; rfl
theorem optsT_all {l : List S112} (h : OptsOK l) : (optsT l).size ≤ 2005000 := by
  have h1 := optsT_size h (Nat.le_refl l.length)
  rw [List.take_length] at h1
  have := h.2
  omega
theorem sz91 : (⟨#[91]⟩ : ByteArray).size = 1 := rfl
theorem sz9310 : (⟨#[93, 10]⟩ : ByteArray).size = 2 := rfl
theorem sz3234 : (⟨#[32, 34]⟩ : ByteArray).size = 2 := rfl
theorem sz349310 : (⟨#[34, 93, 10]⟩ : ByteArray).size = 3 := rfl
theorem subL_size {n : ByteArray} {x : S115} (h0 : n.size ≤ 1000) (h1 : x.f0.size ≤ 2147483647) (h2 : OptsOK x.f1) : (subL n x).size ≤ 2149490000 := by
  have := optsT_all h2
  unfold subL
  simp only [ByteArray.size_append, sz91, sz3234, sz349310]
  omega
theorem subsT_size {n t : ByteArray} {l : List S115} (h0 : n.size ≤ 1000) (ht : t.size ≤ 2006003) (h : ∀ x ∈ l, x.f0.size ≤ 2147483647 ∧ OptsOK x.f1) : ∀ {j : Nat}, j ≤ l.length → (subsT n t (l.take j)).size ≤ 2006003 + j * 2149490000
  | 0, _ => by simpa [subsT] using ht
  | j + 1, hj => by
    rw [subsT_snoc (by omega), ByteArray.size_append]
    have h1 := subsT_size h0 ht h (j := j) (by omega)
    have h2 := h _ (List.getElem_mem (show j < l.length by omega))
    have := subL_size h0 h2.1 h2.2
    omega
theorem headT_size {t : ByteArray} {s : S71} (ht : t.size = 0) (hs : SecSz s) : (headT t s).size ≤ 2006003 := by
  have := optsT_all hs.2.1
  have := hs.1
  unfold headT
  split
  · simp only [ByteArray.size_append, sz91, sz9310]; omega
  · omega
theorem confT_zero {l : List S71} {j : Nat} (h1 : l.length ≤ 1) (hj : j < l.length) : (confT (l.take j)).size = 0 := by
  obtain rfl : j = 0 := by omega
  rfl
theorem h1_ {a : Nat} (h : a ≤ 1000) : 1 + a ≤ 9223372036854775807 := by omega
theorem h2_ {a : Nat} (h : a ≤ 1000) : 1 + a + 2 ≤ 9223372036854775807 := by omega
theorem h3_ {a n : Nat} (h : a ≤ 1000) (k : n ≤ 2005000) : 1 + a + 2 + n ≤ 9223372036854775807 := by omega
theorem h4_ {a n t : Nat} (h : a ≤ 1000) (k : n ≤ 2005000) (l : t = 0) : t + (1 + a + 2 + n) ≤ 9223372036854775807 := by omega
theorem s3_ {a b : Nat} (h : a ≤ 1000) (k : b ≤ 2147483647) : 1 + a + 2 + b ≤ 9223372036854775807 := by omega
theorem s4_ {a b : Nat} (h : a ≤ 1000) (k : b ≤ 2147483647) : 1 + a + 2 + b + 3 ≤ 9223372036854775807 := by omega
theorem s5_ {a b n : Nat} (h : a ≤ 1000) (k : b ≤ 2147483647) (m : n ≤ 2005000) : 1 + a + 2 + b + 3 + n ≤ 9223372036854775807 := by omega
theorem s6_ {a b n t i : Nat} (h : a ≤ 1000) (k : b ≤ 2147483647) (m : n ≤ 2005000) (p : t ≤ 2006003 + i * 2149490000) (q : i ≤ 2147483647) : t + (1 + a + 2 + b + 3 + n) ≤ 9223372036854775807 := by omega
theorem confText_any (A0 : Option Addr) (c0 : Nat) (l0 : List S71) (w : World) (hr0 : Kd.C k71 w A0 l0.length l0) (hc0 : l0.length ≤ c0) (h1l : l0.length ≤ 1) (hl : ∀ s ∈ l0, SecSz s) :
    Calls Tryd.prog 42 #[.slice A0 l0.length c0] w fun e w' => e = .returned (.string (confT l0)) ∧ Below w.heap.size w w' := by
  have hu71 := Tryd.underlying71
  have hu115 := Tryd.underlying115
  have HR0 := Aside0.mk hr0
  have HL := Aside0.mk hl
  have HB := Aside0.mk (Below.refl w.heap.size w)
  clear hr0 hl
  go_enter Tryd.func42, Tryd.ntmps42
  go_wp2
  go_loopg [3, 10] (l0.length + 1) (fun kq v3 v10 w' => ∃ (j : Nat), v3 = .string (confT (l0.take j)) ∧ v10 = .int .i64 (j : Int) ∧ j ≤ l0.length ∧ Aside0 (kq + j = l0.length + 1) ∧ Aside0 (Below w.heap.size w w'))
  case atStart => exact ⟨0, rfl, rfl, Nat.zero_le _, ⟨by omega⟩, HB⟩
  case round =>
    clear HB
    obtain ⟨j, rfl, rfl, hj, HK, HB⟩ := hrel
    cases gk with
    | zero => exact absurd HK.out (by omega)
    | succ k1 =>
      obtain ⟨wo, hwo⟩ : ∃ wo : World, wo = wr := ⟨_, rfl⟩
      subst hwo
      by_cases hlt : j < l0.length
      · have p150 : 0 ≤ (j : Int) := by omega
        have q150 : (j : Int) < (l0.length : Int) := by omega
        have c5b0 : decide ((j : Int) < (l0.length : Int)) = true := decide_eq_true q150
        obtain ⟨ad, A1, c1, A2, c2, e0, hx0, hx1, hx2, hl1, hC1, hl2, hC2⟩ := at_T71 HR0.out j p150 q150
        subst e0
        rw [rdS hlt] at hx0 hx1 hx2 hl1 hC1 hl2 hC2
        rw [Int.toNat_natCast] at hx0 hx1 hx2
        replace hx0 := (HB.out.cell (World.block_lt_of_cell? w _ hx0)).trans hx0
        replace hx1 := (HB.out.cell (World.block_lt_of_cell? w _ hx1)).trans hx1
        replace hx2 := (HB.out.cell (World.block_lt_of_cell? w _ hx2)).trans hx2
        have HF := Aside0.mk (HL.out _ (List.getElem_mem hlt))
        have HS := Aside0.mk (confT_snoc hlt)
        have HT0 := Aside0.mk (confT_zero h1l hlt)
        obtain ⟨s, hs⟩ : ∃ s, l0[j] = s := ⟨_, rfl⟩
        rw [hs] at hx0 hx1 hx2 hl1 hC1 hl2 hC2 HF HS
        obtain ⟨t, ht⟩ : ∃ t, confT (l0.take j) = t := ⟨_, rfl⟩
        rw [ht] at HS HT0
        simp only [ht]
        have HC1 := Aside0.mk (Kd.C_below hC1 HB.out)
        have HC2 := Aside0.mk (Kd.C_below hC2 HB.out)
        have HL1 := Aside0.mk hl1
        have HI := Aside0.mk hlt
        have HZ0 := Aside0.mk (headT_size HT0.out HF.out)
        have hb32 := HF.out.2.2.1
        clear hC1 hC2 hl1 hl2 hs ht
        by_cases ho : 0 < s.f1.length
        · have d1 : decide ((0 : Int) < (s.f1.length : Int)) = true := decide_eq_true (by omega)
          have d2 : (0 : Int) < (s.f1.length : Int) := by omega
          have HH := Aside0.mk (show headT t s = t ++ ((((⟨#[91]⟩ : ByteArray) ++ s.f0) ++ (⟨#[93, 10]⟩ : ByteArray)) ++ optsT s.f1) from if_pos ho)
          go_wp2_with (first | ((with_reducible refine gate_dst (N := 5) rfl ?_); refine box_event ?hg (N := 5) ?hd (cs := #[.string (⟨#[]⟩ : ByteArray), .slice none 0 0, .slice none 0 0]) (t := 71) ?hr ?_; (case hd => rfl); (case hg => rfl); (case hr => first | (go_simp; done) | (go_simp; rfl)); intro g1 hg1 wa hbox hb; have HBa := Aside0.mk hb; have GE1 := Aside0.mk (show wo.heap.size ≤ g1 by rw [hg1]; exact Nat.le_refl _); have BK1 := Aside0.mk hbox; clear hbox hb hg1; have hz0 : wa.cell? ⟨g1, 0, none⟩ = some (.string (⟨#[]⟩ : ByteArray)) := (blk_cell BK1.out 0).trans rfl; have hz1 : wa.cell? ⟨g1, 1, none⟩ = some (.slice none 0 0) := (blk_cell BK1.out 1).trans rfl; have hz2 : wa.cell? ⟨g1, 2, none⟩ = some (.slice none 0 0) := (blk_cell BK1.out 2).trans rfl; have hf0 := blk_frozen BK1.out 0; have hf1 := blk_frozen BK1.out 1; have hf2 := blk_frozen BK1.out 2) | fail)
          generalize hW : World.setCell _ _ _ = W1
          have BW := Aside0.mk (show W1.heap[g1]? = some (.cells #[.string s.f0, .slice A1 s.f1.length c1, .slice A2 s.f2.length c2] 71 (0, 0)) by rw [← hW]; exact blk_put (cs := #[.string s.f0, .slice A1 s.f1.length c1, .slice none 0 0]) (blk_put (cs := #[.string s.f0, .slice none 0 0, .slice none 0 0]) (blk_put (cs := #[.string (⟨#[]⟩ : ByteArray), .slice none 0 0, .slice none 0 0]) BK1.out 0 _ rfl) 1 _ rfl) 2 _ rfl)
          have HB1 := Aside0.mk (show Below wo.heap.size wo W1 by rw [← hW]; exact below_set (below_set (below_set HBa.out GE1.out) GE1.out) GE1.out)
          clear hz0 hz1 hz2 hf0 hf1 hf2 BK1 HBa hW hx0 hx1 hx2
          have h0 : W1.cell? ⟨g1, 0, none⟩ = some (.string s.f0) := (blk_cell BW.out 0).trans rfl
          have h1 : W1.cell? ⟨g1, 1, none⟩ = some (.slice A1 s.f1.length c1) := (blk_cell BW.out 1).trans rfl
          have r1 := h1_ HF.out.1
          have r1a := eq_true r1
          have r1b := decide_eq_true r1
          have r1c := eq_false (Nat.not_lt.2 r1)
          have r2 := h2_ HF.out.1
          have r2a := eq_true r2
          have r2b := decide_eq_true r2
          have r2c := eq_false (Nat.not_lt.2 r2)
          have r3 := h3_ HF.out.1 (optsT_all HF.out.2.1)
          have r3a := eq_true r3
          have r3b := decide_eq_true r3
          have r3c := eq_false (Nat.not_lt.2 r3)
          have r4 := h4_ HF.out.1 (optsT_all HF.out.2.1) HT0.out
          have r4a := eq_true r4
          have r4b := decide_eq_true r4
          have r4c := eq_false (Nat.not_lt.2 r4)
          go_region_held3 (fun w' => w'.cell? ⟨g1, 0, none⟩ = some (.string s.f0) ∧ w'.cell? ⟨g1, 1, none⟩ = some (.slice A1 s.f1.length c1)) (first | go_keep | exact ⟨q0, q1⟩) ((go_at_call 72; refine (optionsText_any A1 c1 s.f1 _ (Kd.C_below HC1.out (below_drew HB1.out)) HL1.out HF.out.2.1).mono ?_; rintro e w2 ⟨rfl, hb2⟩; have q0 := (hb2.cell (World.block_lt_of_cell? W1.drew _ h0)).trans h0; have q1 := (hb2.cell (World.block_lt_of_cell? W1.drew _ h1)).trans h1; have HB2 := Aside0.mk hb2; clear hb2))
          have BX := Aside0.mk ((HB2.out.block g1 (blk_lt (show W1.drew.heap[g1]? = _ from BW.out))).trans (show W1.drew.heap[g1]? = _ from BW.out))
          have HBX := Aside0.mk (below_step (below_drew HB1.out) HB2.out)
          have h2 : w2.cell? ⟨g1, 2, none⟩ = some (.slice A2 s.f2.length c2) := (blk_cell BX.out 2).trans rfl
          clear q0 q1 h0 h1 r1 r2 r3 r4 r1a r2a r3a r4a r1b r2b r3b r4b r1c r2c r3c r4c d1 d2 HB2 BW HB1
          rw [← HH.out]
          obtain ⟨t1, ht1⟩ : ∃ t1, headT t s = t1 := ⟨_, rfl⟩
          rw [ht1] at HZ0
          have HZ1 := HZ0
          have HS := Aside0.mk (show confT (l0.take (j + 1)) = subsT s.f0 t1 s.f2 by rw [HS.out, ← ht1]; rfl)
          simp only [ht1]
          clear HH ht1
          go_wp2_with fail
          clear h2
          go_loopg [3, 31] (s.f2.length + 1) (fun kq v3 v31 w' => ∃ (i : Nat), v3 = .string (subsT s.f0 t1 (s.f2.take i)) ∧ v31 = .int .i64 (i : Int) ∧ i ≤ s.f2.length ∧ Aside0 (kq + i = s.f2.length + 1) ∧ Aside0 (w'.heap[g1]? = some (.cells #[.string s.f0, .slice A1 s.f1.length c1, .slice A2 s.f2.length c2] 71 (0, 0))) ∧ Aside0 (Below wo.heap.size wo w'))
          case atStart => exact ⟨0, rfl, rfl, Nat.zero_le _, ⟨by omega⟩, BX, HBX⟩
          case round =>
            clear BX HBX
            obtain ⟨i, rfl, rfl, hi, HKi, HX, HBi⟩ := hrel
            cases gk with
            | zero => exact absurd HKi.out (by omega)
            | succ k2 =>
              by_cases hlu : i < s.f2.length
              · have p250 : 0 ≤ (i : Int) := by omega
                have q250 : (i : Int) < (s.f2.length : Int) := by omega
                have c6b0 : decide ((i : Int) < (s.f2.length : Int)) = true := decide_eq_true q250
                obtain ⟨ad2, A4, c4, e2, hy0, hy1, hl4, hC4⟩ := at_T115 HC2.out i p250 q250
                subst e2
                rw [rdU hlu] at hy0 hy1 hl4 hC4
                rw [Int.toNat_natCast] at hy0 hy1
                replace hy0 := (HBi.out.cell (World.block_lt_of_cell? wo _ hy0)).trans hy0
                replace hy1 := (HBi.out.cell (World.block_lt_of_cell? wo _ hy1)).trans hy1
                have HSn := Aside0.mk (subsT_snoc (n := s.f0) (t := t1) hlu)
                have HZi := Aside0.mk (subsT_size HF.out.1 HZ1.out HF.out.2.2.2 hi)
                have HFx := Aside0.mk (HF.out.2.2.2 _ (List.getElem_mem hlu))
                obtain ⟨x, hx⟩ : ∃ x, s.f2[i] = x := ⟨_, rfl⟩
                rw [hx] at hy0 hy1 hl4 hC4 HSn HFx
                obtain ⟨t2, ht2⟩ : ∃ t2, subsT s.f0 t1 (s.f2.take i) = t2 := ⟨_, rfl⟩
                rw [ht2] at HSn HZi
                simp only [ht2]
                have HC4 := Aside0.mk (Kd.C_below hC4 HBi.out)
                have HL4 := Aside0.mk hl4
                have HIu := Aside0.mk hlu
                have r1 := h1_ HF.out.1
                have r1a := eq_true r1
                have r1b := decide_eq_true r1
                have r1c := eq_false (Nat.not_lt.2 r1)
                have r2 := h2_ HF.out.1
                have r2a := eq_true r2
                have r2b := decide_eq_true r2
                have r2c := eq_false (Nat.not_lt.2 r2)
                have r3 := s3_ HF.out.1 HFx.out.1
                have r3a := eq_true r3
                have r3b := decide_eq_true r3
                have r3c := eq_false (Nat.not_lt.2 r3)
                have r4 := s4_ HF.out.1 HFx.out.1
                have r4a := eq_true r4
                have r4b := decide_eq_true r4
                have r4c := eq_false (Nat.not_lt.2 r4)
                have r5 := s5_ HF.out.1 HFx.out.1 (optsT_all HFx.out.2)
                have r5a := eq_true r5
                have r5b := decide_eq_true r5
                have r5c := eq_false (Nat.not_lt.2 r5)
                have r6 := s6_ HF.out.1 HFx.out.1 (optsT_all HFx.out.2) HZi.out (Nat.le_trans hi HF.out.2.2.1)
                have r6a := eq_true r6
                have r6b := decide_eq_true r6
                have r6c := eq_false (Nat.not_lt.2 r6)
                clear hx ht2 hC4 hl4
                go_wp2_with (first | ((with_reducible refine gate_dst (N := 7) rfl ?_); refine box_event ?hg8 (N := 7) ?hd8 (cs := #[.string (⟨#[]⟩ : ByteArray), .slice none 0 0]) (t := 115) ?hr8 ?_; (case hd8 => rfl); (case hg8 => rfl); (case hr8 => first | (go_simp; done) | (go_simp; rfl)); intro g3 hg3 wb hbox hb; have HBb := Aside0.mk hb; have GE3 := Aside0.mk (show wr.heap.size ≤ g3 by rw [hg3]; exact Nat.le_refl _); have BK3 := Aside0.mk hbox; clear hbox hb hg3; have hz0 : wb.cell? ⟨g3, 0, none⟩ = some (.string (⟨#[]⟩ : ByteArray)) := (blk_cell BK3.out 0).trans rfl; have hz1 : wb.cell? ⟨g3, 1, none⟩ = some (.slice none 0 0) := (blk_cell BK3.out 1).trans rfl; have hf0 := blk_frozen BK3.out 0; have hf1 := blk_frozen BK3.out 1) | fail)
                generalize hW : World.setCell _ _ _ = W4
                have BW4 := Aside0.mk (show W4.heap[g3]? = some (.cells #[.string x.f0, .slice A4 x.f1.length c4] 115 (0, 0)) by rw [← hW]; exact blk_put (cs := #[.string x.f0, .slice none 0 0]) (blk_put (cs := #[.string (⟨#[]⟩ : ByteArray), .slice none 0 0]) BK3.out 0 _ rfl) 1 _ rfl)
                have HB4 := Aside0.mk (show Below wr.heap.size wr W4 by rw [← hW]; exact below_set (below_set HBb.out GE3.out) GE3.out)
                clear hz0 hz1 hf0 hf1 BK3 HBb hW hy0 hy1
                have HX4 := Aside0.mk ((HB4.out.block g1 (blk_lt HX.out)).trans HX.out)
                have HC5 := Aside0.mk (Kd.C_below HC4.out HB4.out)
                have h3 : W4.cell? ⟨g3, 0, none⟩ = some (.string x.f0) := (blk_cell BW4.out 0).trans rfl
                have h4 : W4.cell? ⟨g3, 1, none⟩ = some (.slice A4 x.f1.length c4) := (blk_cell BW4.out 1).trans rfl
                have h5 : W4.cell? ⟨g1, 0, none⟩ = some (.string s.f0) := (blk_cell HX4.out 0).trans rfl
                have HBo4 := Aside0.mk (below_drew (below_step HBi.out HB4.out))
                go_region_held3 (fun w' => w'.cell? ⟨g3, 0, none⟩ = some (.string x.f0) ∧ w'.cell? ⟨g3, 1, none⟩ = some (.slice A4 x.f1.length c4) ∧ w'.cell? ⟨g1, 0, none⟩ = some (.string s.f0)) (first | go_keep | exact ⟨q0, q1, q2⟩) ((go_at_call 72; refine (optionsText_any A4 c4 x.f1 _ (Kd.C_below HC5.out (below_drew (Below.refl _ _))) HL4.out HFx.out.2).mono ?_; rintro e w5 ⟨rfl, hb5⟩; have q0 := (hb5.cell (World.block_lt_of_cell? W4.drew _ h3)).trans h3; have q1 := (hb5.cell (World.block_lt_of_cell? W4.drew _ h4)).trans h4; have q2 := (hb5.cell (World.block_lt_of_cell? W4.drew _ h5)).trans h5; have HB5 := Aside0.mk hb5; clear hb5))
                have HX5 := Aside0.mk ((HB5.out.block g1 (blk_lt (show W4.drew.heap[g1]? = _ from HX4.out))).trans (show W4.drew.heap[g1]? = _ from HX4.out))
                have HBo5 := Aside0.mk (below_step HBo4.out HB5.out)
                clear q0 q1 q2 h3 h4 h5
                go_wp2
                go_roundg k2
                case measure => have := HKi.out; omega
                case rel => exact ⟨i + 1, by rw [HSn.out]; rfl, by go_num, HIu.out, ⟨by have := HKi.out; omega⟩, HX5, HBo5⟩
              · have c6b0 : decide ((i : Int) < (s.f2.length : Int)) = false := decide_eq_false (by omega)
                have HTu := Aside0.mk (show s.f2.take i = s.f2 from List.take_of_length_le (by omega))
                go_wp2
                go_roundg k1
                case measure => have := HK.out; omega
                case rel => exact ⟨j + 1, by rw [HS.out, HTu.out], by go_num, HI.out, ⟨by have := HK.out; omega⟩, ⟨below_step HB.out HBi.out⟩⟩
        · have d1 : decide ((0 : Int) < (s.f1.length : Int)) = false := decide_eq_false (by omega)
          have HH := Aside0.mk (show headT t s = t from if_neg ho)
          go_wp2_with (first | ((with_reducible refine gate_dst (N := 5) rfl ?_); refine box_event ?hg (N := 5) ?hd (cs := #[.string (⟨#[]⟩ : ByteArray), .slice none 0 0, .slice none 0 0]) (t := 71) ?hr ?_; (case hd => rfl); (case hg => rfl); (case hr => first | (go_simp; done) | (go_simp; rfl)); intro g1 hg1 wa hbox hb; have HBa := Aside0.mk hb; have GE1 := Aside0.mk (show wo.heap.size ≤ g1 by rw [hg1]; exact Nat.le_refl _); have BK1 := Aside0.mk hbox; clear hbox hb hg1; have hz0 : wa.cell? ⟨g1, 0, none⟩ = some (.string (⟨#[]⟩ : ByteArray)) := (blk_cell BK1.out 0).trans rfl; have hz1 : wa.cell? ⟨g1, 1, none⟩ = some (.slice none 0 0) := (blk_cell BK1.out 1).trans rfl; have hz2 : wa.cell? ⟨g1, 2, none⟩ = some (.slice none 0 0) := (blk_cell BK1.out 2).trans rfl; have hf0 := blk_frozen BK1.out 0; have hf1 := blk_frozen BK1.out 1; have hf2 := blk_frozen BK1.out 2) | fail)
          generalize hW : World.setCell _ _ _ = W1
          have BW := Aside0.mk (show W1.heap[g1]? = some (.cells #[.string s.f0, .slice A1 s.f1.length c1, .slice A2 s.f2.length c2] 71 (0, 0)) by rw [← hW]; exact blk_put (cs := #[.string s.f0, .slice A1 s.f1.length c1, .slice none 0 0]) (blk_put (cs := #[.string s.f0, .slice none 0 0, .slice none 0 0]) (blk_put (cs := #[.string (⟨#[]⟩ : ByteArray), .slice none 0 0, .slice none 0 0]) BK1.out 0 _ rfl) 1 _ rfl) 2 _ rfl)
          have HB1 := Aside0.mk (show Below wo.heap.size wo W1 by rw [← hW]; exact below_set (below_set (below_set HBa.out GE1.out) GE1.out) GE1.out)
          clear hz0 hz1 hz2 hf0 hf1 hf2 BK1 HBa hW hx0 hx1 hx2
          have h0 : W1.cell? ⟨g1, 0, none⟩ = some (.string s.f0) := (blk_cell BW.out 0).trans rfl
          have h1 : W1.cell? ⟨g1, 1, none⟩ = some (.slice A1 s.f1.length c1) := (blk_cell BW.out 1).trans rfl
          have BX := BW
          have HBX := HB1
          have h2 : W1.cell? ⟨g1, 2, none⟩ = some (.slice A2 s.f2.length c2) := (blk_cell BX.out 2).trans rfl
          clear h0 h1 BW HB1
          rw [HH.out] at HZ0
          have HZ1 := HZ0
          have HS := Aside0.mk (show confT (l0.take (j + 1)) = subsT s.f0 t s.f2 by rw [HS.out, secA, HH.out])
          clear HH
          go_wp2_with fail
          clear h2
          go_loopg [3, 31] (s.f2.length + 1) (fun kq v3 v31 w' => ∃ (i : Nat), v3 = .string (subsT s.f0 t (s.f2.take i)) ∧ v31 = .int .i64 (i : Int) ∧ i ≤ s.f2.length ∧ Aside0 (kq + i = s.f2.length + 1) ∧ Aside0 (w'.heap[g1]? = some (.cells #[.string s.f0, .slice A1 s.f1.length c1, .slice A2 s.f2.length c2] 71 (0, 0))) ∧ Aside0 (Below wo.heap.size wo w'))
          case atStart => exact ⟨0, rfl, rfl, Nat.zero_le _, ⟨by omega⟩, BX, HBX⟩
          case round =>
            clear BX HBX
            obtain ⟨i, rfl, rfl, hi, HKi, HX, HBi⟩ := hrel
            cases gk with
            | zero => exact absurd HKi.out (by omega)
            | succ k2 =>
              by_cases hlu : i < s.f2.length
              · have p250 : 0 ≤ (i : Int) := by omega
                have q250 : (i : Int) < (s.f2.length : Int) := by omega
                have c6b0 : decide ((i : Int) < (s.f2.length : Int)) = true := decide_eq_true q250
                obtain ⟨ad2, A4, c4, e2, hy0, hy1, hl4, hC4⟩ := at_T115 HC2.out i p250 q250
                subst e2
                rw [rdU hlu] at hy0 hy1 hl4 hC4
                rw [Int.toNat_natCast] at hy0 hy1
                replace hy0 := (HBi.out.cell (World.block_lt_of_cell? wo _ hy0)).trans hy0
                replace hy1 := (HBi.out.cell (World.block_lt_of_cell? wo _ hy1)).trans hy1
                have HSn := Aside0.mk (subsT_snoc (n := s.f0) (t := t) hlu)
                have HZi := Aside0.mk (subsT_size HF.out.1 HZ1.out HF.out.2.2.2 hi)
                have HFx := Aside0.mk (HF.out.2.2.2 _ (List.getElem_mem hlu))
                obtain ⟨x, hx⟩ : ∃ x, s.f2[i] = x := ⟨_, rfl⟩
                rw [hx] at hy0 hy1 hl4 hC4 HSn HFx
                obtain ⟨t2, ht2⟩ : ∃ t2, subsT s.f0 t (s.f2.take i) = t2 := ⟨_, rfl⟩
                rw [ht2] at HSn HZi
                simp only [ht2]
                have HC4 := Aside0.mk (Kd.C_below hC4 HBi.out)
                have HL4 := Aside0.mk hl4
                have HIu := Aside0.mk hlu
                have r1 := h1_ HF.out.1
                have r1a := eq_true r1
                have r1b := decide_eq_true r1
                have r1c := eq_false (Nat.not_lt.2 r1)
                have r2 := h2_ HF.out.1
                have r2a := eq_true r2
                have r2b := decide_eq_true r2
                have r2c := eq_false (Nat.not_lt.2 r2)
                have r3 := s3_ HF.out.1 HFx.out.1
                have r3a := eq_true r3
                have r3b := decide_eq_true r3
                have r3c := eq_false (Nat.not_lt.2 r3)
                have r4 := s4_ HF.out.1 HFx.out.1
                have r4a := eq_true r4
                have r4b := decide_eq_true r4
                have r4c := eq_false (Nat.not_lt.2 r4)
                have r5 := s5_ HF.out.1 HFx.out.1 (optsT_all HFx.out.2)
                have r5a := eq_true r5
                have r5b := decide_eq_true r5
                have r5c := eq_false (Nat.not_lt.2 r5)
                have r6 := s6_ HF.out.1 HFx.out.1 (optsT_all HFx.out.2) HZi.out (Nat.le_trans hi HF.out.2.2.1)
                have r6a := eq_true r6
                have r6b := decide_eq_true r6
                have r6c := eq_false (Nat.not_lt.2 r6)
                clear hx ht2 hC4 hl4
                go_wp2_with (first | ((with_reducible refine gate_dst (N := 7) rfl ?_); refine box_event ?hg8 (N := 7) ?hd8 (cs := #[.string (⟨#[]⟩ : ByteArray), .slice none 0 0]) (t := 115) ?hr8 ?_; (case hd8 => rfl); (case hg8 => rfl); (case hr8 => first | (go_simp; done) | (go_simp; rfl)); intro g3 hg3 wb hbox hb; have HBb := Aside0.mk hb; have GE3 := Aside0.mk (show wr.heap.size ≤ g3 by rw [hg3]; exact Nat.le_refl _); have BK3 := Aside0.mk hbox; clear hbox hb hg3; have hz0 : wb.cell? ⟨g3, 0, none⟩ = some (.string (⟨#[]⟩ : ByteArray)) := (blk_cell BK3.out 0).trans rfl; have hz1 : wb.cell? ⟨g3, 1, none⟩ = some (.slice none 0 0) := (blk_cell BK3.out 1).trans rfl; have hf0 := blk_frozen BK3.out 0; have hf1 := blk_frozen BK3.out 1) | fail)
                generalize hW : World.setCell _ _ _ = W4
                have BW4 := Aside0.mk (show W4.heap[g3]? = some (.cells #[.string x.f0, .slice A4 x.f1.length c4] 115 (0, 0)) by rw [← hW]; exact blk_put (cs := #[.string x.f0, .slice none 0 0]) (blk_put (cs := #[.string (⟨#[]⟩ : ByteArray), .slice none 0 0]) BK3.out 0 _ rfl) 1 _ rfl)
                have HB4 := Aside0.mk (show Below wr.heap.size wr W4 by rw [← hW]; exact below_set (below_set HBb.out GE3.out) GE3.out)
                clear hz0 hz1 hf0 hf1 BK3 HBb hW hy0 hy1
                have HX4 := Aside0.mk ((HB4.out.block g1 (blk_lt HX.out)).trans HX.out)
                have HC5 := Aside0.mk (Kd.C_below HC4.out HB4.out)
                have h3 : W4.cell? ⟨g3, 0, none⟩ = some (.string x.f0) := (blk_cell BW4.out 0).trans rfl
                have h4 : W4.cell? ⟨g3, 1, none⟩ = some (.slice A4 x.f1.length c4) := (blk_cell BW4.out 1).trans rfl
                have h5 : W4.cell? ⟨g1, 0, none⟩ = some (.string s.f0) := (blk_cell HX4.out 0).trans rfl
                have HBo4 := Aside0.mk (below_drew (below_step HBi.out HB4.out))
                go_region_held3 (fun w' => w'.cell? ⟨g3, 0, none⟩ = some (.string x.f0) ∧ w'.cell? ⟨g3, 1, none⟩ = some (.slice A4 x.f1.length c4) ∧ w'.cell? ⟨g1, 0, none⟩ = some (.string s.f0)) (first | go_keep | exact ⟨q0, q1, q2⟩) ((go_at_call 72; refine (optionsText_any A4 c4 x.f1 _ (Kd.C_below HC5.out (below_drew (Below.refl _ _))) HL4.out HFx.out.2).mono ?_; rintro e w5 ⟨rfl, hb5⟩; have q0 := (hb5.cell (World.block_lt_of_cell? W4.drew _ h3)).trans h3; have q1 := (hb5.cell (World.block_lt_of_cell? W4.drew _ h4)).trans h4; have q2 := (hb5.cell (World.block_lt_of_cell? W4.drew _ h5)).trans h5; have HB5 := Aside0.mk hb5; clear hb5))
                have HX5 := Aside0.mk ((HB5.out.block g1 (blk_lt (show W4.drew.heap[g1]? = _ from HX4.out))).trans (show W4.drew.heap[g1]? = _ from HX4.out))
                have HBo5 := Aside0.mk (below_step HBo4.out HB5.out)
                clear q0 q1 q2 h3 h4 h5
                go_wp2
                go_roundg k2
                case measure => have := HKi.out; omega
                case rel => exact ⟨i + 1, by rw [HSn.out]; rfl, by go_num, HIu.out, ⟨by have := HKi.out; omega⟩, HX5, HBo5⟩
              · have c6b0 : decide ((i : Int) < (s.f2.length : Int)) = false := decide_eq_false (by omega)
                have HTu := Aside0.mk (show s.f2.take i = s.f2 from List.take_of_length_le (by omega))
                go_wp2
                go_roundg k1
                case measure => have := HK.out; omega
                case rel => exact ⟨j + 1, by rw [HS.out, HTu.out], by go_num, HI.out, ⟨by have := HK.out; omega⟩, ⟨below_step HB.out HBi.out⟩⟩
      · have c5b0 : decide ((j : Int) < (l0.length : Int)) = false := decide_eq_false (by omega)
        have HT := Aside0.mk (show l0.take j = l0 from List.take_of_length_le (by omega))
        go_wp2
        go_ret
        exact ⟨by rw [HT.out]; rfl, HB.out⟩
end Go.Proofs.YtoofbppfbbhliaaDoor.confD
