/- laws.FnConfDrop: the walk. -/
import Derived.Test.YtoofbppfbbhliaaDoorDropO
namespace Go.Proofs.YtoofbppfbbhliaaDoor.confD
open Go.RowKit Go.Proofs.YtoofbppfbbhliaaDoorW.PrintWords Go.Proofs.YtoofbppfbbhliaaDoorW.PrintLast Go.Proofs.YtoofbppfbbhliaaDoorW.PrintMore Go.Proofs.YtoofbppfbbhliaaDoor.PFnConfDrop Go.Proofs.YtoofbppfbbhliaaDoor.ptr
set_option linter.unusedVariables false
set_option linter.unusedSimpArgs false
set_option maxHeartbeats 2000000
set_option maxRecDepth 100000
theorem secSz_of {l : List S71} (hf : FSecs l) (hs : SecOK l 0) : ∀ s ∈ l, SecSz s := by
  intro s hm
  obtain ⟨j, hj, rfl⟩ := List.getElem_of_mem hm
  obtain ⟨h1, h2, h3, _⟩ := hs j hj (Nat.zero_le _)
  obtain ⟨_, _, h4, h5⟩ := hf.2 _ hm
  refine ⟨h1.2, h2, h4, fun x hx => ?_⟩
  obtain ⟨i, hi, rfl⟩ := List.getElem_of_mem hx
  exact ⟨(h5 _ hx).1, (h3 i hi (Nat.zero_le _)).1⟩
theorem one_C {W : World} {a : Addr} {s : S71} {cs : List Value} (hK : k71.K W s cs) (hc : ∀ m u, cs[m]? = some u → W.cell? (a.add m) = some u) : k71.C W (some a) [s].length [s] := by
  refine ⟨rfl, by simp, fun _ => ⟨a, rfl, fun j p hp => ?_⟩⟩
  cases j with
  | zero =>
    obtain rfl : s = p := Option.some.inj hp
    exact ⟨cs, k71.K_len hK, hK, fun m u hu => by rw [show 0 * k71.sz + m = m by omega]; exact hc m u hu⟩
  | succ j => simp at hp
theorem lit_C {W : World} {s : S71} {A1 A2 : Option Addr} {c1 c2 : Nat} (l1 : s.f1.length ≤ c1) (g1 : k112.C W A1 s.f1.length s.f1) (l2 : s.f2.length ≤ c2) (g2 : k115.C W A2 s.f2.length s.f2) :
    k71.C (W.alloc (.cells #[.string s.f0, .slice A1 s.f1.length c1, .slice A2 s.f2.length c2] 71)) (some ⟨W.heap.size, 0, none⟩) [s].length [s] := by
  refine one_C (k71_mk _ s l1 (Kd.C_alloc g1 _) l2 (Kd.C_alloc g2 _)) (fun m u hu => ?_)
  have hb := blk_new W (.cells #[.string s.f0, .slice A1 s.f1.length c1, .slice A2 s.f2.length c2] 71)
  rw [show (⟨W.heap.size, 0, none⟩ : Addr).add m = ⟨W.heap.size, m, none⟩ by simp [Addr.add]; omega]
  exact (blk_cell hb m).trans (by simpa using hu)
/-- An element of what was made of what came in. -/
theorem at_fixed {w0 W : World} {base n c : Nat} {A : Option Addr} {L : List S71} (h : Kd.R (Kd.fixed k71 w0) 71 W base (fun _ => True) (.slice A n c) L) (hb : Below w0.heap.size w0 W) (i : Nat) (hi : i < L.length) :
    ∃ ad, A = some ad ∧ W.cell? (ad.add (i * 3)) = some (.string (L[i]).f0) ∧ k71.C W (some (ad.add (i * 3))) [L[i]].length [L[i]] := by
  obtain ⟨_, _, hC⟩ := Kd.R_reads' h
  obtain ⟨ad, rfl, hc⟩ := hC.2.2 (by omega)
  obtain ⟨cs, hl, hK, hcell⟩ := hc i _ (List.getElem?_eq_getElem hi)
  have hK0 : k71.K w0 L[i] cs := hK
  have hcell' : ∀ m u, cs[m]? = some u → W.cell? (ad.add (i * 3 + m)) = some u := hcell
  refine ⟨ad, rfl, ?_, one_C (k71.K_below hb hK0) (fun m u hu => by rw [Addr.add_add]; exact hcell' m u hu)⟩
  obtain ⟨A1, c1, A2, c2, rfl, _⟩ := k71_open hK0
  exact hcell' 0 _ rfl
theorem confText_one (a : Option Addr) (c0 : Nat) (s : S71) (w : World) (hr0 : k71.C w a [s].length [s]) (hc0 : 1 ≤ c0) (hs : SecSz s) :
    Calls Tryd.prog 42 #[.slice a 1 c0] w fun e w' => e = .returned (.string (confT [s])) ∧ Below w.heap.size w w' :=
  confText_any a c0 [s] w hr0 (by simpa using hc0) (by simp) (fun x hx => by rw [List.mem_singleton.1 hx]; exact hs)
theorem others_len {l : List S71} {name : ByteArray} : decide (((others l name).length : Int) < (l.length : Int)) = l.any fun s => eqB s.f0 name := by
  rw [Bool.eq_iff_iff, decide_eq_true_iff, List.any_eq_true]
  unfold others
  constructor
  · intro h
    by_cases hx : ∃ x, x ∈ l ∧ eqB x.f0 name = true
    · exact hx
    · exfalso
      rw [List.filter_eq_self.2 (fun a ha => by cases hb : eqB a.f0 name with | false => rfl | true => exact absurd ⟨a, ha, hb⟩ hx)] at h
      omega
  · rintro ⟨x, hx, hb⟩
    have := List.length_filter_lt_length_iff_exists (p := fun s : S71 => !eqB s.f0 name) (l := l) |>.2 ⟨x, hx, by simp [hb]⟩
    omega
theorem snoc_filter {l : List S71} {name : ByteArray} {j : Nat} (h : j < l.length) : others (l.take (j + 1)) name = if eqB l[j].f0 name = true then others (l.take j) name else others (l.take j) name ++ [l[j]] := by
  unfold others
  rw [filter_take h]
  cases eqB l[j].f0 name <;> simp
theorem others_take {l : List S71} {name : ByteArray} {j : Nat} (h : l.length ≤ 2147483647) : (others (l.take j) name).length ≤ 2147483647 := keeps_len h
theorem drop_law (A0 : Option Addr) (c0 : Nat) (l : List S71) (section_ : ByteArray) (w : World) (hr0 : Kd.C k71 w A0 l.length l) (hc0 : l.length ≤ c0) :
    Calls Tryd.prog 11 #[.slice A0 l.length c0, .string section_] w fun e w' => e = .returned (.bool true) ∧ Below w.heap.size w w' := by
  obtain ⟨b1, hf1, hf2⟩ := fits1_says l
  obtain ⟨kf, hkf⟩ := hf1.rounds
  have HF := Aside0.mk (laws_zzFits1.calls kf A0 c0 l b1 w hr0 hc0 hkf)
  have HR0 := Aside0.mk hr0
  have HF2 := Aside0.mk hf2
  clear hr0 hf1 hf2 hkf
  go_enter Tryd.func11, Tryd.ntmps11
  go_wp2_with fail
  refine HF.out.mono ?_
  clear HF
  rintro e w1 ⟨rfl, hb1⟩
  have HB1 := Aside0.mk hb1
  clear hb1
  cases b1 with
  | false =>
    go_wp2_with fail
    all_goals go_ret
    all_goals exact ⟨rfl, HB1.out⟩
  | true =>
    by_cases h1 : 2147483647 < section_.size
    · have d1 : decide (2147483647 < (section_.size : Int)) = true := decide_eq_true (by omega)
      go_wp2_with fail
      all_goals go_ret
      all_goals exact ⟨rfl, HB1.out⟩
    · have d1 : decide (2147483647 < (section_.size : Int)) = false := decide_eq_false (by omega)
      obtain ⟨b2, ha1, ha2⟩ := are_says l (HF2.out (by trivial)) section_ ⟨#[]⟩ ⟨#[97]⟩ ⟨#[48]⟩ (by omega) (by decide) (by decide) (by decide)
      obtain ⟨ka, hka⟩ := ha1.rounds
      have HA := Aside0.mk (laws_cfAre.calls ka A0 c0 l section_ ⟨#[]⟩ ⟨#[97]⟩ ⟨#[48]⟩ b2 w1 (Kd.C_below HR0.out HB1.out) hc0 hka)
      have HA2 := Aside0.mk ha2
      clear ha1 ha2 hka
      go_wp2_with fail
      refine HA.out.mono ?_
      clear HA
      rintro e w2 ⟨rfl, hb2⟩
      have HB2 := Aside0.mk (below_step HB1.out hb2)
      clear hb2
      cases b2 with
      | false =>
        go_wp2_with fail
        all_goals go_ret
        all_goals exact ⟨rfl, HB2.out⟩
      | true =>
        obtain ⟨hok, hws, _⟩ := HA2.out (by trivial)
        have HSZ := Aside0.mk (secSz_of (HF2.out (by trivial)) hok)
        have HFT := Aside0.mk (HF2.out (by trivial)).fits
        have HWD := Aside0.mk (show ∀ s ∈ l, Word s.f0 from fun s hs => (hok.words s hs).1)
        have HWS := Aside0.mk hws
        have hll := HFT.out.1
        clear hok hws HF2 HA2 d1 h1
        go_wp2_with fail
        go_loopg [5, 27] (l.length + 1) (fun kq v5 v27 w' => ∃ (j : Nat), v27 = .int .i64 (j : Int) ∧ j ≤ l.length ∧ Aside0 (kq + j = l.length + 1) ∧ Aside0 (Kd.R (Kd.fixed k71 w) 71 w' w.heap.size (fun _ => True) v5 (others (l.take j) section_)) ∧ Aside0 (Below w.heap.size w w'))
        case atStart => exact ⟨0, rfl, Nat.zero_le _, ⟨by omega⟩, ⟨Kd.R_nil _ _ _ _ _⟩, HB2⟩
        case round =>
          clear HB1 HB2
          obtain ⟨j, rfl, hj, HK, HO, HB⟩ := hrel
          cases gk with
          | zero => exact absurd HK.out (by omega)
          | succ k1 =>
            obtain ⟨wo, hwo⟩ : ∃ wo : World, wo = wr := ⟨_, rfl⟩
            subst hwo
            by_cases hlt : j < l.length
            · have p150 : 0 ≤ (j : Int) := by omega
              have q150 : (j : Int) < (l.length : Int) := by omega
              have c5b0 : decide ((j : Int) < (l.length : Int)) = true := decide_eq_true q150
              obtain ⟨ad, A1, c1, A2, c2, e0, hx0, hx1, hx2, hl1, hC1, hl2, hC2⟩ := at_T71 HR0.out j p150 q150
              subst e0
              rw [rdS hlt] at hx0 hx1 hx2 hl1 hC1 hl2 hC2
              rw [Int.toNat_natCast] at hx0 hx1 hx2
              replace hx0 := (HB.out.cell (World.block_lt_of_cell? w _ hx0)).trans hx0
              replace hx1 := (HB.out.cell (World.block_lt_of_cell? w _ hx1)).trans hx1
              replace hx2 := (HB.out.cell (World.block_lt_of_cell? w _ hx2)).trans hx2
              have HSF := Aside0.mk (snoc_filter (name := section_) hlt)
              have HXL := Aside0.mk (others_take (name := section_) (j := j) hll)
              obtain ⟨s, hs⟩ : ∃ s, l[j] = s := ⟨_, rfl⟩
              rw [hs] at hx0 hx1 hx2 hl1 hC1 hl2 hC2 HSF
              have HKK := Aside0.mk (k71_mk w s hl1 hC1 hl2 hC2)
              obtain ⟨b, hb⟩ : ∃ b, eqB s.f0 section_ = b := ⟨_, rfl⟩
              rw [hb] at HSF
              have e1 : (s.f0.toList == section_.toList) = b := hb
              have e2 : (s.f0.toList != section_.toList) = !b := by rw [bne, e1]
              have HI := Aside0.mk hlt
              obtain ⟨xs, hxs⟩ : ∃ xs, others (l.take j) section_ = xs := ⟨_, rfl⟩
              rw [hxs] at HO HSF HXL
              obtain ⟨A3, c3, e3⟩ := Kd.R_slice HO.out
              subst e3
              clear hC1 hC2 hl1 hl2 hs hb hxs
              cases b with
              | true =>
                simp only [Bool.not_true] at e2
                go_wp2_with (first | ((with_reducible refine gate_dst (N := 7) rfl ?_); refine box_event ?hg (N := 7) ?hd (cs := #[.string (⟨#[]⟩ : ByteArray), .slice none 0 0, .slice none 0 0]) (t := 71) ?hr ?_; (case hd => rfl); (case hg => rfl); (case hr => first | (go_simp; done) | (go_simp; rfl)); intro g1 hg1 wa hbox hb; have HBa := Aside0.mk hb; have GE1 := Aside0.mk (show wo.heap.size ≤ g1 by rw [hg1]; exact Nat.le_refl _); have BK1 := Aside0.mk hbox; clear hbox hb hg1; have hz0 : wa.cell? ⟨g1, 0, none⟩ = some (.string (⟨#[]⟩ : ByteArray)) := (blk_cell BK1.out 0).trans rfl; have hz1 : wa.cell? ⟨g1, 1, none⟩ = some (.slice none 0 0) := (blk_cell BK1.out 1).trans rfl; have hz2 : wa.cell? ⟨g1, 2, none⟩ = some (.slice none 0 0) := (blk_cell BK1.out 2).trans rfl; have hf0 := blk_frozen BK1.out 0; have hf1 := blk_frozen BK1.out 1; have hf2 := blk_frozen BK1.out 2) | fail)
                go_roundg k1
                case measure => have := HK.out; omega
                case rel => exact ⟨j + 1, by go_num, HI.out, ⟨by have := HK.out; omega⟩, ⟨by rw [HSF.out]; exact Kd.R_below HO.out (below_set (below_set (below_set HBa.out GE1.out) GE1.out) GE1.out)⟩, ⟨below_step HB.out (below_set (below_set (below_set HBa.out GE1.out) GE1.out) GE1.out)⟩⟩
              | false =>
                simp only [Bool.not_false] at e2
                go_wp2_with (first | ((with_reducible refine gate_dst (N := 7) rfl ?_); refine box_event ?hg (N := 7) ?hd (cs := #[.string (⟨#[]⟩ : ByteArray), .slice none 0 0, .slice none 0 0]) (t := 71) ?hr ?_; (case hd => rfl); (case hg => rfl); (case hr => first | (go_simp; done) | (go_simp; rfl)); intro g1 hg1 wa hbox hb; have HBa := Aside0.mk hb; have GE1 := Aside0.mk (show wo.heap.size ≤ g1 by rw [hg1]; exact Nat.le_refl _); have BK1 := Aside0.mk hbox; clear hbox hb hg1; have hz0 : wa.cell? ⟨g1, 0, none⟩ = some (.string (⟨#[]⟩ : ByteArray)) := (blk_cell BK1.out 0).trans rfl; have hz1 : wa.cell? ⟨g1, 1, none⟩ = some (.slice none 0 0) := (blk_cell BK1.out 1).trans rfl; have hz2 : wa.cell? ⟨g1, 2, none⟩ = some (.slice none 0 0) := (blk_cell BK1.out 2).trans rfl; have hf0 := blk_frozen BK1.out 0; have hf1 := blk_frozen BK1.out 1; have hf2 := blk_frozen BK1.out 2) | ((with_reducible refine gate_builtin (b := .append) (xs := #[.tmp 35, .tmp 37]) rfl ?_); at_builtin; go_must (refine Kd.R_append (Kd.fixed k71 w) (w0 := w) w.heap.size rfl (.tmp 35) (.tmp 37) 60 71 (.agg #[.string ⟨#[]⟩, .slice none 0 0, .slice none 0 0]) 64 rfl Tryd.underlying60 infoSec rfl (show (0 : Nat) < 3 by decide) (by omega) (.slice A3 xs.length c3) xs s [.string s.f0, .slice A1 s.f1.length c1, .slice A2 s.f2.length c2] (fun _ => True) (fun _ => False) rfl (by first | (go_simp; done) | (go_simp; rfl)) HKK.out (fun _ h => h.elim) (fun _ _ => trivial) (Kd.R_below HO.out (below_set (below_set (below_set HBa.out GE1.out) GE1.out) GE1.out)) (below_step HB.out (below_set (below_set (below_set HBa.out GE1.out) GE1.out) GE1.out)) (below_size (below_step HB.out (below_set (below_set (below_set HBa.out GE1.out) GE1.out) GE1.out))) (usec_room HXL.out) ?_); intro v8 w8 ho hb hg hat; have HO8 := Aside0.mk ho; have HB8 := Aside0.mk hb; clear ho hb hg hat) | fail)
                go_roundg k1
                case measure => have := HK.out; omega
                case rel => exact ⟨j + 1, by go_num, HI.out, ⟨by have := HK.out; omega⟩, ⟨by rw [HSF.out]; exact HO8.out⟩, HB8⟩
            · have c5b0 : decide ((j : Int) < (l.length : Int)) = false := decide_eq_false (by omega)
              have HT := Aside0.mk (show l.take j = l from List.take_of_length_le (by omega))
              rw [HT.out] at HO
              have HD := Aside0.mk (dropSection_any A0 c0 l section_ wo (Kd.C_below HR0.out HB.out) hc0 HFT.out HWD.out HWS.out)
              have HAny := Aside0.mk (others_len (l := l) (name := section_))
              have HSZo := Aside0.mk (show ∀ s ∈ others l section_, SecSz s from fun s hs => HSZ.out s (List.mem_filter.1 hs).1)
              have HLo := Aside0.mk (others_fits HFT.out section_).1
              obtain ⟨L, hL⟩ : ∃ L, others l section_ = L := ⟨_, rfl⟩
              rw [hL] at HO HD HAny HSZo HLo
              obtain ⟨b, hb⟩ : ∃ b, (l.any fun s => eqB s.f0 section_) = b := ⟨_, rfl⟩
              rw [hb] at HAny
              have hLl := HLo.out
              have HHas := Aside0.mk (show ∀ W : World, Below w.heap.size w W → Calls Tryd.prog 43 #[.slice A0 l.length c0, .string section_, .string (⟨#[]⟩ : ByteArray)] W (Has W b) from fun W hW => by rw [← hb]; exact implHas_any A0 c0 l section_ W (Kd.C_below HR0.out hW) hc0 HFT.out HWD.out HWS.out)
              obtain ⟨A5, c5, e5⟩ := Kd.R_slice HO.out
              subst e5
              have HC5 := Aside0.mk (show L.length ≤ c5 from (Kd.R_reads' HO.out).2.1)
              clear hL hb
              go_wp2_with fail
              refine HD.out.mono ?_
              clear HD
              rintro e w3 ⟨v8, rfl, hR8, hb3⟩
              obtain ⟨A8, c8, e8, hc8, hC8⟩ := Kd.R_reads hR8
              subst e8
              have HC8 := Aside0.mk hC8
              have HO3 := Aside0.mk (Kd.R_below HO.out hb3)
              have HB3 := Aside0.mk (below_step HB.out hb3)
              clear hR8 hb3 hC8 HO
              go_wp2_with fail
              go_loopg [50] (L.length + 1) (fun kq v50 w' => ∃ (i : Nat), v50 = .int .i64 (i : Int) ∧ i ≤ L.length ∧ Aside0 (kq + i = L.length + 1) ∧ Aside0 (Below w3.heap.size w3 w'))
              case atStart => exact ⟨0, rfl, Nat.zero_le _, ⟨by omega⟩, ⟨Below.refl _ _⟩⟩
              case round =>
                obtain ⟨i, rfl, hi, HKi, HBi⟩ := hrel
                cases gk with
                | zero => exact absurd HKi.out (by omega)
                | succ k2 =>
                  by_cases hlu : i < L.length
                  · have p250 : 0 ≤ (i : Int) := by omega
                    have q250 : (i : Int) < (L.length : Int) := by omega
                    have c6b0 : decide ((i : Int) < (L.length : Int)) = true := decide_eq_true q250
                    obtain ⟨ad, A1, c1, A2, c2, e0, hx0, hx1, hx2, hl1, hC1, hl2, hC2⟩ := at_T71 HC8.out i p250 q250
                    subst e0
                    obtain ⟨aw, ew, haw, hCW⟩ := at_fixed (Kd.R_below HO3.out HBi.out) (below_step HB3.out HBi.out) i hlu
                    subst ew
                    rw [rdS hlu] at hx0 hx1 hx2 hl1 hC1 hl2 hC2
                    rw [Int.toNat_natCast] at hx0 hx1 hx2
                    replace hx0 := (HBi.out.cell (World.block_lt_of_cell? w3 _ hx0)).trans hx0
                    replace hx1 := (HBi.out.cell (World.block_lt_of_cell? w3 _ hx1)).trans hx1
                    replace hx2 := (HBi.out.cell (World.block_lt_of_cell? w3 _ hx2)).trans hx2
                    have HZs := Aside0.mk (HSZo.out _ (List.getElem_mem hlu))
                    obtain ⟨s, hs⟩ : ∃ s, L[i] = s := ⟨_, rfl⟩
                    rw [hs] at hx0 hx1 hx2 hl1 hC1 hl2 hC2 haw hCW HZs
                    have HIu := Aside0.mk hlu
                    have HAW := Aside0.mk haw
                    have HCW := Aside0.mk hCW
                    have HC1 := Aside0.mk (Kd.C_below hC1 HBi.out)
                    have HC2 := Aside0.mk (Kd.C_below hC2 HBi.out)
                    have HL1 := Aside0.mk hl1
                    have HL2 := Aside0.mk hl2
                    have HCc := Aside0.mk (show 1 ≤ c5 - i by have := HC5.out; omega)
                    clear hC1 hC2 hl1 hl2 hs haw hCW
                    have w9 : wrap64 ((i : Int) + 1) = (i : Int) + 1 := w64 (by omega) (by omega)
                    have v1 : (0 : Int) ≤ (i : Int) + 1 := by omega
                    have v2 : (i : Int) + 1 ≤ (c5 : Int) := by have := HC5.out; omega
                    have v3 : (c5 = i) = False := eq_false (by have := HC5.out; omega)
                    go_wp2_with (first | ((with_reducible refine gate_dst (N := 10) rfl ?_); refine box_event ?hg (N := 10) ?hd (cs := #[.string (⟨#[]⟩ : ByteArray), .slice none 0 0, .slice none 0 0]) (t := 71) ?hr ?_; (case hd => rfl); (case hg => rfl); (case hr => first | (go_simp; done) | (go_simp; rfl)); intro g2 hg1 wa hbox hb; have HBa := Aside0.mk hb; have GE1 := Aside0.mk (show wr.heap.size ≤ g2 by rw [hg1]; exact Nat.le_refl _); have BK1 := Aside0.mk hbox; clear hbox hb hg1; have hz0 : wa.cell? ⟨g2, 0, none⟩ = some (.string (⟨#[]⟩ : ByteArray)) := (blk_cell BK1.out 0).trans rfl; have hz1 : wa.cell? ⟨g2, 1, none⟩ = some (.slice none 0 0) := (blk_cell BK1.out 1).trans rfl; have hz2 : wa.cell? ⟨g2, 2, none⟩ = some (.slice none 0 0) := (blk_cell BK1.out 2).trans rfl; have hf0 := blk_frozen BK1.out 0; have hf1 := blk_frozen BK1.out 1; have hf2 := blk_frozen BK1.out 2) | fail)
                    generalize hW : World.setCell _ _ _ = W2
                    have BW := Aside0.mk (show W2.heap[g2]? = some (.cells #[.string s.f0, .slice A1 s.f1.length c1, .slice A2 s.f2.length c2] 71 (0, 0)) by rw [← hW]; exact blk_put (cs := #[.string s.f0, .slice A1 s.f1.length c1, .slice none 0 0]) (blk_put (cs := #[.string s.f0, .slice none 0 0, .slice none 0 0]) (blk_put (cs := #[.string (⟨#[]⟩ : ByteArray), .slice none 0 0, .slice none 0 0]) BK1.out 0 _ rfl) 1 _ rfl) 2 _ rfl)
                    have HB1 := Aside0.mk (show Below wr.heap.size wr W2 by rw [← hW]; exact below_set (below_set (below_set HBa.out GE1.out) GE1.out) GE1.out)
                    clear hz0 hz1 hz2 hf0 hf1 hf2 BK1 HBa hW hx0 hx1 hx2
                    have h0 : W2.cell? ⟨g2, 0, none⟩ = some (.string s.f0) := (blk_cell BW.out 0).trans rfl
                    have h1 : W2.cell? ⟨g2, 1, none⟩ = some (.slice A1 s.f1.length c1) := (blk_cell BW.out 1).trans rfl
                    have h2 : W2.cell? ⟨g2, 2, none⟩ = some (.slice A2 s.f2.length c2) := (blk_cell BW.out 2).trans rfl
                    have hw0 : W2.cell? (aw.add (i * 3)) = some (.string s.f0) := (HB1.out.cell (World.block_lt_of_cell? wr _ HAW.out)).trans HAW.out
                    have LC := Aside0.mk (lit_C (W := W2) (s := s) HL1.out (Kd.C_below HC1.out HB1.out) HL2.out (Kd.C_below HC2.out HB1.out))
                    have HX := Aside0.mk (show Below wr.heap.size wr (W2.alloc (.cells #[.string s.f0, .slice A1 s.f1.length c1, .slice A2 s.f2.length c2] 71 (0, 0))).drew from below_drew (below_alloc HB1.out _))
                    have HX2 := Aside0.mk (show Below W2.heap.size W2 (W2.alloc (.cells #[.string s.f0, .slice A1 s.f1.length c1, .slice A2 s.f2.length c2] 71 (0, 0))).drew from below_drew (below_alloc (Below.refl _ _) _))
                    have F0 := Aside0.mk (show (W2.alloc (.cells #[.string s.f0, .slice A1 s.f1.length c1, .slice A2 s.f2.length c2] 71 (0, 0))).drew.cell? ⟨g2, 0, none⟩ = some (.string s.f0) from (HX2.out.cell (World.block_lt_of_cell? W2 _ h0)).trans h0)
                    have F1 := Aside0.mk (show (W2.alloc (.cells #[.string s.f0, .slice A1 s.f1.length c1, .slice A2 s.f2.length c2] 71 (0, 0))).drew.cell? ⟨g2, 1, none⟩ = some (.slice A1 s.f1.length c1) from (HX2.out.cell (World.block_lt_of_cell? W2 _ h1)).trans h1)
                    have F2 := Aside0.mk (show (W2.alloc (.cells #[.string s.f0, .slice A1 s.f1.length c1, .slice A2 s.f2.length c2] 71 (0, 0))).drew.cell? ⟨g2, 2, none⟩ = some (.slice A2 s.f2.length c2) from (HX2.out.cell (World.block_lt_of_cell? W2 _ h2)).trans h2)
                    have F3 := Aside0.mk (show (W2.alloc (.cells #[.string s.f0, .slice A1 s.f1.length c1, .slice A2 s.f2.length c2] 71 (0, 0))).drew.cell? (aw.add (i * 3)) = some (.string s.f0) from (HX2.out.cell (World.block_lt_of_cell? W2 _ hw0)).trans hw0)
                    have HCW2 := Aside0.mk (show k71.C (W2.alloc (.cells #[.string s.f0, .slice A1 s.f1.length c1, .slice A2 s.f2.length c2] 71 (0, 0))).drew (some (aw.add (i * 3))) [s].length [s] from Kd.C_below (Kd.C_below HCW.out HB1.out) HX2.out)
                    refine start_ (n := 20) (S := fun w' => w'.cell? ⟨g2, 0, none⟩ = some (.string s.f0) ∧ w'.cell? ⟨g2, 1, none⟩ = some (.slice A1 s.f1.length c1) ∧ w'.cell? ⟨g2, 2, none⟩ = some (.slice A2 s.f2.length c2) ∧ w'.cell? (aw.add (i * 3)) = some (.string s.f0)) (ds := []) #[false, false, false, false, false, false, false, false, false, false, false, false, false, false, false, false, false, false, false, false] (by kernel_rfl) rfl rfl ⟨h0, h1, h2, hw0⟩ (fun hHeld => ?_)
                    refine pure_ (i := 0) (N := some 55) (v := ?_) (a' := ?_) #[true, false, false, false, false, false, false, false, false, false, false, false, false, false, false, false, false, false, false, false] rfl rfl (by kernel_rfl) (fun _ _ _ h => h) (Or.inl ⟨by rfl, ?_⟩) ?_ ?_
                    rotate_left
                    · intro w'
                      go_simp
                      with_reducible rfl
                    rotate_left
                    · simp only [Act.put, List.setIfInBounds_toArray, List.set_cons_zero, List.set_cons_succ, i64_w, i32_w]
                      rfl
                    refine pure_ (i := 2) (N := some 57) (v := ?_) (a' := ?_) #[true, false, true, false, false, false, false, false, false, false, false, false, false, false, false, false, false, false, false, false] rfl rfl (by kernel_rfl) (fun _ _ _ h => h) (Or.inl ⟨by rfl, ?_⟩) ?_ ?_
                    rotate_left
                    · intro w'
                      go_simp
                      with_reducible rfl
                    rotate_left
                    · simp only [Act.put, List.setIfInBounds_toArray, List.set_cons_zero, List.set_cons_succ, i64_w, i32_w]
                      rfl
                    refine pure_ (i := 3) (N := some 58) (v := ?_) (a' := ?_) #[true, false, true, true, false, false, false, false, false, false, false, false, false, false, false, false, false, false, false, false] rfl rfl (by kernel_rfl) (fun _ _ _ h => h) (Or.inl ⟨by rfl, ?_⟩) ?_ ?_
                    rotate_left
                    · intro w'
                      go_simp
                      with_reducible rfl
                    rotate_left
                    · simp only [Act.put, List.setIfInBounds_toArray, List.set_cons_zero, List.set_cons_succ, i64_w, i32_w]
                      rfl
                    refine pure_ (i := 4) (N := some 59) (v := ?_) (a' := ?_) #[true, false, true, true, true, false, false, false, false, false, false, false, false, false, false, false, false, false, false, false] rfl rfl (by kernel_rfl) (fun _ _ _ h => h) (Or.inl ⟨by rfl, ?_⟩) ?_ ?_
                    rotate_left
                    · intro w'
                      go_simp
                      with_reducible rfl
                    rotate_left
                    · simp only [Act.put, List.setIfInBounds_toArray, List.set_cons_zero, List.set_cons_succ, i64_w, i32_w]
                      rfl
                    refine pure_ (i := 5) (N := some 60) (v := ?_) (a' := ?_) #[true, false, true, true, true, true, false, false, false, false, false, false, false, false, false, false, false, false, false, false] rfl rfl (by kernel_rfl) (fun _ _ _ h => h) (Or.inl ⟨by rfl, ?_⟩) ?_ ?_
                    rotate_left
                    · intro w'
                      go_simp
                      with_reducible rfl
                    rotate_left
                    · simp only [Act.put, List.setIfInBounds_toArray, List.set_cons_zero, List.set_cons_succ, i64_w, i32_w]
                      rfl
                    refine take_ (i := 1) (N := some 56) (v := ?_) (a' := ?_) #[true, true, true, true, true, true, false, false, false, false, false, false, false, false, false, false, false, false, false, false] rfl rfl (by kernel_rfl) (fun _ _ _ h => h) (Or.inl ⟨by rfl, ?_⟩) hHeld ?_ ?_
                    rotate_left
                    · rintro w' ⟨s0, s1, s2, s3⟩
                      go_simp
                      with_reducible rfl
                    rotate_left
                    · simp only [Act.put, List.setIfInBounds_toArray, List.set_cons_zero, List.set_cons_succ, i64_w, i32_w]
                      rfl
                    refine take_ (i := 6) (N := some 61) (v := ?_) (a' := ?_) #[true, true, true, true, true, true, true, false, false, false, false, false, false, false, false, false, false, false, false, false] rfl rfl (by kernel_rfl) (fun _ _ _ h => h) (Or.inl ⟨by rfl, ?_⟩) hHeld ?_ ?_
                    rotate_left
                    · rintro w' ⟨s0, s1, s2, s3⟩
                      go_simp
                      with_reducible rfl
                    rotate_left
                    · simp only [Act.put, List.setIfInBounds_toArray, List.set_cons_zero, List.set_cons_succ, i64_w, i32_w]
                      rfl
                    refine pure_ (i := 7) (N := some 62) (v := ?_) (a' := ?_) #[true, true, true, true, true, true, true, true, false, false, false, false, false, false, false, false, false, false, false, false] rfl rfl (by kernel_rfl) (fun _ _ _ h => h) (Or.inl ⟨by rfl, ?_⟩) ?_ ?_
                    rotate_left
                    · intro w'
                      go_simp
                      with_reducible rfl
                    rotate_left
                    · simp only [Act.put, List.setIfInBounds_toArray, List.set_cons_zero, List.set_cons_succ, i64_w, i32_w]
                      rfl
                    refine pure_ (i := 8) (N := some 63) (v := ?_) (a' := ?_) #[true, true, true, true, true, true, true, true, true, false, false, false, false, false, false, false, false, false, false, false] rfl rfl (by kernel_rfl) (fun _ _ _ h => h) (Or.inl ⟨by rfl, ?_⟩) ?_ ?_
                    rotate_left
                    · intro w'
                      go_simp
                      with_reducible rfl
                    rotate_left
                    · simp only [Act.put, List.setIfInBounds_toArray, List.set_cons_zero, List.set_cons_succ, i64_w, i32_w]
                      rfl
                    refine pure_ (i := 12) (N := some 67) (v := ?_) (a' := ?_) #[true, true, true, true, true, true, true, true, true, false, false, false, true, false, false, false, false, false, false, false] rfl rfl (by kernel_rfl) (fun _ _ _ h => h) (Or.inl ⟨by rfl, ?_⟩) ?_ ?_
                    rotate_left
                    · intro w'
                      go_simp
                      with_reducible rfl
                    rotate_left
                    · simp only [Act.put, List.setIfInBounds_toArray, List.set_cons_zero, List.set_cons_succ, i64_w, i32_w]
                      rfl
                    refine pure_ (i := 13) (N := some 68) (v := ?_) (a' := ?_) #[true, true, true, true, true, true, true, true, true, false, false, false, true, true, false, false, false, false, false, false] rfl rfl (by kernel_rfl) (fun _ _ _ h => h) (Or.inl ⟨by rfl, ?_⟩) ?_ ?_
                    rotate_left
                    · intro w'
                      go_simp
                      with_reducible rfl
                    rotate_left
                    · simp only [Act.put, List.setIfInBounds_toArray, List.set_cons_zero, List.set_cons_succ, i64_w, i32_w]
                      rfl
                    refine pure_ (i := 14) (N := some 69) (v := ?_) (a' := ?_) #[true, true, true, true, true, true, true, true, true, false, false, false, true, true, true, false, false, false, false, false] rfl rfl (by kernel_rfl) (fun _ _ _ h => h) (Or.inl ⟨by rfl, ?_⟩) ?_ ?_
                    rotate_left
                    · intro w'
                      go_simp
                      with_reducible rfl
                    rotate_left
                    · simp only [Act.put, List.setIfInBounds_toArray, List.set_cons_zero, List.set_cons_succ, i64_w, i32_w]
                      rfl
                    refine pure_ (i := 15) (N := some 70) (v := ?_) (a' := ?_) #[true, true, true, true, true, true, true, true, true, false, false, false, true, true, true, true, false, false, false, false] rfl rfl (by kernel_rfl) (fun _ _ _ h => h) (Or.inl ⟨by rfl, ?_⟩) ?_ ?_
                    rotate_left
                    · intro w'
                      go_simp
                      with_reducible rfl
                    rotate_left
                    · simp only [Act.put, List.setIfInBounds_toArray, List.set_cons_zero, List.set_cons_succ, i64_w, i32_w]
                      rfl
                    refine pure_ (i := 16) (N := some 71) (v := ?_) (a' := ?_) #[true, true, true, true, true, true, true, true, true, false, false, false, true, true, true, true, true, false, false, false] rfl rfl (by kernel_rfl) (fun _ _ _ h => h) (Or.inl ⟨by rfl, ?_⟩) ?_ ?_
                    rotate_left
                    · intro w'
                      go_simp
                      with_reducible rfl
                    rotate_left
                    · simp only [Act.put, List.setIfInBounds_toArray, List.set_cons_zero, List.set_cons_succ, i64_w, i32_w]
                      rfl
                    refine take_ (i := 9) (N := some 64) (v := ?_) (a' := ?_) #[true, true, true, true, true, true, true, true, true, true, false, false, true, true, true, true, true, false, false, false] rfl rfl (by kernel_rfl) (fun _ _ _ h => h) (Or.inl ⟨by rfl, ?_⟩) hHeld ?_ ?_
                    rotate_left
                    · rintro w' ⟨s0, s1, s2, s3⟩
                      go_simp
                      with_reducible rfl
                    rotate_left
                    · simp only [Act.put, List.setIfInBounds_toArray, List.set_cons_zero, List.set_cons_succ, i64_w, i32_w]
                      rfl
                    refine one_ (i := 10) (N := some 65) #[true, true, true, true, true, true, true, true, true, true, true, false, true, true, true, true, true, false, false, false] rfl rfl (by kernel_rfl) (by decide) (fun K hK => ?_)
                    refine value_ (w1 := ?_) (v := ?_) (by rfl) rfl ?_ ?_
                    rotate_left 2
                    · go_simp
                      constructor
                      · rfl
                      · rfl
                    refine hK.out _ _ ⟨F0.out, F1.out, F2.out, F3.out⟩ (fun hHeld => ?_)
                    clear hK K
                    refine norm_ (a' := ?_) ?_ ?_
                    rotate_left
                    · show Act.put _ (some 65) _ = _
                      simp only [Act.put, List.setIfInBounds_toArray, List.set_cons_zero, List.set_cons_succ, i64_w, i32_w]
                      rfl
                    refine one_ (i := 11) (N := some 66) #[true, true, true, true, true, true, true, true, true, true, true, true, true, true, true, true, true, false, false, false] rfl rfl (by kernel_rfl) (by decide) (fun K hK => ?_)
                    refine goes_ Tryd.func42 (by kernel_rfl) rfl #[.slice (some ⟨W2.heap.size, 0, none⟩) 1 1] (by rfl) rfl rfl (by simp only [List.map_toArray, List.map_cons, List.map_nil]; rfl) ?_
                    with_reducible refine (confText_one (some ⟨W2.heap.size, 0, none⟩) 1 s _ (Kd.C_drew LC.out) (Nat.le_refl 1) HZs.out).mono ?_
                    rintro e w5 ⟨rfl, hb5⟩
                    refine ⟨_, rfl, ?_⟩
                    have Q0 := (hb5.cell (World.block_lt_of_cell? _ _ F0.out)).trans F0.out
                    have Q1 := (hb5.cell (World.block_lt_of_cell? _ _ F1.out)).trans F1.out
                    have Q2 := (hb5.cell (World.block_lt_of_cell? _ _ F2.out)).trans F2.out
                    have Q3 := (hb5.cell (World.block_lt_of_cell? _ _ F3.out)).trans F3.out
                    have HB5 := Aside0.mk (below_step HX.out hb5)
                    have HCW5 := Aside0.mk (Kd.C_below HCW2.out hb5)
                    clear hb5
                    refine hK.out _ _ ⟨Q0, Q1, Q2, Q3⟩ (fun hHeld => ?_)
                    clear hK K
                    refine norm_ (a' := ?_) ?_ ?_
                    rotate_left
                    · show Act.put _ (some 66) _ = _
                      simp only [Act.put, List.setIfInBounds_toArray, List.set_cons_zero, List.set_cons_succ, i64_w, i32_w]
                      rfl
                    refine one_ (i := 17) (N := some 72) #[true, true, true, true, true, true, true, true, true, true, true, true, true, true, true, true, true, true, false, false] rfl rfl (by kernel_rfl) (by decide) (fun K hK => ?_)
                    refine goes_ Tryd.func42 (by kernel_rfl) rfl #[.slice (some (aw.add (i * 3))) 1 (c5 - i)] (by rfl) rfl rfl (by simp only [List.map_toArray, List.map_cons, List.map_nil]; rfl) ?_
                    with_reducible refine (confText_one (some (aw.add (i * 3))) (c5 - i) s _ HCW5.out HCc.out HZs.out).mono ?_
                    rintro e w6 ⟨rfl, hb6⟩
                    refine ⟨_, rfl, ?_⟩
                    have R0 := (hb6.cell (World.block_lt_of_cell? w5 _ Q0)).trans Q0
                    have R1 := (hb6.cell (World.block_lt_of_cell? w5 _ Q1)).trans Q1
                    have R2 := (hb6.cell (World.block_lt_of_cell? w5 _ Q2)).trans Q2
                    have R3 := (hb6.cell (World.block_lt_of_cell? w5 _ Q3)).trans Q3
                    have HB6 := Aside0.mk (below_step HB5.out hb6)
                    clear hb6
                    refine hK.out _ _ ⟨R0, R1, R2, R3⟩ (fun hHeld => ?_)
                    clear hK K
                    refine norm_ (a' := ?_) ?_ ?_
                    rotate_left
                    · show Act.put _ (some 72) _ = _
                      simp only [Act.put, List.setIfInBounds_toArray, List.set_cons_zero, List.set_cons_succ, i64_w, i32_w]
                      rfl
                    refine pure_ (i := 18) (N := some 73) (v := ?_) (a' := ?_) #[true, true, true, true, true, true, true, true, true, true, true, true, true, true, true, true, true, true, true, false] rfl rfl (by kernel_rfl) (fun _ _ _ h => h) (Or.inl ⟨by rfl, ?_⟩) ?_ ?_
                    rotate_left
                    · intro w'
                      go_simp
                      with_reducible rfl
                    rotate_left
                    · simp only [Act.put, List.setIfInBounds_toArray, List.set_cons_zero, List.set_cons_succ, i64_w, i32_w]
                      rfl
                    refine pure_ (i := 19) (N := some 74) (v := ?_) (a' := ?_) #[true, true, true, true, true, true, true, true, true, true, true, true, true, true, true, true, true, true, true, true] rfl rfl (by kernel_rfl) (fun _ _ _ h => h) (Or.inl ⟨by rfl, ?_⟩) ?_ ?_
                    rotate_left
                    · intro w'
                      go_simp
                      with_reducible rfl
                    rotate_left
                    · simp only [Act.put, List.setIfInBounds_toArray, List.set_cons_zero, List.set_cons_succ, i64_w, i32_w]
                      rfl
                    refine done_ (by kernel_rfl) ?_
                    go_wp2_with fail
                    go_roundg k2
                    case measure => have := HKi.out; omega
                    case rel => exact ⟨i + 1, by go_num, HIu.out, ⟨by have := HKi.out; omega⟩, ⟨below_step HBi.out HB6.out⟩⟩
                  · have c6b0 : decide ((i : Int) < (L.length : Int)) = false := decide_eq_false (by omega)
                    have HH := Aside0.mk (HHas.out wr (below_step HB3.out HBi.out))
                    have HBf := Aside0.mk (below_step HB3.out HBi.out)
                    have d9 : decide (L.length < l.length) = b := by rw [← HAny.out]; exact decide_eq_decide.2 (by omega)
                    clear HHas
                    go_wp2_with fail
                    refine HH.out.mono ?_
                    clear HH
                    rintro e w7 ⟨b2, rfl, hb7⟩
                    have HB7 := Aside0.mk (below_step HBf.out hb7)
                    clear hb7
                    cases b
                    all_goals go_wp2
                    all_goals go_ret
                    all_goals exact ⟨rfl, HB7.out⟩
end Go.Proofs.YtoofbppfbbhliaaDoor.confD
