/- config: the options of a section, asked for from outside. -/
import Derived.Test.YtoofbppfbbhliaaDoorPutD
namespace Go.Proofs.YtoofbppfbbhliaaDoor.confP
open Go.RowKit Go.Proofs.YtoofbppfbbhliaaDoorW.PrintWords Go.Proofs.YtoofbppfbbhliaaDoorW.PrintLast Go.Proofs.YtoofbppfbbhliaaDoorW.PrintMore Go.Proofs.YtoofbppfbbhliaaDoor.PFnConfAdd Go.Proofs.YtoofbppfbbhliaaDoor.ptr
set_option linter.unusedVariables false
set_option linter.unusedSimpArgs false
set_option maxHeartbeats 2000000
set_option maxRecDepth 100000
theorem secOption_any (g : Nat) (arr : Array Value) (x : S71) (key : ByteArray) (base : Nat) (ok : Nat → Prop) (w : World) (hg : w.heap[g]? = some (.cells arr 169 (0, 0))) (hM : kSec.M w base ok x arr.toList) (hl : ∀ o ∈ x.f1, Word o.f0) (ha : Word key) :
    Calls Tryd.prog 92 #[.pointer (some ⟨g, 0, none⟩), .string key] w fun e w' => e = .returned (.string (lastVal x.f1 key)) ∧ w = w' := by
  obtain ⟨A, c, A2, c2, ea, hc, hC, hc2, hC2⟩ := kSec_open (kSec.K_of_M hM)
  obtain ⟨arr⟩ := arr
  simp only at ea
  subst ea
  have h1 : w.cell? ⟨g, 1, none⟩ = some (.slice A x.f1.length c) := (blk_cell hg 1).trans rfl
  have HG := Aside0.mk (get_any A c x.f1 key w hC hc hl ha)
  clear hg hM hC hl ha
  go_enter Tryd.func92, Tryd.ntmps92
  go_wp2_with fail
  refine HG.out.mono ?_
  rintro e w' ⟨rfl, rfl⟩
  go_wp2
  go_ret
  exact ⟨rfl, rfl⟩
theorem secAll_any (g : Nat) (arr : Array Value) (x : S71) (key : ByteArray) (base : Nat) (ok : Nat → Prop) (w : World) (hg : w.heap[g]? = some (.cells arr 169 (0, 0))) (hM : kSec.M w base ok x arr.toList) (hl : ∀ o ∈ x.f1, Word o.f0) (ha : Word key) (hll : x.f1.length ≤ 4294967295) :
    Calls Tryd.prog 93 #[.pointer (some ⟨g, 0, none⟩), .string key] w fun e w' => ∃ v, e = .returned v ∧ Kd.R Kd.string 9 w' w.heap.size (fun _ => True) v (allVals x.f1 key) ∧ Below w.heap.size w w' := by
  obtain ⟨A, c, A2, c2, ea, hc, hC, hc2, hC2⟩ := kSec_open (kSec.K_of_M hM)
  obtain ⟨arr⟩ := arr
  simp only at ea
  subst ea
  have h1 : w.cell? ⟨g, 1, none⟩ = some (.slice A x.f1.length c) := (blk_cell hg 1).trans rfl
  have HG := Aside0.mk (getAll_any A c x.f1 key w hC hc hl ha hll)
  clear hg hM hC hl ha
  go_enter Tryd.func93, Tryd.ntmps93
  go_wp2_with fail
  refine HG.out.mono ?_
  rintro e w' ⟨v, rfl, hR, hb⟩
  have HR := Aside0.mk hR
  have HB := Aside0.mk hb
  clear hR hb
  go_wp2
  go_ret
  exact ⟨v, rfl, HR.out, HB.out⟩
theorem subOption_any (g : Nat) (arr : Array Value) (x : S115) (key : ByteArray) (base : Nat) (ok : Nat → Prop) (w : World) (hg : w.heap[g]? = some (.cells arr 172 (0, 0))) (hM : kSub.M w base ok x arr.toList) (hl : ∀ o ∈ x.f1, Word o.f0) (ha : Word key) :
    Calls Tryd.prog 95 #[.pointer (some ⟨g, 0, none⟩), .string key] w fun e w' => e = .returned (.string (lastVal x.f1 key)) ∧ w = w' := by
  obtain ⟨A, c, ea, hc, hC⟩ := kSub_open (kSub.K_of_M hM)
  obtain ⟨arr⟩ := arr
  simp only at ea
  subst ea
  have h1 : w.cell? ⟨g, 1, none⟩ = some (.slice A x.f1.length c) := (blk_cell hg 1).trans rfl
  have HG := Aside0.mk (get_any A c x.f1 key w hC hc hl ha)
  clear hg hM hC hl ha
  go_enter Tryd.func95, Tryd.ntmps95
  go_wp2_with fail
  refine HG.out.mono ?_
  rintro e w' ⟨rfl, rfl⟩
  go_wp2
  go_ret
  exact ⟨rfl, rfl⟩
theorem subAll_any (g : Nat) (arr : Array Value) (x : S115) (key : ByteArray) (base : Nat) (ok : Nat → Prop) (w : World) (hg : w.heap[g]? = some (.cells arr 172 (0, 0))) (hM : kSub.M w base ok x arr.toList) (hl : ∀ o ∈ x.f1, Word o.f0) (ha : Word key) (hll : x.f1.length ≤ 4294967295) :
    Calls Tryd.prog 96 #[.pointer (some ⟨g, 0, none⟩), .string key] w fun e w' => ∃ v, e = .returned v ∧ Kd.R Kd.string 9 w' w.heap.size (fun _ => True) v (allVals x.f1 key) ∧ Below w.heap.size w w' := by
  obtain ⟨A, c, ea, hc, hC⟩ := kSub_open (kSub.K_of_M hM)
  obtain ⟨arr⟩ := arr
  simp only at ea
  subst ea
  have h1 : w.cell? ⟨g, 1, none⟩ = some (.slice A x.f1.length c) := (blk_cell hg 1).trans rfl
  have HG := Aside0.mk (getAll_any A c x.f1 key w hC hc hl ha hll)
  clear hg hM hC hl ha
  go_enter Tryd.func96, Tryd.ntmps96
  go_wp2_with fail
  refine HG.out.mono ?_
  rintro e w' ⟨v, rfl, hR, hb⟩
  have HR := Aside0.mk hR
  have HB := Aside0.mk hb
  clear hR hb
  go_wp2
  go_ret
  exact ⟨v, rfl, HR.out, HB.out⟩
/-- The keys of options, and the names of sections, are words. -/
def Words (l : List S71) : Prop := ∀ s ∈ l, Word s.f0 ∧ (∀ o ∈ s.f1, Word o.f0) ∧ ∀ x ∈ s.f2, ∀ o ∈ x.f1, Word o.f0
/-- The options of which is spoken. -/
def optsOf (l : List S71) (section_ sub : ByteArray) : List S112 := if sub.toList = [] then (secOf l section_).f1 else (subOf (secOf l section_).f2 sub).f1
theorem lastD_mem {α : Type} {p : α → Bool} {d : α} {l : List α} : lastD p d l ∈ l ∨ lastD p d l = d := by
  unfold lastD
  cases h : (l.filter p).getLast? with
  | none => exact Or.inr rfl
  | some x => exact Or.inl (List.mem_filter.1 (List.mem_of_getLast? h)).1
theorem sec_words {l : List S71} (h : Words l) (n : ByteArray) : (∀ o ∈ (secOf l n).f1, Word o.f0) ∧ ∀ x ∈ (secOf l n).f2, ∀ o ∈ x.f1, Word o.f0 := by
  rcases lastD_mem (p := fun s => eqB s.f0 n) (d := (⟨n, [], []⟩ : S71)) (l := l) with hm | hm
  · exact (h _ hm).2
  · unfold secOf; rw [hm]
    exact ⟨fun o ho => (List.not_mem_nil ho).elim, fun x hx => (List.not_mem_nil hx).elim⟩
theorem sub_words {l : List S115} (h : ∀ x ∈ l, ∀ o ∈ x.f1, Word o.f0) (n : ByteArray) : ∀ o ∈ (subOf l n).f1, Word o.f0 := by
  rcases lastD_mem (p := fun s => eqB s.f0 n) (d := (⟨n, []⟩ : S115)) (l := l) with hm | hm
  · exact h _ hm
  · unfold subOf; rw [hm]
    exact fun o ho => (List.not_mem_nil ho).elim
theorem sec_fits {l : List S71} (h : Fits l) (n : ByteArray) : (secOf l n).f1.length ≤ 4294967295 ∧ (secOf l n).f2.length ≤ 4294967295 ∧ ∀ x ∈ (secOf l n).f2, x.f1.length ≤ 4294967295 := by
  rcases lastD_mem (p := fun s => eqB s.f0 n) (d := (⟨n, [], []⟩ : S71)) (l := l) with hm | hm
  · exact h.2 _ hm
  · unfold secOf; rw [hm]
    exact ⟨Nat.zero_le _, Nat.zero_le _, fun x hx => (List.not_mem_nil hx).elim⟩
theorem sub_fits {l : List S115} (h : ∀ x ∈ l, x.f1.length ≤ 4294967295) (n : ByteArray) : (subOf l n).f1.length ≤ 4294967295 := by
  rcases lastD_mem (p := fun s => eqB s.f0 n) (d := (⟨n, []⟩ : S115)) (l := l) with hm | hm
  · exact h _ hm
  · unfold subOf; rw [hm]; exact Nat.zero_le _
theorem got_room {n : Nat} (h : n ≤ 4294967295) : (([] : List ByteArray).length + n) * 16 ≤ 140737488355328 := by simp only [List.length_nil]; omega
/-- What GetOption tells. -/
def Got (w : World) (opts : List S112) (key : ByteArray) (e : Ending) (w' : World) : Prop := ∃ v, e = .returned (.tuple #[.string (lastVal opts key), v]) ∧ Kd.R Kd.string 9 w' w.heap.size (fun _ => True) v (allVals opts key) ∧ Below w.heap.size w w'
theorem getOption_any (A0 : Option Addr) (c0 : Nat) (l0 : List S71) (section_ sub key : ByteArray) (w : World) (hr0 : Kd.C k71 w A0 l0.length l0) (hc0 : l0.length ≤ c0) (hl : Fits l0) (hw : Words l0) (hs : Word section_) (hk : Word key) :
    Calls Tryd.prog 66 #[.slice A0 l0.length c0, .string section_, .string sub, .string key] w (Got w (optsOf l0 section_ sub) key) := by
  have HC0 := Aside0.mk (configOf_any A0 c0 l0 w hr0 hc0 hl)
  have HL := Aside0.mk hl
  have HW := Aside0.mk hw
  have HS := Aside0.mk hs
  have HK := Aside0.mk hk
  have HWS := Aside0.mk (sec_words hw section_)
  have HFS := Aside0.mk (sec_fits hl section_)
  clear hr0 hl hw hs hk
  go_enter Tryd.func66, Tryd.ntmps66
  go_wp2_with fail
  refine HC0.out.mono ?_
  clear HC0
  rintro e w1 ⟨gc, v, rfl, hgc, hbc, hR, hb1⟩
  have HS1 := Aside0.mk (section_any gc v (.pointer none) (.slice none 0 0) l0 section_ w.heap.size w1 hb1.size hgc hbc hR (fun s hs => (HW.out s hs).1) HS.out HL.out.1)
  have HB1 := Aside0.mk hb1
  clear hgc hbc hR hb1
  go_wp2_with fail
  refine HS1.out.mono ?_
  clear HS1
  rintro e w2 ⟨g2, arr2, rfl, hg2, hbk2, hM2, hb2⟩
  obtain ⟨s, hs⟩ : ∃ s, secOf l0 section_ = s := ⟨_, rfl⟩
  rw [hs] at hM2 HWS HFS
  have HSE := Aside0.mk hs
  have HG2 := Aside0.mk hg2
  have HBK2 := Aside0.mk hbk2
  have HM2 := Aside0.mk hM2
  have HB2 := Aside0.mk (HB1.out.trans hb2)
  clear hs hg2 hbk2 hM2 hb2 HB1
  by_cases hsub : sub.toList = []
  · have e1 : (sub.toList == ([] : List UInt8)) = true := beq_iff_eq.mpr hsub
    have e2 : sub.toList.isEmpty = true := by rw [hsub]; rfl
    have HO := Aside0.mk (show optsOf l0 section_ sub = s.f1 by rw [optsOf, if_pos hsub, HSE.out])
    clear hsub
    go_wp2_with fail
    refine (secOption_any g2 arr2 s key _ _ w2 HBK2.out HM2.out HWS.out.1 HK.out).mono ?_
    rintro e w3 ⟨rfl, rfl⟩
    go_wp2_with fail
    refine (secAll_any g2 arr2 s key _ _ _ (blk_alloc HBK2.out _) (Kd.M_alloc HM2.out _) HWS.out.1 HK.out HFS.out.1).mono ?_
    rintro e w4 ⟨v4, rfl, hR4, hb4⟩
    obtain ⟨A4, c4, e4⟩ := Kd.R_slice hR4
    subst e4
    obtain ⟨_, hc4, hC4⟩ := Kd.R_reads' hR4
    have HR4 := Aside0.mk (Kd.R_below (Kd.R_of_own (enc := Value.string) (h1 := fun _ => rfl) (xs := ([] : List ByteArray)) (ok := fun _ => True) (own_lit_of (enc := Value.string) w2 w.heap.size 9 [] HB2.out.size (by simp)) (fun _ _ => trivial)) hb4)
    have HB4 := Aside0.mk (below_step (below_alloc HB2.out (.cells #[] 9 (0, 0))) hb4)
    have HC4 := Aside0.mk hC4
    have HLa := Aside0.mk (Nat.le_trans (allVals_len (s.f1) key) HFS.out.1)
    clear hR4 hb4 hC4
    go_wp2_with (first | ((with_reducible refine gate_builtin (b := .append) (xs := #[.tmp 21, .tmp 24]) rfl ?_); at_builtin; go_must (refine Kd.R_append_row Value.string (⟨#[]⟩ : ByteArray) (w0 := w) w.heap.size rfl (.tmp 21) (.tmp 24) 64 9 (.string ⟨#[]⟩) 16 rfl Tryd.underlying64 infoS rfl (by decide) (.slice (some ⟨w2.heap.size, 0, none⟩) 0 0) ([] : List ByteArray) (allVals (s.f1) key) A4 (allVals (s.f1) key).length c4 (fun _ => True) rfl rfl (fun _ _ => trivial) HR4.out HC4.out HB4.out (below_size HB4.out) (got_room HLa.out) ?_); intro v5 w5 ho hb _ _; have HR5 := Aside0.mk ho; have HB5 := Aside0.mk hb; clear ho hb) | fail)
    go_ret2
    rw [HO.out]
    exact ⟨_, rfl, HR5.out, HB5.out⟩
  · have e1 : (sub.toList == ([] : List UInt8)) = false := beq_eq_false_iff_ne.mpr hsub
    have e2 : sub.toList.isEmpty = false := by cases h : sub.toList with | nil => exact absurd h hsub | cons => rfl
    have HO := Aside0.mk (show optsOf l0 section_ sub = (subOf s.f2 sub).f1 by rw [optsOf, if_neg hsub, HSE.out])
    clear hsub
    obtain ⟨v2, u2, ea, hRO, hRU⟩ := kSec_openM HM2.out
    obtain ⟨arr2⟩ := arr2
    simp only at ea
    subst ea
    have HSB := Aside0.mk (subsection_any g2 u2 (.string s.f0) v2 s.f2 sub w.heap.size w2 HB2.out.size HG2.out HBK2.out (Kd.R_mono hRU (fun _ _ => trivial)) HFS.out.2.1)
    clear hRO hRU
    go_wp2_with fail
    refine HSB.out.mono ?_
    clear HSB
    rintro e w3 ⟨g3, arr3, rfl, hg3, hbk3, hM3, hb3⟩
    have HWU := Aside0.mk (sub_words HWS.out.2 sub)
    have HFU := Aside0.mk (sub_fits HFS.out.2.2 sub)
    obtain ⟨x, hx⟩ : ∃ x, subOf s.f2 sub = x := ⟨_, rfl⟩
    rw [hx] at hM3 HWU HFU HO
    have HBK3 := Aside0.mk hbk3
    have HM3 := Aside0.mk hM3
    have HB3 := Aside0.mk (HB2.out.trans hb3)
    clear hx hg3 hbk3 hM3 hb3 HB2 HBK2 HM2
    go_wp2_with fail
    refine (subOption_any g3 arr3 x key _ _ w3 HBK3.out HM3.out HWU.out HK.out).mono ?_
    rintro e w3' ⟨rfl, rfl⟩
    go_wp2_with fail
    refine (subAll_any g3 arr3 x key _ _ _ (blk_alloc HBK3.out _) (Kd.M_alloc HM3.out _) HWU.out HK.out HFU.out).mono ?_
    rintro e w4 ⟨v4, rfl, hR4, hb4⟩
    obtain ⟨A4, c4, e4⟩ := Kd.R_slice hR4
    subst e4
    obtain ⟨_, hc4, hC4⟩ := Kd.R_reads' hR4
    have HR4 := Aside0.mk (Kd.R_below (Kd.R_of_own (enc := Value.string) (h1 := fun _ => rfl) (xs := ([] : List ByteArray)) (ok := fun _ => True) (own_lit_of (enc := Value.string) w3 w.heap.size 9 [] HB3.out.size (by simp)) (fun _ _ => trivial)) hb4)
    have HB4 := Aside0.mk (below_step (below_alloc HB3.out (.cells #[] 9 (0, 0))) hb4)
    have HC4 := Aside0.mk hC4
    have HLa := Aside0.mk (Nat.le_trans (allVals_len (x.f1) key) HFU.out)
    clear hR4 hb4 hC4
    go_wp2_with (first | ((with_reducible refine gate_builtin (b := .append) (xs := #[.tmp 32, .tmp 35]) rfl ?_); at_builtin; go_must (refine Kd.R_append_row Value.string (⟨#[]⟩ : ByteArray) (w0 := w) w.heap.size rfl (.tmp 32) (.tmp 35) 64 9 (.string ⟨#[]⟩) 16 rfl Tryd.underlying64 infoS rfl (by decide) (.slice (some ⟨w3.heap.size, 0, none⟩) 0 0) ([] : List ByteArray) (allVals (x.f1) key) A4 (allVals (x.f1) key).length c4 (fun _ => True) rfl rfl (fun _ _ => trivial) HR4.out HC4.out HB4.out (below_size HB4.out) (got_room HLa.out) ?_); intro v5 w5 ho hb _ _; have HR5 := Aside0.mk ho; have HB5 := Aside0.mk hb; clear ho hb) | fail)
    go_ret2
    rw [HO.out]
    exact ⟨_, rfl, HR5.out, HB5.out⟩
end Go.Proofs.YtoofbppfbbhliaaDoor.confP
