/- config: DropSection and HasSection of the package impl. -/
import Derived.Test.YtoofbppfbbhliaaDoorDropN
import Derived.Test.YtoofbppfbbhliaaDoorDropL
namespace Go.Proofs.YtoofbppfbbhliaaDoor.confD
open Go.RowKit Go.Proofs.YtoofbppfbbhliaaDoorW.PrintWords Go.Proofs.YtoofbppfbbhliaaDoorW.PrintLast Go.Proofs.YtoofbppfbbhliaaDoorW.PrintMore Go.Proofs.YtoofbppfbbhliaaDoor.PFnConfDrop Go.Proofs.YtoofbppfbbhliaaDoor.ptr
set_option linter.unusedVariables false
set_option linter.unusedSimpArgs false
set_option maxHeartbeats 2000000
set_option maxRecDepth 100000
def others (l : List S71) (name : ByteArray) : List S71 := l.filter fun s => !eqB s.f0 name
theorem others_fits {l : List S71} (h : Fits l) (name : ByteArray) : Fits (others l name) :=
  ⟨Nat.le_trans (List.length_filter_le _ _) h.1, fun s hs => h.2 s (List.mem_filter.1 hs).1⟩
/-- The sections that DropSection tells. -/
def Dropped (w : World) (l : List S71) (e : Ending) (w' : World) : Prop := ∃ v, e = .returned v ∧ Kd.R k71 71 w' w.heap.size (fun _ => True) v l ∧ Below w.heap.size w w'
theorem dropSection_any (A0 : Option Addr) (c0 : Nat) (l0 : List S71) (name : ByteArray) (w : World) (hr0 : Kd.C k71 w A0 l0.length l0) (hc0 : l0.length ≤ c0) (hl : Fits l0) (hw : ∀ s ∈ l0, Word s.f0) (ha : Word name) :
    Calls Tryd.prog 41 #[.slice A0 l0.length c0, .string name, .string (⟨#[]⟩ : ByteArray)] w (Dropped w (others l0 name)) := by
  have HC0 := Aside0.mk (configOf_any A0 c0 l0 w hr0 hc0 hl)
  have HL := Aside0.mk hl
  have HW := Aside0.mk hw
  have HA := Aside0.mk ha
  clear hr0 hl hw ha
  go_enter Tryd.func41, Tryd.ntmps41
  go_wp2_with fail
  refine HC0.out.mono ?_
  clear HC0
  rintro e w1 ⟨gc, v, rfl, hgc, hbc, hR, hb1⟩
  have HS1 := Aside0.mk (removeSection_any gc v (.pointer none) (.slice none 0 0) l0 name w.heap.size w1 hb1.size hgc hbc hR HW.out HA.out HL.out.1)
  have HB1 := Aside0.mk hb1
  clear hgc hbc hR hb1
  go_wp2_with fail
  refine HS1.out.mono ?_
  clear HS1
  rintro e w2 ⟨v2, rfl, hbc2, hR2, hb2⟩
  obtain ⟨A2, c2, e2, hc2, hC2⟩ := Kd.R_reads hR2
  subst e2
  have HS2 := Aside0.mk (sectionsOf_any gc A2 c2 (others l0 name) w2 hbc2 hC2 hc2 (others_fits HL.out name))
  have HB2 := Aside0.mk (HB1.out.trans hb2)
  clear hbc2 hR2 hb2 hC2 HB1
  go_wp2_with fail
  refine HS2.out.mono ?_
  clear HS2
  rintro e w3 ⟨v3, rfl, hR3, hb3⟩
  have HR3 := Aside0.mk (Kd.R_lower hR3 HB2.out.size)
  have HB3 := Aside0.mk (below_step HB2.out hb3)
  obtain ⟨A3, c3, e3⟩ := Kd.R_slice hR3
  subst e3
  clear hR3 hb3
  go_wp2
  go_ret
  exact ⟨_, rfl, HR3.out, HB3.out⟩
/-- What HasSection tells. -/
def Has (w : World) (b : Bool) (e : Ending) (w' : World) : Prop := ∃ b2, e = .returned (.tuple #[.bool b, .bool b2]) ∧ Below w.heap.size w w'
theorem implHas_any (A0 : Option Addr) (c0 : Nat) (l0 : List S71) (name : ByteArray) (w : World) (hr0 : Kd.C k71 w A0 l0.length l0) (hc0 : l0.length ≤ c0) (hl : Fits l0) (hw : ∀ s ∈ l0, Word s.f0) (ha : Word name) :
    Calls Tryd.prog 43 #[.slice A0 l0.length c0, .string name, .string (⟨#[]⟩ : ByteArray)] w (Has w (l0.any fun s => eqB s.f0 name)) := by
  have HC0 := Aside0.mk (configOf_any A0 c0 l0 w hr0 hc0 hl)
  have HL := Aside0.mk hl
  have HW := Aside0.mk hw
  have HA := Aside0.mk ha
  have HFS := Aside0.mk (sec_fits hl name)
  clear hr0 hl hw ha
  go_enter Tryd.func43, Tryd.ntmps43
  go_wp2_with fail
  refine HC0.out.mono ?_
  clear HC0
  rintro e w1 ⟨gc, v, rfl, hgc, hbc, hR, hb1⟩
  have HS1 := Aside0.mk (hasSection_any gc v (.pointer none) (.slice none 0 0) l0 name w.heap.size w1 hbc hR HW.out HA.out HL.out.1)
  obtain ⟨b, hb⟩ : ∃ b, (l0.any fun s => eqB s.f0 name) = b := ⟨_, rfl⟩
  rw [hb] at HS1
  have HBQ := Aside0.mk hb
  have HS2 := Aside0.mk (section_any gc v (.pointer none) (.slice none 0 0) l0 name w.heap.size w1 hb1.size hgc hbc hR HW.out HA.out HL.out.1)
  have HB1 := Aside0.mk hb1
  clear hgc hbc hR hb1 hb
  go_wp2_with fail
  refine HS1.out.mono ?_
  clear HS1
  rintro e w2 ⟨rfl, rfl⟩
  cases b with
  | false =>
    go_wp2
    go_ret2
    exact ⟨false, by rw [HBQ.out]; rfl, HB1.out⟩
  | true =>
    go_wp2_with fail
    refine HS2.out.mono ?_
    clear HS2
    rintro e w2 ⟨g2, arr2, rfl, hg2, hbk2, hM2, hb2⟩
    obtain ⟨s, hs⟩ : ∃ s, secOf l0 name = s := ⟨_, rfl⟩
    rw [hs] at hM2 HFS
    obtain ⟨v2, u2, ea, hRO, hRU⟩ := kSec_openM hM2
    obtain ⟨arr2⟩ := arr2
    simp only at ea
    subst ea
    have HS3 := Aside0.mk (hasSubsection_any g2 u2 (.string s.f0) v2 s.f2 (⟨#[]⟩ : ByteArray) w.heap.size _ w2 hbk2 hRU HFS.out.2.1)
    have HB2 := Aside0.mk (HB1.out.trans hb2)
    clear hs hg2 hbk2 hM2 hb2 hRO hRU HB1
    go_wp2_with fail
    refine HS3.out.mono ?_
    clear HS3
    rintro e w3 ⟨rfl, rfl⟩
    go_wp2
    go_ret2
    exact ⟨s.f2.any fun s => eqB s.f0 (⟨#[]⟩ : ByteArray), by rw [HBQ.out]; rfl, HB2.out⟩
end Go.Proofs.YtoofbppfbbhliaaDoor.confD
