/- The laws FnIgnoreRoot, FnIgnoreElsewhere. -/
import Derived.Test.YtbiflpbajgafaaaIgnJ
namespace Go.Proofs.Ytbiflpbajgafaaa.ign
open Go.RowKit Go.Proofs.YtbiflpbajgafaaaW.PrintWords Go.Proofs.YtbiflpbajgafaaaW.PrintLast Go.Proofs.YtbiflpbajgafaaaW.PrintMore Go.Proofs.Ytbiflpbajgafaaa.PFnIgnoreRoot
set_option linter.unusedVariables false
set_option linter.unusedSimpArgs false
set_option maxHeartbeats 4000000
set_option maxRecDepth 100000
/-- A call says v in every later world. -/
def Says (w : World) (f : FuncId) (args : Array Value) (v : Value) : Prop := ∀ W, Below w.heap.size w W → Calls Try.prog f args W fun e w' => e = .returned v ∧ Below w.heap.size w w'
variable {w : World} {A : Option Addr} {c : Nat} {l : List ByteArray}
theorem fits_says (hC : Kd.string.C w A l.length l) (hc : l.length ≤ c) : ∃ b, Says w 6 #[.slice A l.length c] (.bool b) ∧ (b = true → Fits l) := by
  obtain ⟨b, he, hb⟩ := fits_ev l
  obtain ⟨k, hk⟩ := he.rounds
  refine ⟨b, fun W hW => ?_, hb⟩
  refine (laws_zzFits16.calls k A c l b W (Kd.C_below hC hW) hc hk).mono ?_
  rintro e w' ⟨h1, h2⟩
  exact ⟨h1, below_step hW h2.below⟩
theorem globs_says (hC : Kd.string.C w A l.length l) (hc : l.length ≤ c) (hf : Fits l) : ∃ b, Says w 12 #[.slice A l.length c] (.bool b) ∧ (b = true → GlobsOK l) := by
  obtain ⟨b, he, hb⟩ := areGlobs_ev l hf.len hf.all
  obtain ⟨k, hk⟩ := he.rounds
  refine ⟨b, fun W hW => ?_, hb⟩
  refine (spec_AreGlobs.calls k A c l b W (Kd.C_below hC hW) hc hk).mono ?_
  rintro e w' ⟨h1, h2⟩
  exact ⟨h1, below_step hW h2.below⟩
theorem path_says (hC : Kd.string.C w A l.length l) (hc : l.length ≤ c) (hf : Fits l) : ∃ b, Says w 8 #[.slice A l.length c] (.bool b) ∧ (b = true → PathOK l) := by
  obtain ⟨b, he, hb⟩ := isPath_ev l hf.len hf.all
  obtain ⟨k, hk⟩ := he.rounds
  refine ⟨b, fun W hW => ?_, hb⟩
  refine (spec_IsPath.calls k A c l b W (Kd.C_below hC hW) hc hk).mono ?_
  rintro e w' ⟨h1, h2⟩
  exact ⟨h1, below_step hW h2.below⟩
theorem slashed_says (hC : Kd.string.C w A l.length l) (hc : l.length ≤ c) (hg : GlobsOK l) : ∃ s, Says w 14 #[.slice A l.length c] (.string s) ∧ s.data.toList = joinS l ∧ s.size ≤ 4100 := by
  obtain ⟨s, he, hs⟩ := slashed_ev l hg
  obtain ⟨k, hk⟩ := he.rounds
  refine ⟨s, fun W hW => ?_, hs, ?_⟩
  · refine (spec_Slashed.calls k A c l s W (Kd.C_below hC hW) hc hk).mono ?_
    rintro e w' ⟨h1, h2⟩
    exact ⟨h1, below_step hW h2.below⟩
  · rw [← size_list, hs]
    have h1 := joinS_le l (fun q hq => (hg.all q hq).size)
    have h2 := hg.len
    omega
theorem tail_says (w : World) (f : Bool) : ∃ t : ByteArray, Says w 15 #[.bool f] (.string t) ∧ t.data.toList = (if f = true then [47] else []) ∧ t.size ≤ 1 := by
  have key : ∀ t : ByteArray, laws_igTail.f f = some t → Says w 15 #[.bool f] (.string t) := by
    intro t h W hW
    refine (laws_igTail.calls f t W h).mono ?_
    rintro e w' ⟨h1, h2⟩
    exact ⟨h1, below_step hW h2.below⟩
  cases f with
  | true => exact ⟨⟨#[47]⟩, key _ (by unfold laws_igTail.f; rw [if_pos rfl]), rfl, by decide⟩
  | false => exact ⟨⟨#[]⟩, key _ (by unfold laws_igTail.f; rw [if_neg (by decide)]), rfl, by decide⟩
theorem front_says {B : Option Addr} {c2 : Nat} {ns : List ByteArray} (hC : Kd.string.C w A l.length l) (hc : l.length ≤ c) (hN : Kd.string.C w B ns.length ns) (hc2 : ns.length ≤ c2) (hf : Fits ns) (folder dir : Bool) :
    Says w 16 #[.slice A l.length c, .bool folder, .slice B ns.length c2, .bool dir] (.bool (frontB l folder ns dir)) := by
  obtain ⟨k, hk⟩ := (front_ev l ns folder dir hf.len hf.all).rounds
  intro W hW
  refine (spec_FrontIgnored.calls k A c l folder B c2 ns dir _ W (Kd.C_below hC hW) hc (Kd.C_below hN hW) hc2 hk).mono ?_
  rintro e w' ⟨h1, h2⟩
  exact ⟨h1, below_step hW h2⟩
theorem igIs_says {p : ByteArray} {parts ns : List ByteArray} {tail dir want : Bool} {B : Option Addr} {c2 : Nat} (hp : Pat p parts tail) (hN : Kd.string.C w B ns.length ns) (hcc : ns.length ≤ c2) (hn : PathOK ns) (hw : takes parts ns tail dir = want) :
    Says w 9 #[.string p, .slice B ns.length c2, .bool dir, .bool want] (.bool true) := by
  intro W hW
  refine (igIs_any W p parts ns tail dir want B c2 hp (Kd.C_below hN hW) hcc hn.nm (by have := hn.len; omega) (List.length_pos_iff.1 hn.pos) hw).mono ?_
  rintro e w' ⟨h1, h2⟩
  exact ⟨h1, below_step hW h2⟩
theorem root_law (w : World) (A B : Option Addr) (c c2 : Nat) (ps ns : List ByteArray) (folder dir : Bool) (hP : Kd.string.C w A ps.length ps) (hc : ps.length ≤ c) (hN : Kd.string.C w B ns.length ns) (hc2 : ns.length ≤ c2) :
    Calls Try.prog 5 #[.slice A ps.length c, .bool folder, .slice B ns.length c2, .bool dir] w fun e w' => e = .returned (.bool true) ∧ Below w.heap.size w w' := by
  have HP := Aside0.mk hP
  have HN := Aside0.mk hN
  have HB0 := Aside0.mk (Below.refl w.heap.size w)
  obtain ⟨b1, h1, g1⟩ := fits_says hP hc
  have H1 := Aside0.mk h1
  have G1 := Aside0.mk g1
  clear hP hN h1 g1
  go_enter Try.func5, Try.ntmps5
  go_wp2_with fail
  refine (H1.out _ HB0.out).mono ?_
  rintro e w1 ⟨rfl, hb⟩
  have HB1 := Aside0.mk hb
  clear hb H1
  cases b1 with
  | false =>
    go_wp2_with fail
    go_ret
    exact ⟨rfl, HB1.out⟩
  | true =>
    have F1 := Aside0.mk (G1.out rfl)
    obtain ⟨b2, h2, g2⟩ := fits_says HN.out hc2
    have H2 := Aside0.mk h2
    have G2 := Aside0.mk g2
    clear h2 g2 G1
    go_wp2_with fail
    refine (H2.out _ HB1.out).mono ?_
    rintro e w2 ⟨rfl, hb⟩
    have HB2 := Aside0.mk hb
    clear hb H2
    cases b2 with
    | false =>
      go_wp2_with fail
      go_ret
      exact ⟨rfl, HB2.out⟩
    | true =>
      have F2 := Aside0.mk (G2.out rfl)
      obtain ⟨b3, h3, g3⟩ := globs_says HP.out hc F1.out
      have H3 := Aside0.mk h3
      have G3 := Aside0.mk g3
      clear h3 g3 G2 F1
      go_wp2_with fail
      refine (H3.out _ HB2.out).mono ?_
      rintro e w3 ⟨rfl, hb⟩
      have HB3 := Aside0.mk hb
      clear hb H3
      cases b3 with
      | false =>
        go_wp2_with fail
        go_ret
        exact ⟨rfl, HB3.out⟩
      | true =>
        have F3 := Aside0.mk (G3.out rfl)
        obtain ⟨b4, h4, g4⟩ := path_says HN.out hc2 F2.out
        have H4 := Aside0.mk h4
        have G4 := Aside0.mk g4
        clear h4 g4 G3
        go_wp2_with fail
        refine (H4.out _ HB3.out).mono ?_
        rintro e w4 ⟨rfl, hb⟩
        have HB4 := Aside0.mk hb
        clear hb H4
        cases b4 with
        | false =>
          go_wp2_with fail
          go_ret
          exact ⟨rfl, HB4.out⟩
        | true =>
          have F4 := Aside0.mk (G4.out rfl)
          obtain ⟨s, h5, hs, hsz⟩ := slashed_says HP.out hc F3.out
          obtain ⟨t, h6, ht, htz⟩ := tail_says w folder
          have H5 := Aside0.mk h5
          have H6 := Aside0.mk h6
          have H7 := Aside0.mk (front_says HP.out hc HN.out hc2 F2.out folder dir)
          have HPT := Aside0.mk (pat_root (p := (⟨#[47]⟩ : ByteArray) ++ s ++ t) (tail := folder) F3.out (by rw [ByteArray.data_append, Array.toList_append, ByteArray.data_append, Array.toList_append, hs, ht]; rfl))
          have H8 := Aside0.mk (igIs_says (w := w) (dir := dir) HPT.out HN.out hc2 F4.out (takes_root ps ns folder dir F3.out))
          have z1 : ((⟨#[47]⟩ : ByteArray) ++ s).size ≤ 5000 := by rw [ByteArray.size_append]; show 1 + _ ≤ _; omega
          obtain ⟨fb, hfb⟩ : ∃ fb, frontB ps folder ns dir = fb := ⟨_, rfl⟩
          rw [hfb] at H7 H8
          clear h5 h6 hs ht G4 HPT hfb
          go_wp2_with fail
          refine (H5.out _ HB4.out).mono ?_
          rintro e w5 ⟨rfl, hb⟩
          have HB5 := Aside0.mk hb
          clear hb H5
          go_wp2_with fail
          refine (H6.out _ HB5.out).mono ?_
          rintro e w6 ⟨rfl, hb⟩
          have HB6 := Aside0.mk hb
          clear hb H6
          go_wp2_with fail
          refine (H7.out _ HB6.out).mono ?_
          rintro e w7 ⟨rfl, hb⟩
          have HB7 := Aside0.mk hb
          clear hb H7
          go_wp2_with fail
          refine (H8.out _ HB7.out).mono ?_
          rintro e w8 ⟨rfl, hb⟩
          have HB8 := Aside0.mk hb
          clear hb H8
          go_wp2_with fail
          go_ret
          exact ⟨rfl, HB8.out⟩
end Go.Proofs.Ytbiflpbajgafaaa.ign
