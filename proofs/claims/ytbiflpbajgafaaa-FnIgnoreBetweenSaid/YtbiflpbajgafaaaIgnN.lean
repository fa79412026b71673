/- The law FnIgnoreBetween. -/
import Derived.Test.YtbiflpbajgafaaaIgnK
namespace Go.Proofs.Ytbiflpbajgafaaa.ign
open Go.RowKit Go.Proofs.YtbiflpbajgafaaaW.PrintWords Go.Proofs.YtbiflpbajgafaaaW.PrintLast Go.Proofs.YtbiflpbajgafaaaW.PrintMore Go.Proofs.Ytbiflpbajgafaaa.PFnIgnoreRoot
set_option linter.unusedVariables false
set_option linter.unusedSimpArgs false
set_option maxHeartbeats 4000000
set_option maxRecDepth 100000
/-- One of the names is as the pattern says. -/
def anyB (p : List UInt8) : List ByteArray → Bool
  | [] => false
  | n :: r => globs p n.data.toList || anyB p r
theorem trav_any (p : List UInt8) : ∀ ns, (trav p ns).isSome = anyB p ns
  | [] => rfl
  | n :: r => by
    rw [trav, anyB]
    cases hg : globs p n.data.toList with
    | true => rw [if_pos rfl]; rfl
    | false => rw [if_neg (by decide), trav_any p r]; rfl
theorem globs2_says {w : World} (p n : ByteArray) (hn : n.size ≤ 2147483647) : Says w 10 #[.string p, .string n] (.bool (globs p.data.toList n.data.toList)) := by
  obtain ⟨k, hk⟩ := (globs_ev p n hn).rounds
  intro W hW
  refine (spec_Globs.calls k p n _ W hk).mono ?_
  rintro e w' ⟨h1, h2⟩
  exact ⟨h1, below_step hW h2⟩
theorem isGlob_says {w : World} (s : ByteArray) (hs : s.size ≤ 2147483647) : ∃ b, Says w 7 #[.string s] (.bool b) ∧ (b = true → GlobOK s) := by
  obtain ⟨b, he, hb⟩ := isGlob_ev s hs
  obtain ⟨k, hk⟩ := he.rounds
  refine ⟨b, fun W hW => ?_, hb⟩
  refine (spec_IsGlob.calls k s b W hk).mono ?_
  rintro e w' ⟨h1, h2⟩
  exact ⟨h1, below_step hW h2.below⟩
theorem name_any (w : World) (p : ByteArray) (ns : List ByteArray) (dir : Bool) (B : Option Addr) (c : Nat) (hN : Kd.string.C w B ns.length ns) (hcc : ns.length ≤ c) (hs : ∀ n ∈ ns, n.size ≤ 2147483647) (hl : ns.length ≤ 1000000) :
    Calls Try.prog 11 #[.string p, .bool false, .slice B ns.length c, .bool dir] w fun e w' => e = .returned (.bool (anyB p.data.toList ns)) ∧ Below w.heap.size w w' := by
  have HN := Aside0.mk hN
  have HS := Aside0.mk hs
  have HB0 := Aside0.mk (Below.refl w.heap.size w)
  obtain ⟨b, hb⟩ : ∃ b, anyB p.data.toList ns = b := ⟨_, rfl⟩
  rw [hb]
  have HBB := Aside0.mk hb
  clear hN hs hb
  go_enter Try.func11, Try.ntmps11
  go_wp2_with fail
  go_loopg [13] (ns.length + 1) (fun kq v13 w' => ∃ (i : Nat), v13 = .int .i64 (i : Int) ∧ i ≤ ns.length ∧ Aside0 (kq + i = ns.length + 1) ∧ Aside0 (anyB p.data.toList (ns.drop i) = b) ∧ Aside0 (Below w.heap.size w w'))
  case atStart => exact ⟨0, rfl, Nat.zero_le _, ⟨by omega⟩, ⟨by rw [List.drop_zero]; exact HBB.out⟩, HB0⟩
  case round =>
    clear HBB HB0
    obtain ⟨i, rfl, hi, HK, HA, HB⟩ := hrel
    cases gk with
    | zero => exact absurd HK.out (by omega)
    | succ k1 =>
      by_cases hlt : i < ns.length
      · have c0 : decide ((i : Int) < (ns.length : Int)) = true := decide_eq_true (by omega)
        have c1 : decide (i < ns.length) = true := decide_eq_true hlt
        have p1 : (0 : Int) ≤ (i : Int) := by omega
        have p2 : (i : Int) < (ns.length : Int) := by omega
        have w1 : wrap64 ((i : Int) + 1) = (i : Int) + 1 := w64 (by omega) (by omega)
        obtain ⟨bd, hbd, hcb⟩ := str_at HN.out i hlt
        subst hbd
        have hcb2 := (HB.out.cell (World.block_lt_of_cell? w _ hcb)).trans hcb
        have hdrop : ns.drop i = ns[i] :: ns.drop (i + 1) := List.drop_eq_getElem_cons hlt
        have hsz := HS.out _ (List.getElem_mem hlt)
        obtain ⟨x, hx⟩ : ∃ x, ns[i] = x := ⟨_, rfl⟩
        have HA2 := HA.out
        rw [hdrop, anyB] at HA2
        rw [hx] at hcb2 HA2 hsz
        have HG := Aside0.mk (globs2_says (w := w) p x hsz)
        obtain ⟨m, hm⟩ : ∃ m, globs p.data.toList x.data.toList = m := ⟨_, rfl⟩
        rw [hm] at HA2 HG
        have HA2 := Aside0.mk HA2
        clear hcb hdrop hx hm HA hsz
        go_wp2_with fail
        refine (HG.out _ HB.out).mono ?_
        rintro e w2 ⟨rfl, hb⟩
        have HB2 := Aside0.mk hb
        clear HG hb hcb2 HB
        cases m with
        | true =>
          have hb : b = true := by have := HA2.out; rw [Bool.true_or] at this; exact this.symm
          subst hb
          go_wp2_with fail
          go_ret
          exact ⟨rfl, HB2.out⟩
        | false =>
          have HA3 := Aside0.mk (show anyB p.data.toList (ns.drop (i + 1)) = b from by have := HA2.out; rwa [Bool.false_or] at this)
          clear HA2
          go_wp2_with fail
          go_roundg k1
          case measure => omega
          case rel => exact ⟨i + 1, by go_num, by omega, ⟨by have := HK.out; omega⟩, HA3, HB2⟩
      · have c0 : decide ((i : Int) < (ns.length : Int)) = false := decide_eq_false (by omega)
        have c1 : decide (i < ns.length) = false := decide_eq_false hlt
        have hb : b = false := by rw [← HA.out, List.drop_of_length_le (by omega), anyB]
        subst hb
        go_wp2_with fail
        go_ret
        exact ⟨rfl, HB.out⟩
theorem between_takes (f b n : ByteArray) (r : List ByteArray) (dir : Bool) (hf : Gl f) (hb : Gl b) : takes [f, ⟨#[42, 42]⟩, b] (n :: r) false dir = (globs f.data.toList n.data.toList && anyB b.data.toList r) := by
  unfold takes
  rw [if_pos (show 1 < [f, (⟨#[42, 42]⟩ : ByteArray), b].length from (show 1 < 3 by decide)), gmat_gl hf]
  simp only [Bool.false_eq_true, if_false]
  cases hg : globs f.data.toList n.data.toList with
  | false => rw [if_neg (by decide)]; rfl
  | true =>
    rw [if_pos rfl, gmat_cons, if_neg (by decide), if_pos rfl, gmat_gl hb, Bool.true_and]
    cases r with
    | nil => rfl
    | cons m r' =>
      simp only [if_true]
      rw [← trav_any]
      cases trav b.data.toList (m :: r') with
      | none => rfl
      | some q => rw [gmat]; rfl
theorem between_pat (f b : ByteArray) (hf : GlobOK f) (hb : GlobOK b) (p : ByteArray) (hp : p.data.toList = f.data.toList ++ 47 :: (42 :: 42 :: 47 :: b.data.toList)) : Pat p [f, ⟨#[42, 42]⟩, b] false := by
  have hcf : ∀ x ∈ f.data.toList, x ≠ 47 ∧ x ≠ 33 ∧ x ≠ 32 := fun x hx => (okI_plain (hf.chars x hx)).2
  have hcb : ∀ x ∈ b.data.toList, x ≠ 47 ∧ x ≠ 33 ∧ x ≠ 32 := fun x hx => (okI_plain (hb.chars x hx)).2
  have hj : joinS [f, ⟨#[42, 42]⟩, b] = f.data.toList ++ 47 :: (42 :: 42 :: 47 :: b.data.toList) := rfl
  refine ⟨?_, by rw [hp, hj]; simp, ?_, ?_, ?_, ⟨?_, ?_, (show 3 ≤ 1000000 by decide), (fun h => absurd (show 3 = 1 from h) (by decide)), (show 0 < 3 by decide)⟩⟩
  · have h1 := hf.size
    have h2 := hb.size
    rw [← size_list, hp]
    simp only [List.length_append, List.length_cons, size_list]
    omega
  · intro q hq x hx
    simp only [List.mem_cons, List.not_mem_nil, or_false] at hq
    rcases hq with rfl | rfl | rfl
    · exact (hcf x hx).1
    · revert x; decide
    · exact (hcb x hx).1
  · intro x hx
    rw [hp] at hx
    simp only [List.mem_append, List.mem_cons] at hx
    rcases hx with h | rfl | rfl | rfl | rfl | h
    · exact (hcf x h).2
    · exact ⟨by decide, by decide⟩
    · exact ⟨by decide, by decide⟩
    · exact ⟨by decide, by decide⟩
    · exact ⟨by decide, by decide⟩
    · exact (hcb x h).2
  · refine joinS_fin _ (by simp) (fun q hq => ?_)
    have hq : q = b := by simpa using hq.symm
    subst hq
    exact ⟨hb.ne, fun x hx => (hcb x hx).1⟩
  · intro q hq
    simp only [List.mem_cons, List.not_mem_nil, or_false] at hq
    rcases hq with rfl | rfl | rfl
    · exact .inr (.inr hf.gl)
    · exact .inr (.inl rfl)
    · exact .inr (.inr hb.gl)
  · intro i hi h
    match i, hi with
    | 0, _ => exact (show 1 < 3 by decide)
    | 1, _ => exact (show 2 < 3 by decide)
    | 2, _ => exact absurd h (fun h => hb.gl.2.2.1 0 (by rw [show b.data.toList = [42, 42] from h]; decide) (by simp [show b.data.toList = [42, 42] from h]))
theorem between_law (w : World) (f b : ByteArray) (B : Option Addr) (c2 : Nat) (ns : List ByteArray) (dir : Bool) (hfs : f.size ≤ 9223372036854775807) (hbs : b.size ≤ 9223372036854775807) (hN : Kd.string.C w B ns.length ns) (hc2 : ns.length ≤ c2) :
    Calls Try.prog 3 #[.string f, .string b, .slice B ns.length c2, .bool dir] w fun e w' => e = .returned (.bool true) ∧ Below w.heap.size w w' := by
  have HN := Aside0.mk hN
  have HB0 := Aside0.mk (Below.refl w.heap.size w)
  clear hN
  by_cases hf : 2147483647 < f.size
  · have d0 : decide ((2147483647 : Int) < (f.size : Int)) = true := decide_eq_true (by omega)
    have d1 : decide (2147483647 < f.size) = true := decide_eq_true hf
    go_enter Try.func3, Try.ntmps3
    go_wp2_with fail
    go_ret
    exact ⟨rfl, HB0.out⟩
  by_cases hb : 2147483647 < b.size
  · have d0 : decide ((2147483647 : Int) < (f.size : Int)) = false := decide_eq_false (by omega)
    have d1 : decide (2147483647 < f.size) = false := decide_eq_false hf
    have d2 : decide ((2147483647 : Int) < (b.size : Int)) = true := decide_eq_true (by omega)
    have d3 : decide (2147483647 < b.size) = true := decide_eq_true hb
    go_enter Try.func3, Try.ntmps3
    go_wp2_with fail
    go_ret
    exact ⟨rfl, HB0.out⟩
  have d0 : decide ((2147483647 : Int) < (f.size : Int)) = false := decide_eq_false (by omega)
  have d1 : decide (2147483647 < f.size) = false := decide_eq_false hf
  have d2 : decide ((2147483647 : Int) < (b.size : Int)) = false := decide_eq_false (by omega)
  have d3 : decide (2147483647 < b.size) = false := decide_eq_false hb
  obtain ⟨b1, h1, g1⟩ := fits_says HN.out hc2
  have H1 := Aside0.mk h1
  have G1 := Aside0.mk g1
  have HFS := Aside0.mk (show f.size ≤ 2147483647 by omega)
  have HBS := Aside0.mk (show b.size ≤ 2147483647 by omega)
  clear h1 g1 hf hb hfs hbs
  go_enter Try.func3, Try.ntmps3
  go_wp2_with fail
  refine (H1.out _ HB0.out).mono ?_
  rintro e w1 ⟨rfl, hb⟩
  have HB1 := Aside0.mk hb
  clear hb H1
  clear d0 d1 d2 d3
  cases b1 with
  | false =>
    go_wp2_with fail
    go_ret
    exact ⟨rfl, HB1.out⟩
  | true =>
    have F1 := Aside0.mk (G1.out rfl)
    obtain ⟨b2, h2, g2⟩ := isGlob_says (w := w) f HFS.out
    have H2 := Aside0.mk h2
    have G2 := Aside0.mk g2
    clear h2 g2 G1
    go_wp2_with fail
    refine (H2.out _ HB1.out).mono ?_
    rintro e w2 ⟨rfl, hb⟩
    have HB2 := Aside0.mk hb
    clear hb H2
    cases b2 with
    | false =>
      go_wp2_with fail
      go_ret
      exact ⟨rfl, HB2.out⟩
    | true =>
      have F2 := Aside0.mk (G2.out rfl)
      obtain ⟨b3, h3, g3⟩ := isGlob_says (w := w) b HBS.out
      have H3 := Aside0.mk h3
      have G3 := Aside0.mk g3
      clear h3 g3 G2
      go_wp2_with fail
      refine (H3.out _ HB2.out).mono ?_
      rintro e w3 ⟨rfl, hb⟩
      have HB3 := Aside0.mk hb
      clear hb H3
      cases b3 with
      | false =>
        go_wp2_with fail
        go_ret
        exact ⟨rfl, HB3.out⟩
      | true =>
        have F3 := Aside0.mk (G3.out rfl)
        obtain ⟨b4, h4, g4⟩ := path_says HN.out hc2 F1.out
        have H4 := Aside0.mk h4
        have G4 := Aside0.mk g4
        clear h4 g4 G3
        go_wp2_with fail
        refine (H4.out _ HB3.out).mono ?_
        rintro e w4 ⟨rfl, hb⟩
        have HB4 := Aside0.mk hb
        clear hb H4
        cases b4 with
        | false =>
          go_wp2_with fail
          go_ret
          exact ⟨rfl, HB4.out⟩
        | true =>
          have F4 := Aside0.mk (G4.out rfl)
          have hnp : 0 < ns.length := F4.out.pos
          obtain ⟨n, r, hnr⟩ : ∃ n r, ns = n :: r := by
            cases h : ns with
            | nil => rw [h] at hnp; exact absurd hnp (by decide)
            | cons n r => exact ⟨n, r, rfl⟩
          have p2 : (0 : Int) < (ns.length : Int) := by omega
          obtain ⟨bd, hbd, hcl⟩ := str_at HN.out 0 hnp
          subst hbd
          have hcl2 : w.cell? bd = some (.string n) := by
            have h := hcl
            rw [show bd.add 0 = bd from by unfold Addr.add; rw [if_pos rfl]] at h
            rw [h]
            simp only [hnr, List.getElem_cons_zero]
          have hcl3 := (HB4.out.cell (World.block_lt_of_cell? w _ hcl2)).trans hcl2
          obtain ⟨B3, hsl, hC3, hl3⟩ := tail_of (B := some bd) (c := c2) (n := n) (r := r) (by have := HN.out; rwa [hnr] at this) (by rw [← hnr]; exact hc2)
          rw [← hnr] at hsl
          have HC3 := Aside0.mk hC3
          have HL3 := Aside0.mk hl3
          have HPT := Aside0.mk (between_pat f b F2.out F3.out ((((f ++ (⟨#[47]⟩ : ByteArray)) ++ (⟨#[42, 42]⟩ : ByteArray)) ++ (⟨#[47]⟩ : ByteArray)) ++ b) (by
            simp only [ByteArray.data_append, Array.toList_append]
            simp))
          have hfz := F2.out.size
          have hbz := F3.out.size
          have z1 : (f ++ (⟨#[47]⟩ : ByteArray)).size ≤ 5000 := by rw [ByteArray.size_append]; show _ + 1 ≤ _; omega
          have z2 : ((f ++ (⟨#[47]⟩ : ByteArray)) ++ (⟨#[42, 42]⟩ : ByteArray)).size ≤ 5000 := by rw [ByteArray.size_append, ByteArray.size_append]; show _ + 1 + 2 ≤ _; omega
          have z3 : (((f ++ (⟨#[47]⟩ : ByteArray)) ++ (⟨#[42, 42]⟩ : ByteArray)) ++ (⟨#[47]⟩ : ByteArray)).size ≤ 5000 := by rw [ByteArray.size_append, ByteArray.size_append, ByteArray.size_append]; show _ + 1 + 2 + 1 ≤ _; omega
          have H5 := Aside0.mk (globs2_says (w := w) f n (by have := (F4.out.all n (by rw [hnr]; simp)).size; omega))
          have HNR := Aside0.mk hnr
          have H6 := Aside0.mk (show Says w 11 #[.string b, .bool false, .slice B3 r.length (c2 - 1), .bool dir] (.bool (anyB b.data.toList r)) from by
            intro W hW
            refine (name_any W b r dir B3 (c2 - 1) (Kd.C_below HC3.out hW) HL3.out (fun q hq => by have := (F4.out.all q (by rw [HNR.out]; exact List.mem_cons_of_mem _ hq)).size; omega) (by have := F4.out.len; rw [HNR.out, List.length_cons] at this; omega)).mono ?_
            rintro e w' ⟨h1, h2⟩
            exact ⟨h1, below_step hW h2⟩)
          have HT := Aside0.mk (show takes [f, ⟨#[42, 42]⟩, b] ns false dir = (globs f.data.toList n.data.toList && anyB b.data.toList r) from by rw [hnr]; exact between_takes f b n r dir F2.out.gl F3.out.gl)
          have H7 := fun want h => igIs_says (w := w) (dir := dir) (want := want) HPT.out HN.out hc2 F4.out (HT.out.trans h)
          obtain ⟨g, hg⟩ : ∃ g, globs f.data.toList n.data.toList = g := ⟨_, rfl⟩
          obtain ⟨a, ha⟩ : ∃ a, anyB b.data.toList r = a := ⟨_, rfl⟩
          rw [hg] at H5 H7
          rw [ha] at H6 H7
          have H7 := Aside0.mk (H7 _ rfl)
          clear hnr hcl hcl2 hC3 hl3 G4 HPT HT hg ha
          go_wp2_with fail
          refine (H5.out _ HB4.out).mono ?_
          rintro e w5 ⟨rfl, hb⟩
          have HB5 := Aside0.mk hb
          clear hb H5
          clear hcl3
          cases g with
          | false =>
            go_wp2_with fail
            refine (H7.out _ HB5.out).mono ?_
            rintro e w7 ⟨rfl, hb⟩
            have HB7 := Aside0.mk hb
            clear hb H7
            go_wp2_with fail
            go_ret
            exact ⟨rfl, HB7.out⟩
          | true =>
            go_wp2_with fail
            refine (H6.out _ HB5.out).mono ?_
            rintro e w6 ⟨rfl, hb⟩
            have HB6 := Aside0.mk hb
            clear hb H6
            cases a <;>
            · go_wp2_with fail
              refine (H7.out _ HB6.out).mono ?_
              rintro e w7 ⟨rfl, hb⟩
              have HB7 := Aside0.mk hb
              clear hb H7
              go_wp2_with fail
              go_ret
              exact ⟨rfl, HB7.out⟩
end Go.Proofs.Ytbiflpbajgafaaa.ign
