/- The specification's Patched: what it tells is what the relation Patch says. -/
import Derived.Test.YtghcecngdhcjpaaDoorDrA
import Derived.Test.YtghcecngdhcjpaaDoorImplPatch
namespace Go.Proofs.YtghcecngdhcjpaaDoor.dr
open Go.RowKit Go.Proofs.YtghcecngdhcjpaaDoorW.PrintWords Go.Proofs.YtghcecngdhcjpaaDoorW.PrintLast Go.Proofs.YtghcecngdhcjpaaDoorW.PrintMore Go.Proofs.YtghcecngdhcjpaaDoor.leb
set_option linter.unusedVariables false
set_option linter.unusedSimpArgs false
set_option maxHeartbeats 4000000
set_option maxRecDepth 100000
/-- What Patched answers. -/
def Told (B : Nat) (base delta : List Int) (e : Ending) (w' : World) : Prop :=
  (∃ (v : Value) (out rest : List Int) (T : Nat), e = .returned (.tuple #[v, .int .i64 0]) ∧ Kd.R (Kd.int .u8) 5 w' B (fun _ => True) v out ∧ Sized base delta rest T ∧ Patch base T rest [] (some out) ∧ 0 < base.length ∧ base.length ≤ 1000000 ∧ delta.length ≤ 1000000 ∧ out.length ≤ 1000000) ∨
  (∃ (v : Value) (s : Int), s ≠ 0 ∧ e = .returned (.tuple #[v, .int .i64 s]))
theorem both_some {cmd o s : Nat} {xs d : List Int} (h : both cmd xs = some (o, s, d)) : ∃ d1, fields [1, 2, 4, 8] 0 cmd 0 xs = some (o, d1) ∧ fields [16, 32, 64] 0 cmd 0 d1 = some (s, d) := by
  unfold both at h
  rw [Option.bind_eq_some_iff] at h
  obtain ⟨⟨o', d1⟩, h1, h2⟩ := h
  rw [Option.map_eq_some_iff] at h2
  obtain ⟨⟨s', d'⟩, h3, h4⟩ := h2
  simp only [Prod.mk.injEq] at h4
  obtain ⟨rfl, rfl, rfl⟩ := h4
  exact ⟨d1, h1, h3⟩
theorem w64_add {a b : Nat} (ha : a ≤ 1000000) (hb : b ≤ 16777216) : wrap64 ((a : Int) + (b : Int)) = (a : Int) + (b : Int) := by unfold wrap64; omega
theorem w64_add2 {a b : Nat} (ha : a < 4294967296) (hb : b ≤ 16777216) : wrap64 ((a : Int) + (b : Int)) = (a : Int) + (b : Int) := by unfold wrap64; omega
theorem w64_sub {a b : Nat} (ha : a ≤ 1000000) (hb : b < 4294967296) : wrap64 ((a : Int) - (b : Int)) = (a : Int) - (b : Int) := by unfold wrap64; omega
theorem patched_any (A0 A1 : Option Addr) (c0 c1 : Nat) (base delta : List Int) (w : World) (hr0 : Kd.C (Kd.int .u8) w A0 base.length base) (hc0 : base.length ≤ c0) (hr1 : Kd.C (Kd.int .u8) w A1 delta.length delta) (hc1 : delta.length ≤ c1) (hcm1 : c1 ≤ maxLen) (hb1 : Bytes delta) :
    Calls Tryd.prog 13 #[.slice A0 base.length c0, .slice A1 delta.length c1] w fun e w' => Told w.heap.size base delta e w' ∧ Below w.heap.size w w' := by
  have HR0 := Aside0.mk hr0
  have HR1 := Aside0.mk hr1
  have HY1 := Aside0.mk hb1
  have HS1 := Aside0.mk (size7_any A1 c1 delta w hr1 hc1 hcm1 hb1)
  clear hr0 hr1 hb1
  go_enter Tryd.func13, Tryd.ntmps13
  go_wp2_with fail
  refine HS1.out.mono ?_
  rintro e w1 ⟨h | ⟨s, hs, rfl⟩, hb⟩
  rotate_left
  · have HB := Aside0.mk hb
    have c1 : (s != 0) = true := by rw [bne_iff_ne]; exact hs
    have c2 : (s == 0) = false := by rw [beq_eq_false_iff_ne]; exact hs
    clear hs hb HS1
    go_wp2_with fail
    go_ret2
    exact ⟨.inr ⟨_, 2, by decide, rfl⟩, HB.out⟩
  obtain ⟨ds1, A2, c2, rest1, rfl, hx1, hp1, hl1, hd1, ht1, hc2, hcm2⟩ := h
  have HB1 := Aside0.mk hb
  have HX1 := Aside0.mk hx1
  have HD1 := Aside0.mk hd1
  have HT1 := Aside0.mk ht1
  have hy2 : Bytes rest1 := fun x hx => HY1.out x (by rw [hx1]; exact List.mem_append_right _ hx)
  have HY2 := Aside0.mk hy2
  have HS2 := Aside0.mk (size7_any A2 c2 rest1 w1 (Kd.C_below (ht1 w HR1.out) hb) hc2 hcm2 hy2)
  obtain ⟨N, hN⟩ : ∃ N, sevVal ds1 = N := ⟨_, rfl⟩
  have HN := Aside0.mk hN
  rw [hN]
  clear hb hx1 hd1 ht1 hy2 HS1 hN
  go_wp2_with fail
  refine HS2.out.mono ?_
  rintro e w2 ⟨h | ⟨s, hs, rfl⟩, hb⟩
  rotate_left
  · have HB := Aside0.mk (below_step HB1.out hb)
    have c1 : (s != 0) = true := by rw [bne_iff_ne]; exact hs
    have c2 : (s == 0) = false := by rw [beq_eq_false_iff_ne]; exact hs
    clear hs hb HS2
    go_wp2_with fail
    go_ret2
    exact ⟨.inr ⟨_, 2, by decide, rfl⟩, HB.out⟩
  obtain ⟨ds2, A3, c3, rest2, rfl, hx2, hp2, hl2, hd2, ht2, hc3, hcm3⟩ := h
  have HB2 := Aside0.mk (below_step HB1.out hb)
  have HX2 := Aside0.mk hx2
  have HD2 := Aside0.mk hd2
  have HT2 := Aside0.mk ht2
  have hy3 : Bytes rest2 := fun x hx => HY2.out x (by rw [hx2]; exact List.mem_append_right _ hx)
  have HY3 := Aside0.mk hy3
  obtain ⟨T, hT⟩ : ∃ T, sevVal ds2 = T := ⟨_, rfl⟩
  have HT := Aside0.mk hT
  have HTB := Aside0.mk (show T < 128 ^ 4 by have h1 := sevVal_lt ds2 hd2; have h2 : 128 ^ ds2.length ≤ 128 ^ 4 := Nat.pow_le_pow_right (by decide) hl2; omega)
  rw [hT]
  clear hb hx2 hd2 ht2 hy3 HS2 hT
  have HLEN := Aside0.mk (show rest2.length ≤ rest1.length by rw [HX2.out, List.length_append]; omega)
  by_cases z0 : base.length = 0
  · have t0 : ((base.length : Int) == 0) = true := by rw [beq_iff_eq]; omega
    have t0' : (base.length == 0) = true := by rw [beq_iff_eq]; omega
    clear z0
    go_wp2_with fail
    go_ret2
    exact ⟨.inr ⟨_, 2, by decide, rfl⟩, HB2.out⟩
  have t0 : ((base.length : Int) == 0) = false := by rw [beq_eq_false_iff_ne]; omega
  have t0' : (base.length == 0) = false := by rw [beq_eq_false_iff_ne]; omega
  have Z0 := Aside0.mk z0
  clear z0
  by_cases z1 : T = 0
  · have t1 : ((T : Int) == 0) = true := by rw [beq_iff_eq]; omega
    have t1' : (T == 0) = true := by rw [beq_iff_eq]; omega
    clear z1
    go_wp2_with fail
    go_ret2
    exact ⟨.inr ⟨_, 2, by decide, rfl⟩, HB2.out⟩
  have t1 : ((T : Int) == 0) = false := by rw [beq_eq_false_iff_ne]; omega
  have t1' : (T == 0) = false := by rw [beq_eq_false_iff_ne]; omega
  have Z1 := Aside0.mk z1
  clear z1
  by_cases z2 : 1000000 < T
  · have t2 : decide ((1000000 : Int) < (T : Int)) = true := decide_eq_true (by omega)
    have t2' : decide (1000000 < T) = true := decide_eq_true z2
    clear z2
    go_wp2_with fail
    go_ret2
    exact ⟨.inr ⟨_, 2, by decide, rfl⟩, HB2.out⟩
  have t2 : decide ((1000000 : Int) < (T : Int)) = false := decide_eq_false (by omega)
  have t2' : decide (1000000 < T) = false := decide_eq_false z2
  have Z2 := Aside0.mk z2
  clear z2
  by_cases z3 : 1000000 < base.length
  · have t3 : decide ((1000000 : Int) < (base.length : Int)) = true := decide_eq_true (by omega)
    have t3' : decide (1000000 < base.length) = true := decide_eq_true z3
    clear z3
    go_wp2_with fail
    go_ret2
    exact ⟨.inr ⟨_, 2, by decide, rfl⟩, HB2.out⟩
  have t3 : decide ((1000000 : Int) < (base.length : Int)) = false := decide_eq_false (by omega)
  have t3' : decide (1000000 < base.length) = false := decide_eq_false z3
  have Z3 := Aside0.mk z3
  clear z3
  by_cases z4 : 1000000 < delta.length
  · have t4 : decide ((1000000 : Int) < (delta.length : Int)) = true := decide_eq_true (by omega)
    have t4' : decide (1000000 < delta.length) = true := decide_eq_true z4
    clear z4
    go_wp2_with fail
    go_ret2
    exact ⟨.inr ⟨_, 2, by decide, rfl⟩, HB2.out⟩
  have t4 : decide ((1000000 : Int) < (delta.length : Int)) = false := decide_eq_false (by omega)
  have t4' : decide (1000000 < delta.length) = false := decide_eq_false z4
  have Z4 := Aside0.mk z4
  clear z4
  by_cases z5 : N = base.length
  rotate_left
  · have t5 : ((N : Int) != (base.length : Int)) = true := by rw [bne_iff_ne]; omega
    have t5' : ((N : Int) == (base.length : Int)) = false := by rw [beq_eq_false_iff_ne]; omega
    clear z5
    go_wp2_with fail
    go_ret2
    exact ⟨.inr ⟨_, 1, by decide, rfl⟩, HB2.out⟩
  have t5 : ((N : Int) != (base.length : Int)) = false := by rw [bne_eq_false_iff_eq]; omega
  have t5' : ((N : Int) == (base.length : Int)) = true := by rw [beq_iff_eq]; omega
  have Z5 := Aside0.mk z5
  clear z5
  have HSZ := Aside0.mk (show Sized base delta rest2 T from ⟨⟨ds1, ds2, by rw [HX1.out, HX2.out], hp1, by omega, HD1.out, hp2, by omega, HD2.out, by rw [HN.out, Z5.out], HT.out⟩, by have := Z1.out; omega, by have := Z2.out; omega, HY3.out⟩)
  clear hp1 hl1 hp2 hl2
  go_wp2_with fail
  go_loopw [7, 10] (fun b o wr => ∃ (A4 : Option Addr) (c4 : Nat) (ys : List Int) (Ao : Option Addr) (co : Nat) (out : List Int), b = .slice A4 ys.length c4 ∧ o = .slice Ao out.length co ∧ ys.length ≤ c4 ∧ c4 ≤ maxLen ∧
    Aside0 (out.length ≤ T) ∧ Aside0 (Tail A1 delta A4 ys) ∧ Aside0 (Bytes ys) ∧ Aside0 (Below w.heap.size w wr) ∧ Aside0 (Kd.R (Kd.int .u8) 5 wr w.heap.size (fun _ => True) (.slice Ao out.length co) out) ∧ Aside0 (∀ r, Patch base (T - out.length) ys out r → Patch base T rest2 [] r) ∧ Aside0 (ys.length ≤ delta.length)) (fun b _ _ => lenOf b)
  case atStart => exact ⟨A3, c3, rest2, none, 0, [], rfl, rfl, hc3, hcm3, ⟨by simp⟩, ⟨fun w1 h => HT2.out w1 (HT1.out w1 h)⟩, HY3, HB2, ⟨Kd.R_nil _ _ _ _ _⟩, ⟨fun r h => h⟩, ⟨by have := HLEN.out; have h2 := congrArg List.length HX1.out; rw [List.length_append] at h2; omega⟩⟩
  case round =>
    obtain ⟨A4, c4, ys, Ao, co, out, rfl, rfl, hc4, hcm4, HOL, HTL, HYS, HB, HO, HP, HYL⟩ := hrel
    have HC := Aside0.mk (Kd.C_below (HTL.out w HR1.out) HB.out)
    clear t0 t0' t1 t1' t2 t2' t3 t3' t4 t4' t5 t5'
    have hol := HOL.out
    by_cases hlt : out.length < T
    · have u0 : decide ((out.length : Int) < (T : Int)) = true := decide_eq_true (by omega)
      have u0' : decide (out.length < T) = true := decide_eq_true hlt
      have HLT := Aside0.mk hlt
      clear hlt hol
      cases ys with
      | nil =>
        go_wp2_with fail
        go_ret2
        exact ⟨.inr ⟨_, 1, by decide, rfl⟩, HB.out⟩
      | cons x t =>
        obtain ⟨ad, e, hx0⟩ := byte_at HC.out 0 (by simp) (x := x) rfl
        cases e
        rw [Addr.add_zero'] at hx0
        obtain ⟨hxa, hxb⟩ := HYS.out x (by simp)
        obtain ⟨y, rfl⟩ := Int.eq_ofNat_of_zero_le hxa
        have hyb : y < 256 := by omega
        have HYT := Aside0.mk (show Bytes t from fun z hz => HYS.out z (by simp [hz]))
        clear hxa hxb
        have un : ((t.length : Int) + 1 == 0) = false := by rw [beq_eq_false_iff_ne]; omega
        by_cases hy0 : y = 0
        · subst hy0
          have u1 : (((0 : Nat) : Int) == 0) = true := rfl
          go_wp2_with fail
          go_ret2
          exact ⟨.inr ⟨_, 1, by decide, rfl⟩, HB.out⟩
        · have u1 : ((y : Int) == 0) = false := by rw [beq_eq_false_iff_ne]; omega
          have HCT := Aside0.mk (fun w1 h1 => tail_C (HTL.out w1 h1) hc4)
          obtain ⟨A5, hA5⟩ : ∃ A5, (if c4 = 1 then some ad else some { block := ad.block, off := ad.off + 1 }) = A5 := ⟨_, rfl⟩
          rw [hA5] at HCT
          have hc5 : t.length ≤ c4 - 1 := by simp at hc4; omega
          have ob : (out.length : Int) ≤ 1000000 := Int.ofNat_le.2 (Nat.le_trans HOL.out (Nat.le_of_not_lt Z2.out))
          have oy : (y : Int) ≤ 255 := Int.ofNat_le.2 (Nat.le_of_lt_succ hyb)
          by_cases h128 : y < 128
          · have u2 : decide ((y : Int) < 128) = true := decide_eq_true (by omega)
            have u2' : decide (y < 128) = true := decide_eq_true h128
            by_cases hb1 : t.length < y
            · have u3 : decide ((t.length : Int) < (y : Int)) = true := decide_eq_true (by omega)
              have u3' : decide (t.length < y) = true := decide_eq_true hb1
              clear hb1
              go_wp2_with fail
              go_ret2
              exact ⟨.inr ⟨_, 1, by decide, rfl⟩, HB.out⟩
            have u3 : decide ((t.length : Int) < (y : Int)) = false := decide_eq_false (by omega)
            have u3' : decide (t.length < y) = false := decide_eq_false hb1
            by_cases hb2 : T < out.length + y
            · have u4 : decide ((T : Int) < (out.length : Int) + (y : Int)) = true := decide_eq_true (by omega)
              have u4' : decide (T < out.length + y) = true := decide_eq_true hb2
              clear hb2 hb1
              go_wp2_with fail
              go_ret2
              exact ⟨.inr ⟨_, 1, by decide, rfl⟩, HB.out⟩
            have u4 : decide ((T : Int) < (out.length : Int) + (y : Int)) = false := decide_eq_false (by omega)
            have u4' : decide (T < out.length + y) = false := decide_eq_false hb2
            have hyt : y ≤ t.length := by omega
            have hyc : y ≤ c4 - 1 := by omega
            have HC1 := Aside0.mk (show Kd.C (Kd.int .u8) wr A5 y (t.take y) from by
              have h := Kd.C_take (Kd.C_below (HCT.out w HR1.out) HB.out) hyt
              rwa [List.length_take, Nat.min_eq_left hyt] at h)
            have HC2 := Aside0.mk (fun w1 (h1 : Kd.C (Kd.int .u8) w1 A1 delta.length delta) => Kd.C_drop (HCT.out w1 h1) hyt hc5)
            have HBD := Aside0.mk (show (out.length + y) * 1 ≤ 140737488355328 by have := Z2.out; omega)
            have HBW := Aside0.mk (show w.heap.size ≤ wr.heap.size from HB.out.size)
            have HNX := Aside0.mk (show ∀ r, Patch base (T - (out ++ t.take y).length) (t.drop y) (out ++ t.take y) r → Patch base T rest2 [] r from fun r h => HP.out r (by
              refine Patch.ins (c := y) (by omega) (by omega) h128 (by omega) hyt ?_
              have e : T - (out ++ t.take y).length = T - out.length - y := by rw [List.length_append, List.length_take]; omega
              rwa [e] at h))
            have HO2 := Aside0.mk (show (out ++ t.take y).length ≤ T by rw [List.length_append, List.length_take]; omega)
            have HYD := Aside0.mk (show (t.drop y).length ≤ delta.length by have := HYL.out; rw [List.length_drop]; simp at this; omega)
            clear hb1 hb2 HLT
            go_wp2_with (first | ((with_reducible refine gate_builtin (b := .append) (xs := #[.tmp 93, .tmp 96]) rfl ?_); at_builtin; go_must (refine Kd.R_append_row (Value.int .u8) 0 (w0 := w) w.heap.size rfl (.tmp 93) (.tmp 96) 25 5 (.int .u8 0) 1 rfl Tryd.underlying25 info5 rfl (by decide) _ out (t.take y) A5 y (c4 - 1) (fun _ => True) rfl rfl (fun _ _ => trivial) HO.out HC1.out HB.out HBW.out HBD.out ?_); intro v1 w1 hR1 hB1 _ _; obtain ⟨A6, c6, rfl⟩ := Kd.R_slice hR1; have HO3 := Aside0.mk hR1; have HB3 := Aside0.mk hB1; clear hR1 hB1) | fail)
            go_roundw
            case rel =>
              exact ⟨_, c4 - 1 - y, t.drop y, A6, c6, out ++ t.take y, by rw [List.length_drop], by first | rfl | rw [List.length_append, List.length_take, Nat.min_eq_left hyt], by rw [List.length_drop]; omega, by omega, HO2, ⟨fun w1 h1 => by simpa [Kd.int, Kd.scalar] using HC2.out w1 h1⟩, ⟨fun z hz => HYT.out z (List.mem_of_mem_drop hz)⟩, HB3, HO3, HNX, HYD⟩
            case measure => simp only [lenOf, List.length_cons]; omega
          · have u2 : decide ((y : Int) < 128) = false := decide_eq_false (by omega)
            have u2' : decide (y < 128) = false := decide_eq_false h128
            have HCP := Aside0.mk (copy_any y A5 (c4 - 1) t wr (Kd.C_below (HCT.out w HR1.out) HB.out) hc5 (by omega) HYT.out hyb)
            go_wp2_with fail
            refine HCP.out.mono ?_
            rintro e w3 ⟨hcp, hb3⟩
            have HB3 := Aside0.mk (below_step HB.out hb3)
            have HO3 := Aside0.mk (Kd.R_below HO.out hb3)
            clear hb3 HCP
            cases hbo : both y t with
            | none =>
              rw [hbo] at hcp
              obtain rfl : e = _ := hcp
              go_wp2_with fail
              go_ret2
              exact ⟨.inr ⟨_, 1, by decide, rfl⟩, HB3.out⟩
            | some p =>
              obtain ⟨o, s, d2⟩ := p
              rw [hbo] at hcp
              obtain ⟨A6, c6, rfl, ht6, hc6, hcm6⟩ := hcp
              have HT6 := Aside0.mk ht6
              obtain ⟨d1, hf1, hf2⟩ := both_some hbo
              have HF := Aside0.mk (And.intro hf1 hf2)
              have hs1 : 1 ≤ leb.sizeOf s := by rw [leb.sizeOf]; split <;> omega
              obtain ⟨S, hS⟩ : ∃ S, leb.sizeOf s = S := ⟨_, rfl⟩
              have HSS := Aside0.mk hS
              rw [hS] at hs1 ⊢
              obtain ⟨hov, hm1, hm1x⟩ := fields_ok [1, 2, 4, 8] 0 y 0 t o d1 hf1 (by decide) HYT.out
              obtain ⟨hsv, hm2, hm2x⟩ := fields_ok [16, 32, 64] 0 y 0 d1 s d2 hf2 (by decide) (fun z hz => HYT.out z (hm1x z hz))
              have hov' : o < 4294967296 := by simpa using hov
              have hsv' : s < 16777216 := by simpa using hsv
              have hS24 : S ≤ 16777216 := by rw [← hS, leb.sizeOf]; split <;> omega
              have oS : (S : Int) ≤ 16777216 := Int.ofNat_le.2 hS24
              have oo : (o : Int) < 4294967296 := Int.ofNat_lt.2 hov'
              have obl : (base.length : Int) ≤ 1000000 := Int.ofNat_le.2 (Nat.le_of_not_lt Z3.out)
              have HMX := Aside0.mk (And.intro hm1 (And.intro hm1x (And.intro hm2 hm2x)))
              clear ht6 hf1 hf2 hbo hS hov hsv hov' hsv' hS24 hm1 hm1x hm2 hm2x
              by_cases hb1 : base.length < o
              · have u3 : decide ((base.length : Int) < (o : Int)) = true := decide_eq_true (by omega)
                have u3' : decide (base.length < o) = true := decide_eq_true hb1
                clear hb1
                go_wp2_with fail
                go_ret2
                exact ⟨.inr ⟨_, 1, by decide, rfl⟩, HB3.out⟩
              have u3 : decide ((base.length : Int) < (o : Int)) = false := decide_eq_false (by omega)
              have u3' : decide (base.length < o) = false := decide_eq_false hb1
              by_cases hb2 : base.length - o < S
              · have u4 : decide ((base.length : Int) - (o : Int) < (S : Int)) = true := decide_eq_true (by omega)
                clear hb2 hb1
                go_wp2_with fail
                go_ret2
                exact ⟨.inr ⟨_, 1, by decide, rfl⟩, HB3.out⟩
              have u4 : decide ((base.length : Int) - (o : Int) < (S : Int)) = false := decide_eq_false (by omega)
              by_cases hb4 : T < out.length + S
              · have u5 : decide ((T : Int) < (out.length : Int) + (S : Int)) = true := decide_eq_true (by omega)
                have u5' : decide (T < out.length + S) = true := decide_eq_true hb4
                clear hb4 hb2 hb1
                go_wp2_with fail
                go_ret2
                exact ⟨.inr ⟨_, 1, by decide, rfl⟩, HB3.out⟩
              have u5 : decide ((T : Int) < (out.length : Int) + (S : Int)) = false := decide_eq_false (by omega)
              have u5' : decide (T < out.length + S) = false := decide_eq_false hb4
              have hz3 := Z3.out
              have hos : o + S ≤ base.length := by omega
              have hosc : o + S ≤ c0 := by omega
              have hoS : o + S - o = S := Nat.add_sub_cancel_left o S
              have HC1 := Aside0.mk (show Kd.C (Kd.int .u8) w3 (Option.map (fun x => x.add o) A0) S ((base.drop o).take S) from by
                have h0 := Kd.C_drop (Kd.C_below HR0.out HB3.out) (m := o) (by omega) hc0
                rw [if_neg (by omega)] at h0
                have h1 : Kd.C (Kd.int .u8) w3 (Option.map (fun x => x.add o) A0) (base.drop o).length (base.drop o) := by simpa [Kd.int, Kd.scalar] using h0
                have h := Kd.C_take h1 (m := S) (by rw [List.length_drop]; omega)
                rwa [List.length_take, List.length_drop, Nat.min_eq_left (by omega)] at h)
              have HBD := Aside0.mk (show (out.length + S) * 1 ≤ 140737488355328 by have := Z2.out; omega)
              have HBW := Aside0.mk (show w.heap.size ≤ w3.heap.size from HB3.out.size)
              have HNX := Aside0.mk (show ∀ r, Patch base (T - (out ++ (base.drop o).take S).length) d2 (out ++ (base.drop o).take S) r → Patch base T rest2 [] r from fun r h => HP.out r (by
                refine Patch.copy (c := y) (by omega) (by omega) hyb HF.out.1 HF.out.2 (by rw [HSS.out]; omega) (by rw [HSS.out]; omega) ?_
                rw [HSS.out]
                have e : T - (out ++ (base.drop o).take S).length = T - out.length - S := by rw [List.length_append, List.length_take, List.length_drop]; omega
                rwa [e] at h))
              have HO2 := Aside0.mk (show (out ++ (base.drop o).take S).length ≤ T by rw [List.length_append, List.length_take, List.length_drop]; omega)
              obtain ⟨hm1, hm1x, hm2, hm2x⟩ := HMX.out
              have HYD := Aside0.mk (show d2.length ≤ delta.length by have := HYL.out; simp at this; omega)
              have HYM := Aside0.mk (show d2.length < t.length + 1 by omega)
              have HYB := Aside0.mk (show Bytes d2 from fun z hz => HYT.out z (hm1x z (hm2x z hz)))
              clear hb1 hb2 hb4 HLT hm1 hm1x hm2 hm2x hz3
              go_wp2_with (first | ((with_reducible refine gate_builtin (b := .append) (xs := #[.tmp 133, .tmp 139]) rfl ?_); at_builtin; go_must (refine Kd.R_append_row (Value.int .u8) 0 (w0 := w) w.heap.size rfl (.tmp 133) (.tmp 139) 25 5 (.int .u8 0) 1 rfl Tryd.underlying25 info5 rfl (by decide) _ out ((base.drop o).take S) (Option.map (fun x => x.add o) A0) S (c0 - o) (fun _ => True) rfl (by first | rfl | (show Value.slice _ (o + S - o) _ = _; rw [hoS])) (fun _ _ => trivial) HO3.out HC1.out HB3.out HBW.out HBD.out ?_); intro v1 w1 hR1 hB1 _ _; obtain ⟨A7, c7, rfl⟩ := Kd.R_slice hR1; have HO4 := Aside0.mk hR1; have HB4 := Aside0.mk hB1; clear hR1 hB1) | fail)
              go_roundw
              case rel =>
                exact ⟨A6, c6, d2, A7, c7, out ++ (base.drop o).take S, rfl, by first | rfl | rw [List.length_append, List.length_take, List.length_drop, Nat.min_eq_left (by omega)], hc6, hcm6, HO2, ⟨fun w1 h1 => HT6.out w1 (HCT.out w1 h1)⟩, HYB, HB4, HO4, HNX, HYD⟩
              case measure => simp only [lenOf, List.length_cons]; exact HYM.out
    · have u0 : decide ((out.length : Int) < (T : Int)) = false := decide_eq_false (by omega)
      have u0' : decide (out.length < T) = false := decide_eq_false hlt
      have he : T - out.length = 0 := by omega
      have HE := Aside0.mk he
      have HOE := Aside0.mk (show out.length ≤ 1000000 by have := Z2.out; omega)
      clear hlt hol he
      cases ys with
      | cons x t =>
        have u1 : decide ((0 : Int) < (((t.length + 1 : Nat)) : Int)) = true := decide_eq_true (by omega)
        go_wp2_with fail
        go_ret2
        exact ⟨.inr ⟨_, 2, by decide, rfl⟩, HB.out⟩
      | nil =>
        go_wp2_with fail
        go_ret2
        exact ⟨.inl ⟨_, out, rest2, T, rfl, HO.out, HSZ.out, HP.out _ (by rw [HE.out]; exact .done), Nat.pos_of_ne_zero Z0.out, by have := Z3.out; omega, by have := Z4.out; omega, HOE.out⟩, HB.out⟩
end Go.Proofs.YtghcecngdhcjpaaDoor.dr
