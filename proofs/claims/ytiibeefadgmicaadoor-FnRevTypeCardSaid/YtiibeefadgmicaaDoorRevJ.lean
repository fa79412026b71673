/- Revisions: tokenizeExpression: a run of letters, a run of digits. -/
import Derived.Test.YtiibeefadgmicaaDoorRevI
namespace Go.Proofs.YtiibeefadgmicaaDoor.rev
open Go.RowKit Go.Proofs.YtiibeefadgmicaaDoorW.PrintWords Go.Proofs.YtiibeefadgmicaaDoorW.PrintLast Go.Proofs.YtiibeefadgmicaaDoorW.PrintMore Go.Proofs.YtiibeefadgmicaaDoor.PFnRevSteps
set_option linter.unusedVariables false
set_option linter.unusedSimpArgs false
set_option maxHeartbeats 2000000
set_option maxRecDepth 100000
theorem info32 : (Tryd.prog.info? 21).map (fun i => (i.zero, i.size, i.bytes)) = some (some (.int .i32 0), 1, 4) := by kernel_rfl
/-- The blocks of a reader are older than a call. -/
structure Old (d : Ad) (n : Nat) : Prop where
  x : d.gx < n
  u : d.gu < n
  l : d.gl < n
  r : d.gr < n
  b : d.gb < n
theorem Old.mono {d : Ad} {n m : Nat} (h : Old d n) (hm : n ≤ m) : Old d m := ⟨Nat.lt_of_lt_of_le h.x hm, Nat.lt_of_lt_of_le h.u hm, Nat.lt_of_lt_of_le h.l hm, Nat.lt_of_lt_of_le h.r hm, Nat.lt_of_lt_of_le h.b hm⟩
theorem Old.S {d : Ad} {n : Nat} (h : Old d n) : ∀ k, d.S k → k < n := by
  intro k hk
  simp only [Ad.S, In, List.mem_cons, List.not_mem_nil, or_false] at hk
  rcases hk with rfl | rfl | rfl | rfl
  · exact h.u
  · exact h.b
  · exact h.l
  · exact h.r
theorem Off.then_base {S : Nat → Prop} {w w1 w2 : World} (h : Off S w w1) (hb : Below w.heap.size w1 w2) : Off S w w2 :=
  ⟨hb.os.trans h.os, hb.tape.trans h.tape, hb.output.trans h.output, Nat.le_trans h.size hb.size, fun k hk n => (hb.block k hk).trans (h.block k hk n)⟩
theorem AtR.below {w w' : World} {d : Ad} {l : List UInt8} {b : Option UInt8} {n : Nat} (h : AtR w d l b) (ho : Old d n) (hb : Below n w w') : AtR w' d l b :=
  h.off (S := fun k => n ≤ k) ⟨hb.os, hb.tape, hb.output, hb.size, fun k _ hk => hb.block k (Nat.lt_of_not_le hk)⟩ ⟨Nat.not_le_of_lt ho.x, Nat.not_le_of_lt ho.u, Nat.not_le_of_lt ho.l, Nat.not_le_of_lt ho.r, Nat.not_le_of_lt ho.b⟩
abbrev k32 : Kd Int := Kd.int .i32
theorem R32_off {S : Nat → Prop} {w w' : World} {base : Nat} {v : Value} {xs : List Int} (h : k32.R 21 w base (fun _ => True) v xs) (ho : Off S w w') (hS : ∀ k, S k → k < base) : k32.R 21 w' base (fun _ => True) v xs :=
  Kd.R_mono (Kd.R_move (Kd.R_bound h) (fun k hk => ho.block k hk.2.2.1 (fun hs => by have := hS k hs; have := hk.2.1; omega))) (fun _ _ => trivial)
/-- Runes of a row as a text. -/
theorem conv_runes {w : World} {base : Nat} {v : Value} {l : List UInt8} (h : k32.R 21 w base (fun _ => True) v (rn l)) (hl : ∀ c ∈ l, c.toNat < 128) (hne : l ≠ []) (W : World) (hW : W.heap = w.heap) : (convert 138 9 v).run Tryd.prog W = .ok (.string (txt l)) W := by
  obtain ⟨A, c, rfl, hc, hC⟩ := Kd.R_reads h
  have hlen : (rn l).length = l.length := List.length_map _
  have hpos : 0 < l.length := List.length_pos_iff.2 hne
  obtain ⟨ad, hA, _⟩ := Kd.at_int hC 0 (by omega) (by omega)
  subst hA
  rw [run_convert_runes (P := Tryd.prog) W 138 9 21 ad (rn l).length c (rn l) (Nat.le_refl _) Tryd.underlying138 Tryd.underlying21 Tryd.underlying9 (fun j hj => ?_), List.take_length, runes_txt l hl]
  obtain ⟨ad', e', hx⟩ := Kd.at_int hC (j : Int) (by omega) (by omega)
  cases e'
  rw [Int.toNat_natCast] at hx
  unfold rd at hx
  rw [Int.toNat_natCast] at hx
  have : W.cell? (ad.add j) = w.cell? (ad.add j) := by unfold World.cell?; rw [hW]
  rw [this, hx]
theorem tok_L (w : World) (d : Ad) (hD : Dis d) (ea : Addr) (c : UInt8) (r : List UInt8) (b : Option UInt8) (τ : Int) (hc : OkC c) (hr : Good r) (hlen : r.length ≤ 4000) (hT : Tabs w ea) (h : AtR w d r b) (hO : Old d w.heap.size) :
    Calls Tryd.prog 49 #[.int .i32 (c.toNat : Int), .int .i64 τ, .func (.func 48) #[] #[], .pointer (some ⟨d.gr, 0, none⟩)] w fun e w' => e = .returned (.tuple #[.int .i64 τ, .string (txt (c :: r.takeWhile isL)), .nilIface]) ∧ Off d.S w w' ∧ ∃ b', AtR w' d (r.dropWhile isL) b' := by
  have H := Aside0.mk h
  have HT := Aside0.mk hT
  have HD := Aside0.mk hD
  have HR := Aside0.mk hr
  have HO := Aside0.mk hO
  have HC := Aside0.mk hc
  have HLEN := Aside0.mk hlen
  obtain ⟨gr, hg⟩ : ∃ gr, d.gr = gr := ⟨_, rfl⟩
  have HG := Aside0.mk hg
  rw [hg]
  obtain ⟨kc, hkc⟩ : ∃ kc : Int, (c.toNat : Int) = kc := ⟨_, rfl⟩
  have HKC := Aside0.mk hkc
  rw [hkc]
  clear h hT hD hr hO hc hg hkc hlen
  go_enter Tryd.func49, Tryd.ntmps49
  go_wp2_with (first | ((with_reducible refine gate_builtin (b := .append) (xs := #[.tmp 16, .tmp 18]) rfl ?_); at_builtin; go_must (refine Kd.R_append k32 (w0 := w) w.heap.size rfl (.tmp 16) (.tmp 18) 138 21 (.int .i32 0) 4 rfl Tryd.underlying138 info32 rfl (by decide) (by omega) (.slice none 0 0) [] kc [.int .i32 kc] (fun _ => True) (fun _ => False) rfl (by first | (go_simp; done) | (go_simp; rfl)) rfl (fun _ hk => hk.elim) (fun _ _ => trivial) (Kd.R_nil _ _ _ _ _) (Below.refl _ _) (Nat.le_refl _) (by decide) ?_); intro v1 w1 ho hb hg hat; have HO1 := Aside0.mk ho; have HB1 := Aside0.mk hb; clear ho hb hg hat) | fail)
  go_loopg [11, 12, 13, 14, 15] (r.length + 1) (fun kq v11 v12 v13 v14 v15 w' => ∃ (dn rem : List UInt8) (b' : Option UInt8), Aside0 (rem.length + 1 ≤ kq) ∧ Aside0 (dn ++ rem.takeWhile isL = r.takeWhile isL ∧ rem.dropWhile isL = r.dropWhile isL ∧ Good rem ∧ (∀ x ∈ dn, OkC x) ∧ dn.length + rem.length ≤ 4000) ∧ Aside0 (k32.R 21 w' w.heap.size (fun _ => True) v11 (rn (c :: dn))) ∧ Aside0 (Off d.S w w') ∧ Aside0 (AtR w' d rem b'))
  case atStart => exact ⟨[], r, b, ⟨Nat.le_refl _⟩, ⟨rfl, rfl, HR.out, (fun x hx => by cases hx), by rw [List.length_nil]; have := HLEN.out; omega⟩, ⟨by rw [show rn (c :: []) = [] ++ [kc] by rw [← HKC.out]; rfl]; exact HO1.out⟩, ⟨(Off.refl d.S w).then_base HB1.out⟩, ⟨H.out.below HO.out HB1.out⟩⟩
  case round =>
    obtain ⟨dn, rem, b', HK, HS, HR1, HOF, HAT⟩ := hrel
    have HTr := Aside0.mk (HT.out.off HOF.out HD.out.S16)
    cases rem with
    | nil =>
      have HRR := readRune_nil wr d HD.out ea b' HTr.out HAT.out
      rw [HG.out] at HRR
      have HRR := Aside0.mk HRR
      obtain ⟨s1, s2, s3, s4, s5⟩ := HS.out
      have hcv := fun (w2 : World) (ho : Off d.S wr w2) => conv_runes (R32_off HR1.out ho (fun k hk => HO.out.S k hk)) (fun x hx => by
        rcases List.mem_cons.1 hx with rfl | hx
        · exact (okC_lt HC.out).2
        · exact (okC_lt (s4 x hx)).2) (by simp)
      have HCV := Aside0.mk hcv
      have HD2 := Aside0.mk (show ([] : List UInt8) = r.dropWhile isL from s2)
      have HE := Aside0.mk (show txt (c :: dn) = txt (c :: r.takeWhile isL) by rw [← s1]; simp)
      clear hcv s1 s2 s3 s4 s5
      cases gk with
      | zero => exact absurd HK.out (by simp)
      | succ k1 =>
        go_wp2_with fail
        refine HRR.out.mono ?_
        rintro e w2 ⟨rfl, ho2, hat2⟩
        have HOF2 := Aside0.mk (HOF.out.trans ho2)
        have HAT2 := Aside0.mk hat2
        have hcv := HCV.out w2 ho2
        have hcvd := hcv w2.drew rfl
        clear ho2 hat2 HRR HCV hcv
        go_wp2_with fail
        go_region
        all_goals go_wp2_with fail
        all_goals go_ret3
        all_goals rw [HE.out]
        all_goals exact ⟨rfl, HOF2.out.drew, none, by rw [← HD2.out]; exact HAT2.out.off (S := fun _ => False) ((Off.refl _ w2).drew) ⟨id, id, id, id, id⟩⟩
    | cons x rem =>
      have HRR := readRune_cons wr d HD.out ea x rem b' (okC_lt (HS.out.2.2.1 x (.head _))).2 HTr.out HAT.out
      rw [HG.out] at HRR
      have HRR := Aside0.mk HRR
      have HUN := Aside0.mk (fun W h => unread_any W d HD.out x rem h)
      rw [HG.out] at HUN
      have hxl := okC_lt (HS.out.2.2.1 x (.head _))
      have HPP := Aside0.mk (fun (W : World) (hW : Tabs W ea) => isLetter_any W ea hW x (HS.out.2.2.1 x (.head _)))
      obtain ⟨kx, hkx⟩ : ∃ kx : Nat, x.toNat = kx := ⟨_, rfl⟩
      have HKX := Aside0.mk hkx
      rw [hkx] at HRR HPP hxl
      have z0 : ((kx : Int) == 0) = false := beq_eq_false_iff_ne.2 (by omega)
      have z1 : (kx == 0) = false := beq_eq_false_iff_ne.2 (by omega)
      clear hkx
      cases hp : isL x with
      | true =>
        obtain ⟨s1, s2, s3, s4, s5⟩ := HS.out
        rw [hp] at HPP
        have HS2 := Aside0.mk (show (dn ++ [x]) ++ rem.takeWhile isL = r.takeWhile isL ∧ rem.dropWhile isL = r.dropWhile isL ∧ Good rem ∧ (∀ y ∈ dn ++ [x], OkC y) ∧ (dn ++ [x]).length + rem.length ≤ 4000 from by
          rw [List.takeWhile_cons, if_pos hp] at s1
          rw [List.dropWhile_cons, if_pos hp] at s2
          refine ⟨by rw [List.append_assoc]; exact s1, s2, good_tail s3, fun y hy => ?_, by rw [List.length_append, List.length_singleton]; rw [List.length_cons] at s5; omega⟩
          rcases List.mem_append.1 hy with hy | hy
          · exact s4 y hy
          · rw [List.mem_singleton.1 hy]; exact s3 x (.head _))
        have HLD := Aside0.mk (show ((rn (c :: dn)).length + 1) * 4 ≤ 140737488355328 from by
          unfold rn
          rw [List.length_map, List.length_cons]
          omega)
        clear s1 s2 s3 s4 s5 hp
        cases gk with
        | zero => exact absurd HK.out (by simp)
        | succ k1 =>
          go_wp2_with fail
          refine HRR.out.mono ?_
          rintro e w2 ⟨rfl, ho2, hat2⟩
          have HOF2 := Aside0.mk (HOF.out.trans ho2)
          have HAT2 := Aside0.mk hat2
          have HR2 := Aside0.mk (R32_off HR1.out ho2 (fun k hk => HO.out.S k hk))
          have HP2 := Aside0.mk (HPP.out w2 (HT.out.off HOF2.out HD.out.S16))
          clear ho2 hat2 HRR HUN HPP
          go_wp2_with fail
          refine HP2.out.mono ?_
          rintro e w3 ⟨rfl, rfl⟩
          clear HP2
          go_wp2_with (first | ((with_reducible refine gate_builtin (b := .append) (xs := #[.tmp 34, .tmp 36]) rfl ?_); at_builtin; go_must (refine Kd.R_append k32 (w0 := w3) w.heap.size rfl (.tmp 34) (.tmp 36) 138 21 (.int .i32 0) 4 rfl Tryd.underlying138 info32 rfl (by decide) (by omega) u11 (rn (c :: dn)) (kx : Int) [.int .i32 (kx : Int)] (fun _ => True) (fun _ => False) rfl (by first | (go_simp; done) | (go_simp; rfl)) rfl (fun _ hk => hk.elim) (fun _ _ => trivial) HR2.out (Below.refl _ _) HOF2.out.size HLD.out ?_); intro v4 w4 ho hb hg hat; have HR4 := Aside0.mk ho; have HB4 := Aside0.mk hb; clear ho hb hg hat) | fail)
          go_roundg k1
          case measure => omega
          case rel => exact ⟨dn ++ [x], rem, some x, ⟨by have := HK.out; rw [List.length_cons] at this; omega⟩, HS2, ⟨by have := HR4.out; rw [show rn (c :: (dn ++ [x])) = rn (c :: dn) ++ [(kx : Int)] by rw [← HKX.out]; unfold rn; simp]; exact this⟩, ⟨HOF2.out.then_base HB4.out⟩, ⟨HAT2.out.below HO.out HB4.out⟩⟩
      | false =>
        obtain ⟨s1, s2, s3, s4, s5⟩ := HS.out
        rw [hp] at HPP
        have HE := Aside0.mk (show txt (c :: dn) = txt (c :: r.takeWhile isL) by rw [← s1, List.takeWhile_cons, if_neg (by rw [hp]; simp), List.append_nil])
        have HD2 := Aside0.mk (show x :: rem = r.dropWhile isL by rw [← s2, List.dropWhile_cons, if_neg (by rw [hp]; simp)])
        have HCV := Aside0.mk (fun (w2 : World) (ho : Off d.S wr w2) => conv_runes (R32_off HR1.out ho (fun k hk => HO.out.S k hk)) (fun x hx => by
          rcases List.mem_cons.1 hx with rfl | hx
          · exact (okC_lt HC.out).2
          · exact (okC_lt (s4 x hx)).2) (by simp))
        clear s1 s2 s3 s4 s5 hp
        cases gk with
        | zero => exact absurd HK.out (by simp)
        | succ k1 =>
          go_wp2_with fail
          refine HRR.out.mono ?_
          rintro e w2 ⟨rfl, ho2, hat2⟩
          have HO2 := Aside0.mk ho2
          have HAT2 := Aside0.mk hat2
          have HP2 := Aside0.mk (HPP.out w2 (HT.out.off (HOF.out.trans ho2) HD.out.S16))
          clear ho2 hat2 HRR HPP
          go_wp2_with fail
          refine HP2.out.mono ?_
          rintro e w3 ⟨rfl, rfl⟩
          have HU2 := Aside0.mk (HUN.out w3 HAT2.out)
          clear HP2 HUN
          go_wp2_with fail
          refine HU2.out.mono ?_
          rintro e w4 ⟨rfl, ho4, hat4⟩
          have HO4 := Aside0.mk (HO2.out.trans ho4)
          have HAT4 := Aside0.mk hat4
          have hcvd := HCV.out w4 HO4.out w4.drew rfl
          clear ho4 hat4 HU2 HCV
          go_wp2_with fail
          go_region
          all_goals go_wp2_with fail
          all_goals go_ret3
          all_goals rw [HE.out]
          all_goals exact ⟨rfl, (HOF.out.trans HO4.out).drew, none, by rw [← HD2.out]; exact HAT4.out.off (S := fun _ => False) ((Off.refl _ w4).drew) ⟨id, id, id, id, id⟩⟩
theorem tok_D (w : World) (d : Ad) (hD : Dis d) (ea : Addr) (c : UInt8) (r : List UInt8) (b : Option UInt8) (τ : Int) (hc : OkC c) (hr : Good r) (hlen : r.length ≤ 4000) (hT : Tabs w ea) (h : AtR w d r b) (hO : Old d w.heap.size) :
    Calls Tryd.prog 49 #[.int .i32 (c.toNat : Int), .int .i64 τ, .func (.func 50) #[] #[], .pointer (some ⟨d.gr, 0, none⟩)] w fun e w' => e = .returned (.tuple #[.int .i64 τ, .string (txt (c :: r.takeWhile isD)), .nilIface]) ∧ Off d.S w w' ∧ ∃ b', AtR w' d (r.dropWhile isD) b' := by
  have H := Aside0.mk h
  have HT := Aside0.mk hT
  have HD := Aside0.mk hD
  have HR := Aside0.mk hr
  have HO := Aside0.mk hO
  have HC := Aside0.mk hc
  have HLEN := Aside0.mk hlen
  obtain ⟨gr, hg⟩ : ∃ gr, d.gr = gr := ⟨_, rfl⟩
  have HG := Aside0.mk hg
  rw [hg]
  obtain ⟨kc, hkc⟩ : ∃ kc : Int, (c.toNat : Int) = kc := ⟨_, rfl⟩
  have HKC := Aside0.mk hkc
  rw [hkc]
  clear h hT hD hr hO hc hg hkc hlen
  go_enter Tryd.func49, Tryd.ntmps49
  go_wp2_with (first | ((with_reducible refine gate_builtin (b := .append) (xs := #[.tmp 16, .tmp 18]) rfl ?_); at_builtin; go_must (refine Kd.R_append k32 (w0 := w) w.heap.size rfl (.tmp 16) (.tmp 18) 138 21 (.int .i32 0) 4 rfl Tryd.underlying138 info32 rfl (by decide) (by omega) (.slice none 0 0) [] kc [.int .i32 kc] (fun _ => True) (fun _ => False) rfl (by first | (go_simp; done) | (go_simp; rfl)) rfl (fun _ hk => hk.elim) (fun _ _ => trivial) (Kd.R_nil _ _ _ _ _) (Below.refl _ _) (Nat.le_refl _) (by decide) ?_); intro v1 w1 ho hb hg hat; have HO1 := Aside0.mk ho; have HB1 := Aside0.mk hb; clear ho hb hg hat) | fail)
  go_loopg [11, 12, 13, 14, 15] (r.length + 1) (fun kq v11 v12 v13 v14 v15 w' => ∃ (dn rem : List UInt8) (b' : Option UInt8), Aside0 (rem.length + 1 ≤ kq) ∧ Aside0 (dn ++ rem.takeWhile isD = r.takeWhile isD ∧ rem.dropWhile isD = r.dropWhile isD ∧ Good rem ∧ (∀ x ∈ dn, OkC x) ∧ dn.length + rem.length ≤ 4000) ∧ Aside0 (k32.R 21 w' w.heap.size (fun _ => True) v11 (rn (c :: dn))) ∧ Aside0 (Off d.S w w') ∧ Aside0 (AtR w' d rem b'))
  case atStart => exact ⟨[], r, b, ⟨Nat.le_refl _⟩, ⟨rfl, rfl, HR.out, (fun x hx => by cases hx), by rw [List.length_nil]; have := HLEN.out; omega⟩, ⟨by rw [show rn (c :: []) = [] ++ [kc] by rw [← HKC.out]; rfl]; exact HO1.out⟩, ⟨(Off.refl d.S w).then_base HB1.out⟩, ⟨H.out.below HO.out HB1.out⟩⟩
  case round =>
    obtain ⟨dn, rem, b', HK, HS, HR1, HOF, HAT⟩ := hrel
    have HTr := Aside0.mk (HT.out.off HOF.out HD.out.S16)
    cases rem with
    | nil =>
      have HRR := readRune_nil wr d HD.out ea b' HTr.out HAT.out
      rw [HG.out] at HRR
      have HRR := Aside0.mk HRR
      obtain ⟨s1, s2, s3, s4, s5⟩ := HS.out
      have hcv := fun (w2 : World) (ho : Off d.S wr w2) => conv_runes (R32_off HR1.out ho (fun k hk => HO.out.S k hk)) (fun x hx => by
        rcases List.mem_cons.1 hx with rfl | hx
        · exact (okC_lt HC.out).2
        · exact (okC_lt (s4 x hx)).2) (by simp)
      have HCV := Aside0.mk hcv
      have HD2 := Aside0.mk (show ([] : List UInt8) = r.dropWhile isD from s2)
      have HE := Aside0.mk (show txt (c :: dn) = txt (c :: r.takeWhile isD) by rw [← s1]; simp)
      clear hcv s1 s2 s3 s4 s5
      cases gk with
      | zero => exact absurd HK.out (by simp)
      | succ k1 =>
        go_wp2_with fail
        refine HRR.out.mono ?_
        rintro e w2 ⟨rfl, ho2, hat2⟩
        have HOF2 := Aside0.mk (HOF.out.trans ho2)
        have HAT2 := Aside0.mk hat2
        have hcv := HCV.out w2 ho2
        have hcvd := hcv w2.drew rfl
        clear ho2 hat2 HRR HCV hcv
        go_wp2_with fail
        go_region
        all_goals go_wp2_with fail
        all_goals go_ret3
        all_goals rw [HE.out]
        all_goals exact ⟨rfl, HOF2.out.drew, none, by rw [← HD2.out]; exact HAT2.out.off (S := fun _ => False) ((Off.refl _ w2).drew) ⟨id, id, id, id, id⟩⟩
    | cons x rem =>
      have HRR := readRune_cons wr d HD.out ea x rem b' (okC_lt (HS.out.2.2.1 x (.head _))).2 HTr.out HAT.out
      rw [HG.out] at HRR
      have HRR := Aside0.mk HRR
      have HUN := Aside0.mk (fun W h => unread_any W d HD.out x rem h)
      rw [HG.out] at HUN
      have hxl := okC_lt (HS.out.2.2.1 x (.head _))
      have HPP := Aside0.mk (fun (W : World) (hW : Tabs W ea) => isNumber_any W ea hW x (HS.out.2.2.1 x (.head _)))
      obtain ⟨kx, hkx⟩ : ∃ kx : Nat, x.toNat = kx := ⟨_, rfl⟩
      have HKX := Aside0.mk hkx
      rw [hkx] at HRR HPP hxl
      have z0 : ((kx : Int) == 0) = false := beq_eq_false_iff_ne.2 (by omega)
      have z1 : (kx == 0) = false := beq_eq_false_iff_ne.2 (by omega)
      clear hkx
      cases hp : isD x with
      | true =>
        obtain ⟨s1, s2, s3, s4, s5⟩ := HS.out
        rw [hp] at HPP
        have HS2 := Aside0.mk (show (dn ++ [x]) ++ rem.takeWhile isD = r.takeWhile isD ∧ rem.dropWhile isD = r.dropWhile isD ∧ Good rem ∧ (∀ y ∈ dn ++ [x], OkC y) ∧ (dn ++ [x]).length + rem.length ≤ 4000 from by
          rw [List.takeWhile_cons, if_pos hp] at s1
          rw [List.dropWhile_cons, if_pos hp] at s2
          refine ⟨by rw [List.append_assoc]; exact s1, s2, good_tail s3, fun y hy => ?_, by rw [List.length_append, List.length_singleton]; rw [List.length_cons] at s5; omega⟩
          rcases List.mem_append.1 hy with hy | hy
          · exact s4 y hy
          · rw [List.mem_singleton.1 hy]; exact s3 x (.head _))
        have HLD := Aside0.mk (show ((rn (c :: dn)).length + 1) * 4 ≤ 140737488355328 from by
          unfold rn
          rw [List.length_map, List.length_cons]
          omega)
        clear s1 s2 s3 s4 s5 hp
        cases gk with
        | zero => exact absurd HK.out (by simp)
        | succ k1 =>
          go_wp2_with fail
          refine HRR.out.mono ?_
          rintro e w2 ⟨rfl, ho2, hat2⟩
          have HOF2 := Aside0.mk (HOF.out.trans ho2)
          have HAT2 := Aside0.mk hat2
          have HR2 := Aside0.mk (R32_off HR1.out ho2 (fun k hk => HO.out.S k hk))
          have HP2 := Aside0.mk (HPP.out w2 (HT.out.off HOF2.out HD.out.S16))
          clear ho2 hat2 HRR HUN HPP
          go_wp2_with fail
          refine HP2.out.mono ?_
          rintro e w3 ⟨rfl, rfl⟩
          clear HP2
          go_wp2_with (first | ((with_reducible refine gate_builtin (b := .append) (xs := #[.tmp 34, .tmp 36]) rfl ?_); at_builtin; go_must (refine Kd.R_append k32 (w0 := w3) w.heap.size rfl (.tmp 34) (.tmp 36) 138 21 (.int .i32 0) 4 rfl Tryd.underlying138 info32 rfl (by decide) (by omega) u11 (rn (c :: dn)) (kx : Int) [.int .i32 (kx : Int)] (fun _ => True) (fun _ => False) rfl (by first | (go_simp; done) | (go_simp; rfl)) rfl (fun _ hk => hk.elim) (fun _ _ => trivial) HR2.out (Below.refl _ _) HOF2.out.size HLD.out ?_); intro v4 w4 ho hb hg hat; have HR4 := Aside0.mk ho; have HB4 := Aside0.mk hb; clear ho hb hg hat) | fail)
          go_roundg k1
          case measure => omega
          case rel => exact ⟨dn ++ [x], rem, some x, ⟨by have := HK.out; rw [List.length_cons] at this; omega⟩, HS2, ⟨by have := HR4.out; rw [show rn (c :: (dn ++ [x])) = rn (c :: dn) ++ [(kx : Int)] by rw [← HKX.out]; unfold rn; simp]; exact this⟩, ⟨HOF2.out.then_base HB4.out⟩, ⟨HAT2.out.below HO.out HB4.out⟩⟩
      | false =>
        obtain ⟨s1, s2, s3, s4, s5⟩ := HS.out
        rw [hp] at HPP
        have HE := Aside0.mk (show txt (c :: dn) = txt (c :: r.takeWhile isD) by rw [← s1, List.takeWhile_cons, if_neg (by rw [hp]; simp), List.append_nil])
        have HD2 := Aside0.mk (show x :: rem = r.dropWhile isD by rw [← s2, List.dropWhile_cons, if_neg (by rw [hp]; simp)])
        have HCV := Aside0.mk (fun (w2 : World) (ho : Off d.S wr w2) => conv_runes (R32_off HR1.out ho (fun k hk => HO.out.S k hk)) (fun x hx => by
          rcases List.mem_cons.1 hx with rfl | hx
          · exact (okC_lt HC.out).2
          · exact (okC_lt (s4 x hx)).2) (by simp))
        clear s1 s2 s3 s4 s5 hp
        cases gk with
        | zero => exact absurd HK.out (by simp)
        | succ k1 =>
          go_wp2_with fail
          refine HRR.out.mono ?_
          rintro e w2 ⟨rfl, ho2, hat2⟩
          have HO2 := Aside0.mk ho2
          have HAT2 := Aside0.mk hat2
          have HP2 := Aside0.mk (HPP.out w2 (HT.out.off (HOF.out.trans ho2) HD.out.S16))
          clear ho2 hat2 HRR HPP
          go_wp2_with fail
          refine HP2.out.mono ?_
          rintro e w3 ⟨rfl, rfl⟩
          have HU2 := Aside0.mk (HUN.out w3 HAT2.out)
          clear HP2 HUN
          go_wp2_with fail
          refine HU2.out.mono ?_
          rintro e w4 ⟨rfl, ho4, hat4⟩
          have HO4 := Aside0.mk (HO2.out.trans ho4)
          have HAT4 := Aside0.mk hat4
          have hcvd := HCV.out w4 HO4.out w4.drew rfl
          clear ho4 hat4 HU2 HCV
          go_wp2_with fail
          go_region
          all_goals go_wp2_with fail
          all_goals go_ret3
          all_goals rw [HE.out]
          all_goals exact ⟨rfl, (HOF.out.trans HO4.out).drew, none, by rw [← HD2.out]; exact HAT4.out.off (S := fun _ => False) ((Off.refl _ w4).drew) ⟨id, id, id, id, id⟩⟩
end Go.Proofs.YtiibeefadgmicaaDoor.rev
