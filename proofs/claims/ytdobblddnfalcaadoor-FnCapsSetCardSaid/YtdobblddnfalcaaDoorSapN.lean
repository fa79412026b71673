/- Capabilities: zzSplitBytes. Capabilities: a text of them and its pieces, plain. -/
import Derived.Test.YtdobblddnfalcaaDoorSapI
import Derived.Test.YtdobblddnfalcaaDoorCuts
import Derived.Test.YtdobblddnfalcaaDoorShelf
namespace Go.Proofs.YtdobblddnfalcaaDoor.cap
section
open Go.RowKit Go.Proofs.YtdobblddnfalcaaDoorW.PrintWords Go.Proofs.YtdobblddnfalcaaDoorW.PrintLast Go.Proofs.YtdobblddnfalcaaDoorW.PrintMore Go.Proofs.YtdobblddnfalcaaDoor.off Go.Proofs.YtdobblddnfalcaaDoor.mapq Go.Proofs.YtdobblddnfalcaaDoor.PFnCapsWritten Go.Proofs.YtdobblddnfalcaaDoor.cuts
set_option linter.unusedVariables false
set_option linter.unusedSimpArgs false
set_option maxHeartbeats 2000000
set_option maxRecDepth 100000
theorem wrapI {n : Int} (h0 : -9223372036854775808 ≤ n) (h1 : n < 9223372036854775808) : IntKind.i64.wrap n = n := by
  simp [IntKind.wrap, IntKind.bits, IntKind.signed]
  omega
/-- Pieces with a byte between them. -/
def jt (x : Int) (r : List (List Int)) : List Int := r.flatMap fun p => x :: p
def jn (x : Int) : List (List Int) → List Int
  | [] => []
  | p :: r => p ++ jt x r
theorem jt_cons (x : Int) (p : List Int) (r : List (List Int)) : jt x (p :: r) = x :: jn x (p :: r) := by
  unfold jt jn
  rw [List.flatMap_cons]
  rfl
def kS : Kd (List Int) := Kd.slice 5 (Kd.int .u8)
theorem infoSl : (Tryd.prog.info? 35).map (fun i => (i.zero, i.size, i.bytes)) = some (some (.slice none 0 0), 1, 24) := by kernel_rfl
/-- s[:a:a] -/
theorem take3_C {l p q : List Int} (hl : l = p ++ q) {n c m : Nat} (hn : l.length = n) (hm : p.length = m) (hc : n ≤ c) (A : Option Addr) :
    (∀ W : World, (Instr.slice 35 (.slice A n c) none (some (.int .i64 (m : Int))) (some (.int .i64 (m : Int)))).run Tryd.prog W = .ok (.slice A m m) W) ∧ (∀ W : World, (Kd.int .u8).C W A n l → (Kd.int .u8).C W A m p) := by
  refine ⟨fun W => ?_, (take_C hl hn hm rfl hc A).2⟩
  have hle : m ≤ n := by rw [← hn, hl, List.length_append]; omega
  have hel : Tryd.prog.elem 35 = 5 := by simp [Program.elem, Tryd.underlying35]
  have hu : Tryd.prog.underlying 35 = some (.slice (Tryd.prog.elem 35)) := by rw [hel]; exact Tryd.underlying35
  obtain ⟨i, hi, hs⟩ := u8_info
  rw [run_slice_hm W 35 A n c hu .i64 .i64 (m : Int) (m : Int) (by omega) (by omega) (by omega), hel]
  simp [sizeOf, typeInfo, hi, hs, sliced, Result.andThen]
  intro _
  cases A with
  | none => rfl
  | some ad => simp [Addr.add]
theorem str_one_ne {y x : Int} (hy : 0 ≤ y ∧ y < 256) (hx : 0 ≤ x ∧ x < 256) (h : y ≠ x) : ((strOfNums [y]).toList == (strOfNums [x]).toList) = false := by
  rw [beq_eq_false_iff_ne, ByteArray.toList_eq, ByteArray.toList_eq]
  intro e
  unfold strOfNums at e
  simp at e
  have h1 : (UInt8.ofNat y.toNat).toNat = (UInt8.ofNat x.toNat).toNat := by rw [e]
  rw [UInt8.toNat_ofNat_of_lt' (by show y.toNat < 256; omega), UInt8.toNat_ofNat_of_lt' (by show x.toNat < 256; omega)] at h1
  omega
theorem splitAll_any (wz w : World) (hz : Below wz.heap.size wz w) (A : Option Addr) (c0 : Nat) (xs : List Int) (hC : (Kd.int .u8).C wz A xs.length xs) (hc0 : xs.length ≤ c0) (x : Int) (B : Option Addr) (cB : Nat) (hB : (Kd.int .u8).C w B 1 [x]) (hcB : 1 ≤ cB) (hx : 0 ≤ x ∧ x < 256)
    (P : List (List Int)) (hP : xs = jn x P) (hP0 : P ≠ []) (hPx : ∀ p ∈ P, ∀ y ∈ p, y ≠ x ∧ 0 ≤ y ∧ y < 256) (hl : xs.length ≤ 1000000000) (hPl : P.length ≤ 1000000) :
    Calls Tryd.prog 34 #[.slice A xs.length c0, .slice B 1 cB, .int .i64 (-1)] w fun e w' => ∃ v, e = .returned v ∧ (Kd.fixed kS wz).R 35 w' w.heap.size (fun _ => True) v P ∧ Below w.heap.size w w' := by
  obtain ⟨cur0, rest0, hP1⟩ : ∃ p r, P = p :: r := List.exists_cons_of_ne_nil hP0
  have HC := Aside0.mk hC
  have HZ := Aside0.mk hz
  have HB := Aside0.mk hB
  have HPX := Aside0.mk hPx
  have HPL := Aside0.mk hPl
  have HXL := Aside0.mk hl
  have HX := Aside0.mk hx
  have HS0 := Aside0.mk (show P = [] ++ cur0 :: rest0 from hP1)
  rw [hP1] at hP
  subst hP
  clear hC hz hB hPx hP0 hP1 hPl hx
  go_enter Tryd.func34, Tryd.ntmps34
  go_wp2_with fail
  go_loopg [0, 7, 8] ((jn x (cur0 :: rest0)).length + 1) (fun kq v0 v7 v8 w' => ∃ (dn : List (List Int)) (cur : List Int) (rest : List (List Int)) (As : Option Addr) (cs i : Nat) (ov : Value), ov = v7 ∧ v0 = .slice As (jn x (cur :: rest)).length cs ∧ v8 = .int .i64 (i : Int) ∧ (jn x (cur :: rest)).length ≤ cs ∧ i ≤ cur.length ∧ Aside0 (P = dn ++ cur :: rest) ∧ Aside0 (kq + i = (jn x (cur :: rest)).length + 1) ∧ Aside0 ((jn x (cur :: rest)).length ≤ 1000000000) ∧ Aside0 ((Kd.int .u8).C wz As (jn x (cur :: rest)).length (jn x (cur :: rest))) ∧ Aside0 ((Kd.fixed kS wz).R 35 w' w.heap.size (fun _ => True) ov dn) ∧ Aside0 (Below w.heap.size w w'))
  case atStart => exact ⟨[], cur0, rest0, A, c0, 0, _, rfl, rfl, rfl, hc0, Nat.zero_le _, HS0, ⟨rfl⟩, HXL, HC, ⟨Kd.R_nil _ _ _ _ _⟩, ⟨Below.refl _ _⟩⟩
  case round =>
    clear HC HS0 HXL hl hc0
    obtain ⟨dn, cur, rest, As, cs, i, ov, hov, rfl, rfl, hcs, hi, HS, HK, HLL, HCS, HO, HBW⟩ := hrel
    subst hov
    cases gk with
    | zero =>
      have := HK.out
      have h2 : cur.length ≤ (jn x (cur :: rest)).length := by unfold jn; rw [List.length_append]; omega
      exact absurd this (by omega)
    | succ k1 =>
      have hcurx := HPX.out cur (by rw [HS.out]; exact List.mem_append_right _ List.mem_cons_self)
      have hdl : dn.length + 1 + rest.length = P.length := by rw [HS.out, List.length_append, List.length_cons]; omega
      have HDL := Aside0.mk (show dn.length ≤ 1000000 by have := HPL.out; omega)
      have HJN := Aside0.mk (show jn x (cur :: rest) = cur ++ jt x rest from rfl)
      have w1 : wrap64 ((i : Int) + 1) = (i : Int) + 1 := off.w64 (by omega) (by have := HK.out; have := HLL.out; omega)
      have FIN : ∀ (k : Nat), k = (jn x (cur :: rest)).length → rest = [] → (Kd.int .u8).C wz As cur.length cur ∧ k = cur.length ∧ P = dn ++ [cur] := fun k hk hr => by
        subst hr
        have e : jn x [cur] = cur := by unfold jn jt; simp
        have h := HCS.out
        rw [e] at h hk
        exact ⟨h, hk, HS.out⟩
      have HFIN := Aside0.mk FIN
      clear FIN
      by_cases hic : i < cur.length
      · obtain ⟨a1, y, a2, hay, hal⟩ : ∃ a1 y a2, cur = a1 ++ y :: a2 ∧ a1.length = i := ⟨cur.take i, cur[i], cur.drop (i + 1), by rw [← List.drop_eq_getElem_cons hic, List.take_append_drop], by rw [List.length_take]; omega⟩
        have c0 : decide ((i : Int) + 1 ≤ ((jn x (cur :: rest)).length : Int)) = true := decide_eq_true (by have := congrArg List.length HJN.out; rw [List.length_append] at this; omega)
        have hsp : jn x (cur :: rest) = a1 ++ [y] ++ (a2 ++ jt x rest) := by rw [HJN.out, hay]; simp
        obtain ⟨A6, hsl, hA6, hl6⟩ := mid_C (m1 := i) (m2 := 1) (k := cs - i) (a := (i : Int)) (b := (i : Int) + 1) hsp rfl hal rfl rfl rfl rfl hcs As
        obtain ⟨hy1, hy2⟩ := hcurx y (by rw [hay]; exact List.mem_append_right _ List.mem_cons_self)
        have hcv1 := fun m_ : Nat => Kd.C_string (P := Tryd.prog) (w := wr.drewN m_) (A := A6) (c := cs - i) Tryd.underlying35 Tryd.underlying5 Tryd.underlying9 (hA6 (wr.drewN m_) (Kd.C_below HCS.out (below_step HZ.out (pw_below_drewN HBW.out m_))))
        have w1b : IntKind.i64.wrap ((i : Int) + 1) = (i : Int) + 1 := wrapI (by omega) (by have := HK.out; have := HLL.out; omega)
        have hcv2 := fun m_ : Nat => Kd.C_string (P := Tryd.prog) (w := wr.drewN m_) (A := B) (c := cB) Tryd.underlying35 Tryd.underlying5 Tryd.underlying9 (Kd.C_below HB.out (pw_below_drewN HBW.out m_) : (Kd.int .u8).C (wr.drewN m_) B 1 [x])
        have hne := str_one_ne hy2 HX.out hy1
        clear hay hal hsp hA6 hl6 hy1 hy2 hcurx hdl HFIN HJN
        go_wp2_with fail
        go_quiet (fail)
        go_wp2_with fail
        go_roundg k1
        case measure => have := HK.out; omega
        case rel => exact ⟨dn, cur, rest, As, cs, i + 1, ov, rfl, rfl, by go_num, hcs, hic, HS, ⟨by have := HK.out; omega⟩, HLL, HCS, ⟨Kd.R_below HO.out (pw_below_drewN (Below.refl _ _) _)⟩, ⟨pw_below_drewN HBW.out _⟩⟩
      · have hie : i = cur.length := by omega
        by_cases hrest : rest = []
        · subst hie
          have e1 : (jn x (cur :: rest)).length = cur.length := by rw [hrest]; unfold jn jt; simp
          have c0 : decide ((cur.length : Int) + 1 ≤ ((jn x (cur :: rest)).length : Int)) = false := decide_eq_false (by omega)
          obtain ⟨hcf, hkf, hpf⟩ := HFIN.out _ rfl hrest
          have HCF := Aside0.mk hcf
          have HPF := Aside0.mk hpf
          have hcs2 : cur.length ≤ cs := by omega
          rw [hkf] at c0 ⊢
          clear hcf hpf hkf HFIN HCS HS HJN hcurx hdl
          go_wp2_with (first | ((with_reducible refine gate_builtin (b := .append) (xs := #[.tmp 53, .tmp 55]) rfl ?_); at_builtin; go_must (refine Kd.R_append (Kd.fixed kS wz) (w0 := w) w.heap.size rfl (.tmp 53) (.tmp 55) 38 35 (.slice none 0 0) 24 rfl Tryd.underlying38 infoSl rfl Nat.zero_lt_one (by omega) ov dn cur [.slice As cur.length cs] (fun _ => True) (fun _ => False) rfl rfl ⟨As, cs, rfl, hcs2, HCF.out⟩ (fun k hk => hk.elim) (fun _ _ => trivial) HO.out HBW.out (below_size HBW.out) (by have := HDL.out; omega) ?_); intro v7 w7 ho hb hg hat; go_must (have HO7 := Aside0.mk ho; have HB7 := Aside0.mk hb; clear ho hb hg hat)) | fail)
          rw [← HPF.out] at HO7
          go_ret
          exact ⟨v7, rfl, HO7.out, HB7.out⟩
        · obtain ⟨p, r, hre⟩ := List.exists_cons_of_ne_nil hrest
          clear hrest
          have e1 : (jn x (cur :: rest)).length = cur.length + 1 + (jn x (p :: r)).length := by rw [HJN.out, hre, jt_cons, List.length_append, List.length_cons]; omega
          have c0 : decide ((i : Int) + 1 ≤ ((jn x (cur :: rest)).length : Int)) = true := decide_eq_true (by omega)
          have hsp : jn x (cur :: rest) = cur ++ [x] ++ jn x (p :: r) := by rw [HJN.out, hre, jt_cons]; simp
          have hsp1 : jn x (cur :: rest) = cur ++ ([x] ++ jn x (p :: r)) := by rw [hsp]; simp
          obtain ⟨A6, hsl, hA6, hl6⟩ := mid_C (m1 := i) (m2 := 1) (k := cs - i) (a := (i : Int)) (b := (i : Int) + 1) hsp rfl hie.symm rfl rfl rfl rfl hcs As
          obtain ⟨hs3, hA3⟩ := take3_C (m := i) hsp1 rfl hie.symm hcs As
          obtain ⟨A8, hs8, hA8, hl8⟩ := drop_C (m := i + 1) (r := (jn x (p :: r)).length) (k := cs - (i + 1)) (a := (i : Int) + 1) hsp rfl (by rw [List.length_append, List.length_singleton]; omega) rfl rfl rfl hcs As
          have hcv1 := fun m_ : Nat => Kd.C_string (P := Tryd.prog) (w := wr.drewN m_) (A := A6) (c := cs - i) Tryd.underlying35 Tryd.underlying5 Tryd.underlying9 (hA6 (wr.drewN m_) (Kd.C_below HCS.out (below_step HZ.out (pw_below_drewN HBW.out m_))))
          have w1b : IntKind.i64.wrap ((i : Int) + 1) = (i : Int) + 1 := wrapI (by omega) (by have := HK.out; have := HLL.out; omega)
          have hcv2 := fun m_ : Nat => Kd.C_string (P := Tryd.prog) (w := wr.drewN m_) (A := B) (c := cB) Tryd.underlying35 Tryd.underlying5 Tryd.underlying9 (Kd.C_below HB.out (pw_below_drewN HBW.out m_) : (Kd.int .u8).C (wr.drewN m_) B 1 [x])
          have hee : ((strOfNums [x]).toList == (strOfNums [x]).toList) = true := beq_self_eq_true _
          have HC3 := Aside0.mk (show (Kd.int .u8).C wz As cur.length cur by have h := hA3 wz HCS.out; rw [hie] at h; exact h)
          have HC8 := Aside0.mk (hA8 wz HCS.out)
          have HS8 := Aside0.mk (show P = (dn ++ [cur]) ++ p :: r by rw [HS.out, hre]; simp)
          have HE1 := Aside0.mk e1
          have HIE := Aside0.mk hie
          have hii : i ≤ i := Nat.le_refl _
          clear hsp hsp1 hA6 hl6 hcurx hdl HFIN HJN hA3 hA8 HCS e1 hie hre
          go_wp2_with fail
          go_quiet (fail)
          have HO2 := Aside0.mk (Kd.R_below HO.out (pw_below_drewN (Below.refl _ _) nq))
          have HB2 := Aside0.mk (pw_below_drewN HBW.out nq)
          go_wp2_with (first | ((with_reducible refine gate_builtin (b := .append) (xs := #[.tmp 38, .tmp 43]) rfl ?_); at_builtin; go_must (refine Kd.R_append (Kd.fixed kS wz) (w0 := w) w.heap.size rfl (.tmp 38) (.tmp 43) 38 35 (.slice none 0 0) 24 rfl Tryd.underlying38 infoSl rfl Nat.zero_lt_one (by omega) ov dn cur [.slice As i i] (fun _ => True) (fun _ => False) rfl rfl ⟨As, i, by rw [← HIE.out], by rw [← HIE.out]; exact hii, HC3.out⟩ (fun k hk => hk.elim) (fun _ _ => trivial) HO2.out HB2.out (below_size HB2.out) (by have := HDL.out; omega) ?_); intro v7 w7 ho hb hg hat; go_must (have HO7 := Aside0.mk ho; have HB7 := Aside0.mk hb; clear ho hb hg hat)) | fail)
          go_roundg k1
          case measure => have := HK.out; have := HE1.out; omega
          case rel => exact ⟨dn ++ [cur], p, r, A8, cs - (i + 1), 0, v7, rfl, rfl, rfl, hl8, Nat.zero_le _, HS8, ⟨by have := HK.out; have := HE1.out; have := HIE.out; omega⟩, ⟨by have := HLL.out; have := HE1.out; omega⟩, HC8, HO7, HB7⟩
theorem splitTwo_any (wz w : World) (hz : Below wz.heap.size wz w) (A : Option Addr) (c0 : Nat) (xs : List Int) (hC : (Kd.int .u8).C wz A xs.length xs) (hc0 : xs.length ≤ c0) (x : Int) (B : Option Addr) (cB : Nat) (hB : (Kd.int .u8).C w B 1 [x]) (hcB : 1 ≤ cB) (hx : 0 ≤ x ∧ x < 256)
    (P : List (List Int)) (hP : xs = jn x P) (hP0 : P ≠ []) (hPx : ∀ p ∈ P, ∀ y ∈ p, y ≠ x ∧ 0 ≤ y ∧ y < 256) (hP2 : P.length ≤ 2) (hl : xs.length ≤ 1000000000) (hPl : P.length ≤ 1000000) :
    Calls Tryd.prog 34 #[.slice A xs.length c0, .slice B 1 cB, .int .i64 (2)] w fun e w' => ∃ v, e = .returned v ∧ (Kd.fixed kS wz).R 35 w' w.heap.size (fun _ => True) v P ∧ Below w.heap.size w w' := by
  obtain ⟨cur0, rest0, hP1⟩ : ∃ p r, P = p :: r := List.exists_cons_of_ne_nil hP0
  have HC := Aside0.mk hC
  have HZ := Aside0.mk hz
  have HB := Aside0.mk hB
  have HPX := Aside0.mk hPx
  have HPL := Aside0.mk hPl
  have HXL := Aside0.mk hl
  have HP2 := Aside0.mk hP2
  have HX := Aside0.mk hx
  have HS0 := Aside0.mk (show P = [] ++ cur0 :: rest0 from hP1)
  rw [hP1] at hP
  subst hP
  clear hC hz hB hPx hP0 hP1 hPl hx hP2
  go_enter Tryd.func34, Tryd.ntmps34
  go_wp2_with fail
  go_loopg [0, 7, 8] ((jn x (cur0 :: rest0)).length + 1) (fun kq v0 v7 v8 w' => ∃ (dn : List (List Int)) (cur : List Int) (rest : List (List Int)) (As : Option Addr) (cs i : Nat) (ov : Value), ov = v7 ∧ v0 = .slice As (jn x (cur :: rest)).length cs ∧ v8 = .int .i64 (i : Int) ∧ (jn x (cur :: rest)).length ≤ cs ∧ i ≤ cur.length ∧ Aside0 (P = dn ++ cur :: rest) ∧ Aside0 (kq + i = (jn x (cur :: rest)).length + 1) ∧ Aside0 ((jn x (cur :: rest)).length ≤ 1000000000) ∧ Aside0 ((Kd.int .u8).C wz As (jn x (cur :: rest)).length (jn x (cur :: rest))) ∧ Aside0 ((Kd.fixed kS wz).R 35 w' w.heap.size (fun _ => True) ov dn) ∧ Aside0 (Below w.heap.size w w'))
  case atStart => exact ⟨[], cur0, rest0, A, c0, 0, _, rfl, rfl, rfl, hc0, Nat.zero_le _, HS0, ⟨rfl⟩, HXL, HC, ⟨Kd.R_nil _ _ _ _ _⟩, ⟨Below.refl _ _⟩⟩
  case round =>
    clear HC HS0 HXL hl hc0
    obtain ⟨dn, cur, rest, As, cs, i, ov, hov, rfl, rfl, hcs, hi, HS, HK, HLL, HCS, HO, HBW⟩ := hrel
    subst hov
    cases gk with
    | zero =>
      have := HK.out
      have h2 : cur.length ≤ (jn x (cur :: rest)).length := by unfold jn; rw [List.length_append]; omega
      exact absurd this (by omega)
    | succ k1 =>
      have hcurx := HPX.out cur (by rw [HS.out]; exact List.mem_append_right _ List.mem_cons_self)
      have hdl : dn.length + 1 + rest.length = P.length := by rw [HS.out, List.length_append, List.length_cons]; omega
      have HDL := Aside0.mk (show dn.length ≤ 1000000 by have := HPL.out; omega)
      have HJN := Aside0.mk (show jn x (cur :: rest) = cur ++ jt x rest from rfl)
      have w1 : wrap64 ((i : Int) + 1) = (i : Int) + 1 := off.w64 (by omega) (by have := HK.out; have := HLL.out; omega)
      have FIN : ∀ (k : Nat), k = (jn x (cur :: rest)).length → rest = [] → (Kd.int .u8).C wz As cur.length cur ∧ k = cur.length ∧ P = dn ++ [cur] := fun k hk hr => by
        subst hr
        have e : jn x [cur] = cur := by unfold jn jt; simp
        have h := HCS.out
        rw [e] at h hk
        exact ⟨h, hk, HS.out⟩
      have HFIN := Aside0.mk FIN
      clear FIN
      by_cases hgo : dn.length = 0
      · have c3 : decide ((dn.length : Int) < 1) = true := decide_eq_true (by omega)
        have c3n : decide (dn.length < 1) = true := decide_eq_true (by omega)
        clear hgo
        have w9 : wrap64 ((2 : Int) - 1) = 1 := off.w64 (by omega) (by omega)
        by_cases hic : i < cur.length
        · obtain ⟨a1, y, a2, hay, hal⟩ : ∃ a1 y a2, cur = a1 ++ y :: a2 ∧ a1.length = i := ⟨cur.take i, cur[i], cur.drop (i + 1), by rw [← List.drop_eq_getElem_cons hic, List.take_append_drop], by rw [List.length_take]; omega⟩
          have c0 : decide ((i : Int) + 1 ≤ ((jn x (cur :: rest)).length : Int)) = true := decide_eq_true (by have := congrArg List.length HJN.out; rw [List.length_append] at this; omega)
          obtain ⟨Aov, cov, hovs⟩ := Kd.R_slice HO.out
          subst hovs
          have hsp : jn x (cur :: rest) = a1 ++ [y] ++ (a2 ++ jt x rest) := by rw [HJN.out, hay]; simp
          obtain ⟨A6, hsl, hA6, hl6⟩ := mid_C (m1 := i) (m2 := 1) (k := cs - i) (a := (i : Int)) (b := (i : Int) + 1) hsp rfl hal rfl rfl rfl rfl hcs As
          obtain ⟨hy1, hy2⟩ := hcurx y (by rw [hay]; exact List.mem_append_right _ List.mem_cons_self)
          have hcv1 := fun m_ : Nat => Kd.C_string (P := Tryd.prog) (w := wr.drewN m_) (A := A6) (c := cs - i) Tryd.underlying35 Tryd.underlying5 Tryd.underlying9 (hA6 (wr.drewN m_) (Kd.C_below HCS.out (below_step HZ.out (pw_below_drewN HBW.out m_))))
          have w1b : IntKind.i64.wrap ((i : Int) + 1) = (i : Int) + 1 := wrapI (by omega) (by have := HK.out; have := HLL.out; omega)
          have hcv2 := fun m_ : Nat => Kd.C_string (P := Tryd.prog) (w := wr.drewN m_) (A := B) (c := cB) Tryd.underlying35 Tryd.underlying5 Tryd.underlying9 (Kd.C_below HB.out (pw_below_drewN HBW.out m_) : (Kd.int .u8).C (wr.drewN m_) B 1 [x])
          have hne := str_one_ne hy2 HX.out hy1
          clear hay hal hsp hA6 hl6 hy1 hy2 hcurx hdl HFIN HJN
          go_wp2_with fail
          go_quiet (fail)
          go_wp2_with fail
          go_roundg k1
          case measure => have := HK.out; omega
          case rel => exact ⟨dn, cur, rest, As, cs, i + 1, _, rfl, rfl, by go_num, hcs, hic, HS, ⟨by have := HK.out; omega⟩, HLL, HCS, ⟨Kd.R_below HO.out (pw_below_drewN (Below.refl _ _) _)⟩, ⟨pw_below_drewN HBW.out _⟩⟩
        · have hie : i = cur.length := by omega
          by_cases hrest : rest = []
          · subst hie
            have e1 : (jn x (cur :: rest)).length = cur.length := by rw [hrest]; unfold jn jt; simp
            have c0 : decide ((cur.length : Int) + 1 ≤ ((jn x (cur :: rest)).length : Int)) = false := decide_eq_false (by omega)
            obtain ⟨Aov, cov, hovs⟩ := Kd.R_slice HO.out
            subst hovs
            obtain ⟨hcf, hkf, hpf⟩ := HFIN.out _ rfl hrest
            have HCF := Aside0.mk hcf
            have HPF := Aside0.mk hpf
            have hcs2 : cur.length ≤ cs := by omega
            rw [hkf] at c0 ⊢
            clear hcf hpf hkf HFIN HCS HS HJN hcurx hdl
            go_wp2_with (first | ((with_reducible refine gate_builtin (b := .append) (xs := #[.tmp 53, .tmp 55]) rfl ?_); at_builtin; go_must (refine Kd.R_append (Kd.fixed kS wz) (w0 := w) w.heap.size rfl (.tmp 53) (.tmp 55) 38 35 (.slice none 0 0) 24 rfl Tryd.underlying38 infoSl rfl Nat.zero_lt_one (by omega) (.slice Aov dn.length cov) dn cur [.slice As cur.length cs] (fun _ => True) (fun _ => False) rfl rfl ⟨As, cs, rfl, hcs2, HCF.out⟩ (fun k hk => hk.elim) (fun _ _ => trivial) HO.out HBW.out (below_size HBW.out) (by have := HDL.out; omega) ?_); intro v7 w7 ho hb hg hat; go_must (have HO7 := Aside0.mk ho; have HB7 := Aside0.mk hb; clear ho hb hg hat)) | fail)
            rw [← HPF.out] at HO7
            go_ret
            exact ⟨v7, rfl, HO7.out, HB7.out⟩
          · obtain ⟨p, r, hre⟩ := List.exists_cons_of_ne_nil hrest
            clear hrest
            have e1 : (jn x (cur :: rest)).length = cur.length + 1 + (jn x (p :: r)).length := by rw [HJN.out, hre, jt_cons, List.length_append, List.length_cons]; omega
            have c0 : decide ((i : Int) + 1 ≤ ((jn x (cur :: rest)).length : Int)) = true := decide_eq_true (by omega)
            obtain ⟨Aov, cov, hovs⟩ := Kd.R_slice HO.out
            subst hovs
            have hsp : jn x (cur :: rest) = cur ++ [x] ++ jn x (p :: r) := by rw [HJN.out, hre, jt_cons]; simp
            have hsp1 : jn x (cur :: rest) = cur ++ ([x] ++ jn x (p :: r)) := by rw [hsp]; simp
            obtain ⟨A6, hsl, hA6, hl6⟩ := mid_C (m1 := i) (m2 := 1) (k := cs - i) (a := (i : Int)) (b := (i : Int) + 1) hsp rfl hie.symm rfl rfl rfl rfl hcs As
            obtain ⟨hs3, hA3⟩ := take3_C (m := i) hsp1 rfl hie.symm hcs As
            obtain ⟨A8, hs8, hA8, hl8⟩ := drop_C (m := i + 1) (r := (jn x (p :: r)).length) (k := cs - (i + 1)) (a := (i : Int) + 1) hsp rfl (by rw [List.length_append, List.length_singleton]; omega) rfl rfl rfl hcs As
            have hcv1 := fun m_ : Nat => Kd.C_string (P := Tryd.prog) (w := wr.drewN m_) (A := A6) (c := cs - i) Tryd.underlying35 Tryd.underlying5 Tryd.underlying9 (hA6 (wr.drewN m_) (Kd.C_below HCS.out (below_step HZ.out (pw_below_drewN HBW.out m_))))
            have w1b : IntKind.i64.wrap ((i : Int) + 1) = (i : Int) + 1 := wrapI (by omega) (by have := HK.out; have := HLL.out; omega)
            have hcv2 := fun m_ : Nat => Kd.C_string (P := Tryd.prog) (w := wr.drewN m_) (A := B) (c := cB) Tryd.underlying35 Tryd.underlying5 Tryd.underlying9 (Kd.C_below HB.out (pw_below_drewN HBW.out m_) : (Kd.int .u8).C (wr.drewN m_) B 1 [x])
            have hee : ((strOfNums [x]).toList == (strOfNums [x]).toList) = true := beq_self_eq_true _
            have HC3 := Aside0.mk (show (Kd.int .u8).C wz As cur.length cur by have h := hA3 wz HCS.out; rw [hie] at h; exact h)
            have HC8 := Aside0.mk (hA8 wz HCS.out)
            have HS8 := Aside0.mk (show P = (dn ++ [cur]) ++ p :: r by rw [HS.out, hre]; simp)
            have HE1 := Aside0.mk e1
            have HIE := Aside0.mk hie
            have hii : i ≤ i := Nat.le_refl _
            clear hsp hsp1 hA6 hl6 hcurx hdl HFIN HJN hA3 hA8 HCS e1 hie hre
            go_wp2_with fail
            go_quiet (fail)
            have HO2 := Aside0.mk (Kd.R_below HO.out (pw_below_drewN (Below.refl _ _) nq))
            have HB2 := Aside0.mk (pw_below_drewN HBW.out nq)
            go_wp2_with (first | ((with_reducible refine gate_builtin (b := .append) (xs := #[.tmp 38, .tmp 43]) rfl ?_); at_builtin; go_must (refine Kd.R_append (Kd.fixed kS wz) (w0 := w) w.heap.size rfl (.tmp 38) (.tmp 43) 38 35 (.slice none 0 0) 24 rfl Tryd.underlying38 infoSl rfl Nat.zero_lt_one (by omega) (.slice Aov dn.length cov) dn cur [.slice As i i] (fun _ => True) (fun _ => False) rfl rfl ⟨As, i, by rw [← HIE.out], by rw [← HIE.out]; exact hii, HC3.out⟩ (fun k hk => hk.elim) (fun _ _ => trivial) HO2.out HB2.out (below_size HB2.out) (by have := HDL.out; omega) ?_); intro v7 w7 ho hb hg hat; go_must (have HO7 := Aside0.mk ho; have HB7 := Aside0.mk hb; clear ho hb hg hat)) | fail)
            go_roundg k1
            case measure => have := HK.out; have := HE1.out; omega
            case rel => exact ⟨dn ++ [cur], p, r, A8, cs - (i + 1), 0, v7, rfl, rfl, rfl, hl8, Nat.zero_le _, HS8, ⟨by have := HK.out; have := HE1.out; have := HIE.out; omega⟩, ⟨by have := HLL.out; have := HE1.out; omega⟩, HC8, HO7, HB7⟩
      · have hrest : rest = [] := List.eq_nil_of_length_eq_zero (by have := HP2.out; omega)
        have c3 : decide ((dn.length : Int) < 1) = false := decide_eq_false (by omega)
        have c3n : decide (dn.length < 1) = false := decide_eq_false (by omega)
        clear hgo
        have w9 : wrap64 ((2 : Int) - 1) = 1 := off.w64 (by omega) (by omega)
        by_cases hic : i < (jn x (cur :: rest)).length
        · have c0 : decide ((i : Int) + 1 ≤ ((jn x (cur :: rest)).length : Int)) = true := decide_eq_true (by omega)
          obtain ⟨Aov, cov, hovs⟩ := Kd.R_slice HO.out
          subst hovs
          obtain ⟨hcf, hkf, hpf⟩ := HFIN.out _ rfl hrest
          have HCF := Aside0.mk hcf
          have HPF := Aside0.mk hpf
          have hcs2 : cur.length ≤ cs := by omega
          rw [hkf] at c0 ⊢
          clear hcf hpf hkf HFIN HCS HS HJN hcurx hdl
          go_wp2_with (first | ((with_reducible refine gate_builtin (b := .append) (xs := #[.tmp 53, .tmp 55]) rfl ?_); at_builtin; go_must (refine Kd.R_append (Kd.fixed kS wz) (w0 := w) w.heap.size rfl (.tmp 53) (.tmp 55) 38 35 (.slice none 0 0) 24 rfl Tryd.underlying38 infoSl rfl Nat.zero_lt_one (by omega) (.slice Aov dn.length cov) dn cur [.slice As cur.length cs] (fun _ => True) (fun _ => False) rfl rfl ⟨As, cs, rfl, hcs2, HCF.out⟩ (fun k hk => hk.elim) (fun _ _ => trivial) HO.out HBW.out (below_size HBW.out) (by have := HDL.out; omega) ?_); intro v7 w7 ho hb hg hat; go_must (have HO7 := Aside0.mk ho; have HB7 := Aside0.mk hb; clear ho hb hg hat)) | fail)
          rw [← HPF.out] at HO7
          go_ret
          exact ⟨v7, rfl, HO7.out, HB7.out⟩
        · have c0 : decide ((i : Int) + 1 ≤ ((jn x (cur :: rest)).length : Int)) = false := decide_eq_false (by omega)
          obtain ⟨Aov, cov, hovs⟩ := Kd.R_slice HO.out
          subst hovs
          obtain ⟨hcf, hkf, hpf⟩ := HFIN.out _ rfl hrest
          have HCF := Aside0.mk hcf
          have HPF := Aside0.mk hpf
          have hcs2 : cur.length ≤ cs := by omega
          rw [hkf] at c0 ⊢
          clear hcf hpf hkf HFIN HCS HS HJN hcurx hdl
          go_wp2_with (first | ((with_reducible refine gate_builtin (b := .append) (xs := #[.tmp 53, .tmp 55]) rfl ?_); at_builtin; go_must (refine Kd.R_append (Kd.fixed kS wz) (w0 := w) w.heap.size rfl (.tmp 53) (.tmp 55) 38 35 (.slice none 0 0) 24 rfl Tryd.underlying38 infoSl rfl Nat.zero_lt_one (by omega) (.slice Aov dn.length cov) dn cur [.slice As cur.length cs] (fun _ => True) (fun _ => False) rfl rfl ⟨As, cs, rfl, hcs2, HCF.out⟩ (fun k hk => hk.elim) (fun _ _ => trivial) HO.out HBW.out (below_size HBW.out) (by have := HDL.out; omega) ?_); intro v7 w7 ho hb hg hat; go_must (have HO7 := Aside0.mk ho; have HB7 := Aside0.mk hb; clear ho hb hg hat)) | fail)
          rw [← HPF.out] at HO7
          go_ret
          exact ⟨v7, rfl, HO7.out, HB7.out⟩
end
section
open Go.RowKit Go.Proofs.YtdobblddnfalcaaDoorW.PrintWords
set_option linter.unusedVariables false
set_option linter.unusedSimpArgs false
set_option maxHeartbeats 1000000
def bI (s : ByteArray) : List Int := s.data.toList.map fun b => (b.toNat : Int)
theorem bI_len (s : ByteArray) : (bI s).length = s.size := by unfold bI; rw [List.length_map]; rfl
theorem bI_range (s : ByteArray) : ∀ y ∈ bI s, 0 ≤ y ∧ y < 256 := by
  intro y hy
  obtain ⟨b, _, rfl⟩ := List.mem_map.1 hy
  have := b.toNat_lt
  omega
theorem str_bI (s : ByteArray) : strOfNums (bI s) = s := by
  apply ba_ext
  rw [strOfNums_data]
  unfold bI
  rw [List.map_map]
  conv => rhs; rw [← List.map_id s.data.toList]
  refine List.map_congr_left (fun b _ => ?_)
  simp
theorem bI_append (a b : ByteArray) : bI (a ++ b) = bI a ++ bI b := by
  unfold bI
  rw [data_append, List.map_append]
theorem join_jn : ∀ (l : List ByteArray), bI (joinB l) = jn 32 (l.map bI)
  | [] => rfl
  | s :: r => by
    unfold joinB bI
    rw [List.map_cons, Lib.join_cons]
    show (s.data.toList ++ Lib.joinTail [32] (r.map (·.data.toList))).map _ = _
    rw [List.map_append, List.map_cons]
    unfold jn
    congr 1
    induction r with
    | nil => rfl
    | cons a t ih =>
      unfold Lib.joinTail jt at ih ⊢
      rw [List.map_cons, List.map_cons, List.flatten_cons, List.map_append, ih, List.map_cons, List.flatMap_cons]
      rfl
theorem nums_bytes (s : ByteArray) : Lib.bytesOf (bI s) = s.data.toList := by
  have := congrArg (fun q : ByteArray => q.data.toList) (str_bI s)
  exact this
theorem item_two (n v : ByteArray) : bI ((n ++ (⟨#[61]⟩ : ByteArray)) ++ v) = jn 61 [bI n, bI v] := by
  rw [bI_append, bI_append]
  unfold jn jt
  simp
  rfl
/-- The letters of names and of values. -/
def let_ (b : UInt8) : Prop := 45 ≤ b.toNat ∧ b.toNat ≤ 122 ∧ b.toNat ≠ 61
theorem plain_let : ∀ x ∈ plainL ++ [agentN, symrefN], ∀ b ∈ x, 45 ≤ b.toNat ∧ b.toNat ≤ 122 ∧ b.toNat ≠ 61 := by decide
theorem Good.nameLet {n : ByteArray} {vs : List ByteArray} (h : Good n vs) : ∀ b ∈ n.data.toList, let_ b := by
  intro b hb
  rcases h.kind with ⟨e, _⟩ | ⟨e, _, _⟩ | ⟨e, _⟩
  · exact plain_let agentN (by simp) b (by rw [← e]; exact hb)
  · exact plain_let symrefN (by simp) b (by rw [← e]; exact hb)
  · exact plain_let _ (List.mem_append_left _ e) b hb
theorem WordOk.let_ {s : ByteArray} (h : WordOk s) : ∀ b ∈ s.data.toList, let_ b := by
  intro b hb
  obtain ⟨i, hi, rfl⟩ := List.getElem_of_mem hb
  have hi' : i < s.size := hi
  obtain ⟨h1, h2, h3⟩ := h.ok i hi'
  have e := bt_at s (i : Int) (by rw [Int.toNat_natCast]; exact hi')
  have e2 : (s[((i : Int)).toNat]'(by rw [Int.toNat_natCast]; exact hi')) = s.data.toList[i] := rfl
  rw [e2] at e
  exact ⟨by omega, by omega, by omega⟩
theorem not_of_let {s : ByteArray} (h : ∀ b ∈ s.data.toList, let_ b) : ∀ y ∈ bI s, y ≠ 61 ∧ 0 ≤ y ∧ y < 256 := by
  intro y hy
  obtain ⟨b, hb, rfl⟩ := List.mem_map.1 hy
  obtain ⟨h1, h2, h3⟩ := h b hb
  exact ⟨by omega, by omega, by omega⟩
/-- What one item is: a name, or a name and a value. -/
def txt (p : ByteArray × Option ByteArray) : ByteArray := match p.2 with
  | none => p.1
  | some v => (p.1 ++ (⟨#[61]⟩ : ByteArray)) ++ v
def flat1 (p : ByteArray × List ByteArray) : List (ByteArray × Option ByteArray) := if p.2 = [] then [(p.1, none)] else p.2.map fun v => (p.1, some v)
def flatQ (q : List (ByteArray × List ByteArray)) : List (ByteArray × Option ByteArray) := q.flatMap flat1
theorem flatQ_items (q : List (ByteArray × List ByteArray)) : itemsQ q = (flatQ q).map txt := by
  unfold itemsQ flatQ
  rw [List.map_flatMap]
  congr 1
  funext p
  unfold items flat1
  split
  · rfl
  · rw [List.map_map]; rfl
theorem txt_mid {n : ByteArray} {vs : List ByteArray} (h : Good n vs) (o : Option ByteArray) (ho : ∀ v, o = some v → v ∈ vs) : ∀ b ∈ (txt (n, o)).data.toList, 45 ≤ b.toNat ∧ b.toNat ≤ 122 := by
  intro b hb
  have hn := h.nameLet
  cases o with
  | none => exact ⟨(hn b hb).1, (hn b hb).2.1⟩
  | some v =>
    have hv := (h.words v (ho v rfl)).let_
    unfold txt at hb
    simp only at hb
    rw [data_append, data_append] at hb
    rcases List.mem_append.1 hb with hb | hb
    · rcases List.mem_append.1 hb with hb | hb
      · exact ⟨(hn b hb).1, (hn b hb).2.1⟩
      · have : b = 61 := by simpa using hb
        subst this
        decide
    · exact ⟨(hv b hb).1, (hv b hb).2.1⟩
theorem flat_mem {q : List (ByteArray × List ByteArray)} {p : ByteArray × Option ByteArray} (h : p ∈ flatQ q) : ∃ vs, (p.1, vs) ∈ q ∧ ∀ v, p.2 = some v → v ∈ vs := by
  obtain ⟨a, ha, hp⟩ := List.mem_flatMap.1 h
  unfold flat1 at hp
  split at hp
  · rw [List.mem_singleton.1 hp]
    exact ⟨a.2, ha, fun v hv => by cases hv⟩
  · obtain ⟨v, hv, rfl⟩ := List.mem_map.1 hp
    exact ⟨a.2, ha, fun u hu => by injection hu with hu; rw [← hu]; exact hv⟩
theorem GoodQ.mid {q : List (ByteArray × List ByteArray)} (h : GoodQ q) : ∀ s ∈ itemsQ q, 0 < s.size ∧ ∀ b ∈ s.data.toList, 45 ≤ b.toNat ∧ b.toNat ≤ 122 := by
  intro s hs
  rw [flatQ_items] at hs
  obtain ⟨p, hp, rfl⟩ := List.mem_map.1 hs
  obtain ⟨vs, hq, hv⟩ := flat_mem hp
  have hg := h.good _ hq
  refine ⟨?_, txt_mid hg p.2 hv⟩
  have := hg.pos
  simp only at this
  unfold txt
  split
  · exact this
  · rw [ByteArray.size_append, ByteArray.size_append]; omega
theorem jn_ends (x : Int) : ∀ (P : List (List Int)), P ≠ [] → (∀ p ∈ P, p ≠ []) → (∃ p ∈ P, ∃ y ∈ p, (jn x P).head? = some y) ∧ ∃ p ∈ P, ∃ y ∈ p, (jn x P).getLast? = some y
  | [], h, _ => absurd rfl h
  | [p], _, h => by
    have hp := h p List.mem_cons_self
    have e : jn x [p] = p := by unfold jn jt; simp
    rw [e]
    cases hpp : p with
    | nil => exact absurd hpp hp
    | cons a t => exact ⟨⟨_, List.mem_cons_self, a, List.mem_cons_self, rfl⟩, ⟨_, List.mem_cons_self, (a :: t).getLast (by simp), List.getLast_mem _, List.getLast?_eq_some_getLast (by simp)⟩⟩
  | p :: a :: r, _, h => by
    have hp := h p List.mem_cons_self
    obtain ⟨_, q, hq, y, hy, hl⟩ := jn_ends x (a :: r) (by simp) (fun q hq => h q (List.mem_cons_of_mem _ hq))
    have e : jn x (p :: a :: r) = p ++ x :: jn x (a :: r) := by
      rw [← jt_cons]
      rfl
    rw [e]
    refine ⟨?_, q, List.mem_cons_of_mem _ hq, y, hy, ?_⟩
    · cases hpp : p with
      | nil => exact absurd hpp hp
      | cons b t => exact ⟨_, List.mem_cons_self, b, List.mem_cons_self, rfl⟩
    · rw [List.getLast?_append, List.getLast?_cons, hl]
      rfl
theorem trim_text (q : List (ByteArray × List ByteArray)) (h : GoodQ q) (h0 : itemsQ q ≠ []) (b o c : Nat) : Lib.bytesTrimSpace b o c (Lib.bytesOf (bI (joinB (itemsQ q)))) = .slice (some ⟨b, o, none⟩) (joinB (itemsQ q)).size c ∧ 0 < (joinB (itemsQ q)).size := by
  have hm := h.mid
  obtain ⟨⟨p1, hp1, y1, hy1, he1⟩, p2, hp2, y2, hy2, he2⟩ := jn_ends 32 ((itemsQ q).map bI) (by simpa using h0) (fun p hp => by
    obtain ⟨s, hs, rfl⟩ := List.mem_map.1 hp
    intro e
    have := (hm s hs).1
    have hl := congrArg List.length e
    rw [bI_len] at hl
    have hl0 : s.size = 0 := hl
    omega)
  rw [← join_jn] at he1 he2
  have key : ∀ p ∈ (itemsQ q).map bI, ∀ y ∈ p, 45 ≤ y ∧ y ≤ 122 := fun p hp y hy => by
    obtain ⟨s, hs, rfl⟩ := List.mem_map.1 hp
    obtain ⟨b, hb, rfl⟩ := List.mem_map.1 hy
    have := (hm s hs).2 b hb
    omega
  have k1 := key p1 hp1 y1 hy1
  have k2 := key p2 hp2 y2 hy2
  generalize joinB (itemsQ q) = T at he1 he2 ⊢
  have hlen : 0 < T.size := by
    rw [← bI_len]
    cases hT : bI T with
    | nil => rw [hT] at he1; cases he1
    | cons a t => simp
  have hsz : T.data.toList.length = T.size := rfl
  rw [nums_bytes]
  have sp : ∀ (u : UInt8), 45 ≤ (u.toNat : Int) → Lib.isSp u = false := fun u hu => by
    unfold Lib.isSp
    have : ∀ k : UInt8, k.toNat < 45 → (u == k) = false := fun k hk => beq_eq_false_iff_ne.2 (fun e => by rw [e] at hu; omega)
    rw [this 9 (by decide), this 10 (by decide), this 11 (by decide), this 12 (by decide), this 13 (by decide), this 32 (by decide)]
    rfl
  refine ⟨?_, hlen⟩
  have := Lib.bytesTrimSpace_cut b o c T.data.toList 0 (T.size - 1) (Nat.zero_le _) (by omega) (fun j x hj => by omega) (fun x hx => ?_) (fun x hx => ?_) (fun j x hj hx => ?_)
  · rw [this, Nat.add_zero, Nat.sub_zero, Nat.sub_zero]
    congr 1
    omega
  · refine sp x ?_
    unfold bI at he1
    rw [List.head?_map, List.head?_eq_getElem?, hx] at he1
    injection he1 with he1
    have he : (x.toNat : Int) = y1 := he1
    omega
  · refine sp x ?_
    unfold bI at he2
    rw [List.getLast?_map, List.getLast?_eq_getElem?, hsz, hx] at he2
    injection he2 with he2
    have he : (x.toNat : Int) = y2 := he2
    omega
  · have := (List.getElem?_eq_some_iff.1 hx).1
    omega
/-- What has been read of a list's items, and what is left of them. -/
inductive St (q : List (ByteArray × List ByteArray)) : List (ByteArray × List ByteArray) → List (ByteArray × Option ByteArray) → Prop
  | at_ (D R) : q = D ++ R → St q D (flatQ R)
  | mid (D n ds rs R) : q = D ++ (n, ds ++ rs) :: R → ds ≠ [] → rs ≠ [] → St q (D ++ [(n, ds)]) (rs.map (fun v => (n, some v)) ++ flatQ R)
theorem St.done {q S : List (ByteArray × List ByteArray)} {L : List (ByteArray × Option ByteArray)} (h : St q S L) (hL : L = []) : S = q := by
  cases h with
  | at_ D R e =>
    cases R with
    | nil => rw [e, List.append_nil]
    | cons p r =>
      unfold flatQ at hL
      rw [List.flatMap_cons] at hL
      have := (List.append_eq_nil_iff.1 hL).1
      unfold flat1 at this
      split at this
      · cases this
      · rename_i h2
        exact absurd (List.map_eq_nil_iff.1 this) h2
  | mid D n ds rs R e h1 h2 => exact absurd (List.map_eq_nil_iff.1 (List.append_eq_nil_iff.1 hL).1) h2
theorem flat_cons (p : ByteArray × List ByteArray) (r : List (ByteArray × List ByteArray)) : flatQ (p :: r) = flat1 p ++ flatQ r := by unfold flatQ; rw [List.flatMap_cons]
theorem St.none_ {q S : List (ByteArray × List ByteArray)} {L rem : List (ByteArray × Option ByteArray)} {n : ByteArray} (h : St q S L) (hL : L = (n, none) :: rem) (hg : GoodQ q) : n ∉ S.map Prod.fst ∧ St q (S ++ [(n, [])]) rem ∧ Good n [] := by
  cases h with
  | at_ D R e =>
    cases R with
    | nil => cases hL
    | cons p r =>
      rw [flat_cons] at hL
      unfold flat1 at hL
      split at hL
      · rename_i h2
        injection hL with h3 h4
        injection h3 with h5 h6
        obtain ⟨pn, pv⟩ := p
        simp only at h2 h5
        subst h2 h5
        refine ⟨?_, ?_, hg.good _ (by rw [e]; exact List.mem_append_right _ List.mem_cons_self)⟩
        · have := hg.nd
          rw [e, List.map_append, List.map_cons] at this
          intro hn
          exact (List.nodup_append.1 this).2.2 pn hn pn List.mem_cons_self rfl
        · rw [← h4]
          exact .at_ _ _ (by rw [e]; simp)
      · rename_i h2
        cases hv : p.2 with
        | nil => exact absurd hv h2
        | cons a t =>
          rw [hv, List.map_cons] at hL
          injection hL with h3 h4
          injection h3 with h5 h6
          cases h6
  | mid D m ds rs R e h1 h2 =>
    cases hv : rs with
    | nil => exact absurd hv h2
    | cons a t =>
      rw [hv, List.map_cons] at hL
      injection hL with h3 h4
      injection h3 with h5 h6
      cases h6
theorem Good.mult {n : ByteArray} {vs : List ByteArray} (h : Good n vs) (h2 : 2 ≤ vs.length) : decide (n.data.toList ∈ multipleL) = true := by
  rcases h.kind with ⟨_, e⟩ | ⟨e, _, _⟩ | ⟨_, e⟩
  · omega
  · rw [e]; decide
  · omega
theorem St.some_ {q S : List (ByteArray × List ByteArray)} {L rem : List (ByteArray × Option ByteArray)} {n v : ByteArray} (h : St q S L) (hL : L = (n, some v) :: rem) (hg : GoodQ q) :
    (n ∉ S.map Prod.fst ∧ St q (S ++ [(n, [v])]) rem) ∨ ∃ D ds, S = D ++ [(n, ds)] ∧ decide (n.data.toList ∈ multipleL) = true ∧ ds.length ≤ 100 ∧ St q (D ++ [(n, ds ++ [v])]) rem := by
  cases h with
  | at_ D R e =>
    cases R with
    | nil => cases hL
    | cons p r =>
      rw [flat_cons] at hL
      unfold flat1 at hL
      split at hL
      · injection hL with h3 h4
        injection h3 with h5 h6
        cases h6
      · rename_i h2
        obtain ⟨pn, pv⟩ := p
        cases hv : pv with
        | nil => exact absurd hv h2
        | cons a t =>
          simp only [hv, List.map_cons] at hL
          injection hL with h3 h4
          injection h3 with h5 h6
          injection h6 with h6
          subst h5 h6 hv
          refine .inl ⟨?_, ?_⟩
          · have := hg.nd
            rw [e, List.map_append, List.map_cons] at this
            intro hn
            exact (List.nodup_append.1 this).2.2 pn hn pn List.mem_cons_self rfl
          · rw [← h4]
            cases t with
            | nil => exact .at_ _ _ (by rw [e]; simp)
            | cons b t => exact .mid S pn [a] (b :: t) r (by rw [e]; rfl) (by simp) (by simp)
  | mid D m ds rs R e h1 h2 =>
    cases hv : rs with
    | nil => exact absurd hv h2
    | cons a t =>
      rw [hv, List.map_cons] at hL
      injection hL with h3 h4
      injection h3 with h5 h6
      injection h6 with h6
      subst h5 h6 hv
      have hgd := hg.good (m, ds ++ a :: t) (by rw [e]; exact List.mem_append_right _ List.mem_cons_self)
      have hd := List.length_pos_iff.2 h1
      have hk : (ds ++ a :: t).length ≤ 60 := by
        rcases hgd.kind with ⟨_, k⟩ | ⟨_, _, k⟩ | ⟨_, k⟩ <;> simp only at k <;> omega
      refine .inr ⟨D, ds, rfl, hgd.mult (by simp only [List.length_append, List.length_cons]; omega), by rw [List.length_append] at hk; omega, ?_⟩
      rw [← h4]
      cases t with
      | nil => exact .at_ _ _ (by rw [e]; simp)
      | cons b t => exact .mid D m (ds ++ [a]) (b :: t) R (by rw [e]; simp) (by simp) (by simp)
theorem Good.one {n : ByteArray} {vs : List ByteArray} (h : Good n vs) {v : ByteArray} (hv : v ∈ vs) : ArgsOk n [v] := by
  have hw := h.words v hv
  have ha := h.args
  refine ⟨ha.size, ha.known, fun _ => by simp, fun h3 => ?_, fun _ => by simp, fun s hs => by rw [List.mem_singleton.1 hs]; have := hw.pos; omega, by simp⟩
  rw [ha.none_ h3] at hv
  cases hv
end
end Go.Proofs.YtdobblddnfalcaaDoor.cap
