/- Revisions: impl.partOf. -/
import Derived.Test.YtiibeefadgmicaaDoorRevR
import Derived.Test.YtiibeefadgmicaaDoorRevS
import Derived.Test.YtiibeefadgmicaaDoorMFnRevStepsx4
namespace Go.Proofs.YtiibeefadgmicaaDoor.rev
open Go.RowKit Go.Proofs.YtiibeefadgmicaaDoorW.PrintWords Go.Proofs.YtiibeefadgmicaaDoorW.PrintLast Go.Proofs.YtiibeefadgmicaaDoorW.PrintMore Go.Proofs.YtiibeefadgmicaaDoor.PFnRevSteps
set_option linter.unusedVariables false
set_option linter.unusedSimpArgs false
set_option maxHeartbeats 2000000
set_option maxRecDepth 100000
/-- A part as it is told. -/
def told : Rev → S29
  | .ref s => ⟨⟨#[82, 101, 102]⟩, txt s, 0, false⟩
  | .tilde n => ⟨⟨#[84, 105, 108, 100, 101, 80, 97, 116, 104]⟩, ⟨#[]⟩, n, false⟩
  | .caret n => ⟨⟨#[67, 97, 114, 101, 116, 80, 97, 116, 104]⟩, ⟨#[]⟩, n, false⟩
  | .ctype s => ⟨⟨#[67, 97, 114, 101, 116, 84, 121, 112, 101]⟩, txt s, 0, false⟩
  | .up => ⟨⟨#[65, 116, 85, 112, 115, 116, 114, 101, 97, 109]⟩, ⟨#[]⟩, 0, false⟩
  | .push => ⟨⟨#[65, 116, 80, 117, 115, 104]⟩, ⟨#[]⟩, 0, false⟩
def s29 (x : S29) : Value := .agg #[.string x.f0, .string x.f1, .int .i64 x.f2, .bool x.f3]
theorem partOf_ref (w : World) (s : List UInt8) :
    Calls Tryd.prog 21 #[rv (.ref s)] w fun e w' => e = .returned (s29 (told (.ref s))) ∧ Below w.heap.size w w' := by
  simp only [rv]
  obtain ⟨ta0, ta1, ta2, ta3, ta4, ta5, ta6, ta7, ta8, ta9, ta10, ta11, ta12⟩ := tas_Ref
  go_enter Tryd.func21, Tryd.ntmps21
  go_wp2
  refine bodyPost_ret (v := s29 (told (.ref s))) (by simp [results, Tryd.results21, go_sem, s29, told]) rfl ⟨rfl, ?_⟩
  first | exact below_alloc (Below.refl _ _) _ | exact below_alloc (below_alloc (Below.refl _ _) _) _ | trace_state
theorem partOf_tilde (w : World) (n : Int) :
    Calls Tryd.prog 21 #[rv (.tilde n)] w fun e w' => e = .returned (s29 (told (.tilde n))) ∧ Below w.heap.size w w' := by
  simp only [rv]
  obtain ⟨ta0, ta1, ta2, ta3, ta4, ta5, ta6, ta7, ta8, ta9, ta10, ta11, ta12⟩ := tas_TildePath
  go_enter Tryd.func21, Tryd.ntmps21
  go_wp2
  refine bodyPost_ret (v := s29 (told (.tilde n))) (by simp [results, Tryd.results21, go_sem, s29, told]) rfl ⟨rfl, ?_⟩
  first | exact below_alloc (Below.refl _ _) _ | exact below_alloc (below_alloc (Below.refl _ _) _) _ | trace_state
theorem partOf_caret (w : World) (n : Int) :
    Calls Tryd.prog 21 #[rv (.caret n)] w fun e w' => e = .returned (s29 (told (.caret n))) ∧ Below w.heap.size w w' := by
  simp only [rv]
  obtain ⟨ta0, ta1, ta2, ta3, ta4, ta5, ta6, ta7, ta8, ta9, ta10, ta11, ta12⟩ := tas_CaretPath
  go_enter Tryd.func21, Tryd.ntmps21
  go_wp2
  refine bodyPost_ret (v := s29 (told (.caret n))) (by simp [results, Tryd.results21, go_sem, s29, told]) rfl ⟨rfl, ?_⟩
  first | exact below_alloc (Below.refl _ _) _ | exact below_alloc (below_alloc (Below.refl _ _) _) _ | trace_state
theorem partOf_ctype (w : World) (s : List UInt8) :
    Calls Tryd.prog 21 #[rv (.ctype s)] w fun e w' => e = .returned (s29 (told (.ctype s))) ∧ Below w.heap.size w w' := by
  simp only [rv]
  obtain ⟨ta0, ta1, ta2, ta3, ta4, ta5, ta6, ta7, ta8, ta9, ta10, ta11, ta12⟩ := tas_CaretType
  go_enter Tryd.func21, Tryd.ntmps21
  go_wp2
  refine bodyPost_ret (v := s29 (told (.ctype s))) (by simp [results, Tryd.results21, go_sem, s29, told]) rfl ⟨rfl, ?_⟩
  first | exact below_alloc (Below.refl _ _) _ | exact below_alloc (below_alloc (Below.refl _ _) _) _ | trace_state
theorem partOf_up (w : World)  :
    Calls Tryd.prog 21 #[rv (.up)] w fun e w' => e = .returned (s29 (told (.up))) ∧ Below w.heap.size w w' := by
  simp only [rv]
  obtain ⟨ta0, ta1, ta2, ta3, ta4, ta5, ta6, ta7, ta8, ta9, ta10, ta11, ta12⟩ := tas_AtUpstream
  go_enter Tryd.func21, Tryd.ntmps21
  go_wp2
  refine bodyPost_ret (v := s29 (told (.up))) (by simp [results, Tryd.results21, go_sem, s29, told]) rfl ⟨rfl, ?_⟩
  first | exact below_alloc (Below.refl _ _) _ | exact below_alloc (below_alloc (Below.refl _ _) _) _ | trace_state
theorem partOf_push (w : World)  :
    Calls Tryd.prog 21 #[rv (.push)] w fun e w' => e = .returned (s29 (told (.push))) ∧ Below w.heap.size w w' := by
  simp only [rv]
  obtain ⟨ta0, ta1, ta2, ta3, ta4, ta5, ta6, ta7, ta8, ta9, ta10, ta11, ta12⟩ := tas_AtPush
  go_enter Tryd.func21, Tryd.ntmps21
  go_wp2
  refine bodyPost_ret (v := s29 (told (.push))) (by simp [results, Tryd.results21, go_sem, s29, told]) rfl ⟨rfl, ?_⟩
  first | exact below_alloc (Below.refl _ _) _ | exact below_alloc (below_alloc (Below.refl _ _) _) _ | trace_state
theorem partOf_any (w : World) (x : Rev) : Calls Tryd.prog 21 #[rv x] w fun e w' => e = .returned (s29 (told x)) ∧ Below w.heap.size w w' := by
  cases x with
  | ref s => exact partOf_ref w s
  | tilde n => exact partOf_tilde w n
  | caret n => exact partOf_caret w n
  | ctype s => exact partOf_ctype w s
  | up => exact partOf_up w
  | push => exact partOf_push w
theorem info29 : (Tryd.prog.info? 29).map (fun i => (i.zero, i.size, i.bytes)) = some (some (.agg #[.string ⟨#[]⟩, .string ⟨#[]⟩, .int .i64 0, .bool false]), 4, 48) := by kernel_rfl
def RevPost (w : World) (rl : List Rev) (b : Bool) (e : Ending) (w' : World) : Prop := Below w.heap.size w w' ∧ if b = true then ∃ A c, e = .returned (.tuple #[.slice A rl.length c, .bool true]) ∧ rl.length ≤ c ∧ k29.C w' A rl.length (rl.map told) else e = .returned (.tuple #[.slice none 0 0, .bool false])
theorem parseRev_any (w : World) (ea : Addr) (l : List UInt8) (rl : List Rev) (b : Bool) (hl : 0 < l.length) (hm : l.length ≤ 4000) (hg : Good l) (hT : Tabs w ea) (hs : ∀ p, Script p ⟨false, ⟨0, []⟩, l⟩ rl b) (hF : b = true → Fine rl) (hrl : rl.length ≤ 1000) :
    Calls Tryd.prog 15 #[.string (txt l)] w (RevPost w rl b) := by
  have HP := Aside0.mk (parser_any w ea l hl hm hg hT)
  have HS := Aside0.mk hs
  have HF := Aside0.mk hF
  have HL := Aside0.mk hrl
  clear hl hm hg hT hs hF hrl
  go_enter Tryd.func15, Tryd.ntmps15
  go_wp2_with fail
  refine HP.out.mono ?_
  rintro e w1 ⟨p, rfl, h1, h2, h3⟩
  have H1 := Aside0.mk h1
  have H2 := Aside0.mk h2
  have H3 := Aside0.mk h3
  have HPA := Aside0.mk (parse_any w1 p _ rl b h1 (HS.out p) HF.out HL.out)
  clear h1 h2 h3 HP
  go_wp2_with fail
  refine HPA.out.mono ?_
  rintro e w2 ⟨ho, hres⟩
  have HB2 := Aside0.mk (show Below w.heap.size w w2 from H2.out.trans (ho.below H2.out.size H3.out))
  clear ho HPA
  cases b with
  | false =>
    rw [if_neg (by simp)] at hres
    obtain ⟨v, τ, u, rfl⟩ := hres
    go_wp2_with fail
    go_ret2
    exact ⟨HB2.out, by simp⟩
  | true =>
    rw [if_pos rfl] at hres
    obtain ⟨A, c, rfl, hc, hC⟩ := hres
    have HC := Aside0.mk hC
    have HCC := Aside0.mk hc
    obtain ⟨n, hn⟩ : ∃ n, rl.length = n := ⟨_, rfl⟩
    have HN := Aside0.mk hn
    have hnl : n ≤ 1000 := by rw [← hn]; exact HL.out
    rw [hn]
    clear hC hc hn
    go_wp2_with fail
    go_loopg [6, 8, 19] (n + 1) (fun kq v6 v8 v19 w' => ∃ i : Nat, v19 = .int .i64 (i : Int) ∧ i ≤ n ∧ Aside0 (kq + i = n + 1) ∧ Aside0 (k29.R 29 w' w2.heap.size (fun _ => True) v6 ((rl.take i).map told)) ∧ Aside0 (Below w2.heap.size w2 w'))
    case atStart => exact ⟨0, rfl, Nat.zero_le _, ⟨rfl⟩, ⟨Kd.R_nil _ _ _ _ _⟩, ⟨Below.refl _ _⟩⟩
    case round =>
      obtain ⟨i, rfl, hin, HK, HR, HB⟩ := hrel
      by_cases hlt : i < n
      · obtain ⟨ad, hA, hcell⟩ := at_V (Kd.C_below HC.out HB.out) i (by rw [HN.out]; exact hlt)
        subst hA
        obtain ⟨x, hx⟩ : ∃ x, rl[i]'(by rw [HN.out]; exact hlt) = x := ⟨_, rfl⟩
        rw [hx] at hcell
        have HX := Aside0.mk (show rl.take i ++ [x] = rl.take (i + 1) by rw [← hx, List.take_succ_eq_append_getElem (by rw [HN.out]; exact hlt)])
        have c1 : decide ((i : Int) < (n : Int)) = true := decide_eq_true (by omega)
        have c2 : decide (i < n) = true := decide_eq_true hlt
        have v1 : (0 : Int) ≤ (i : Int) := by omega
        have v2 : (i : Int) < (n : Int) := by omega
        have w1' : wrap64 ((i : Int) + 1) = (i : Int) + 1 := w64 (by omega) (by omega)
        clear hx
        cases gk with
        | zero => exact absurd HK.out (by omega)
        | succ k1 =>
          go_wp2_with fail
          refine (partOf_any _ x).mono ?_
          rintro e w4 ⟨rfl, hb4⟩
          have HB4 := Aside0.mk (HB.out.trans (hb4.mono HB.out.size))
          have HR4 := Aside0.mk (Kd.R_below HR.out hb4)
          obtain ⟨y, hy⟩ : ∃ y, told x = y := ⟨_, rfl⟩
          have HY := Aside0.mk hy
          have HROOM : Aside0 ((((rl.take i).map told).length + 1) * 48 ≤ 140737488355328) := ⟨by rw [List.length_map, List.length_take]; omega⟩
          rw [hy]
          unfold s29
          clear hb4 hy HR HB
          go_wp2_with (first | ((with_reducible refine gate_builtin (b := .append) (xs := #[.tmp 23, .tmp 26]) rfl ?_); at_builtin; go_must (refine Kd.R_append k29 (w0 := w2) w2.heap.size rfl (.tmp 23) (.tmp 26) 24 29 (.agg #[.string ⟨#[]⟩, .string ⟨#[]⟩, .int .i64 0, .bool false]) 48 rfl Tryd.underlying24 info29 rfl (by decide) (by decide) u6 ((rl.take i).map told) y [.string y.f0, .string y.f1, .int .i64 y.f2, .bool y.f3] (fun _ => True) (fun _ => False) rfl (by first | (go_simp; done) | (go_simp; rfl)) (k29_mkM _ _ _ y) (fun _ hk => hk.elim) (fun _ _ => trivial) HR4.out HB4.out HB4.out.size HROOM.out ?_); intro v5 w5 ho hb hg hat; have HR5 := Aside0.mk ho; have HB5 := Aside0.mk hb; clear ho hb hg hat) | fail)
          go_roundg k1
          case measure => omega
          case rel => exact ⟨i + 1, by first | rfl | (go_num), by omega, ⟨by have := HK.out; omega⟩, ⟨by rw [← HX.out, List.map_append, List.map_singleton, HY.out]; exact HR5.out⟩, HB5⟩
      · have hieq : i = n := by omega
        subst hieq
        have c1 : decide ((i : Int) < (i : Int)) = false := decide_eq_false (by omega)
        have c2 : decide (i < i) = false := decide_eq_false (by omega)
        obtain ⟨Av, cv, hvv, hcv, hCv⟩ := Kd.R_reads HR.out
        have ht : rl.take i = rl := List.take_of_length_le (by rw [HN.out]; exact Nat.le_refl _)
        rw [ht, List.length_map, HN.out] at hvv hcv hCv
        subst hvv
        have HCV := Aside0.mk hCv
        have HCCV := Aside0.mk hcv
        clear hCv hcv ht
        go_wp2_with fail
        go_ret2
        exact ⟨HB2.out.trans (HB.out.mono HB2.out.size), by rw [if_pos rfl, HN.out]; exact ⟨Av, cv, rfl, HCCV.out, HCV.out⟩⟩
end Go.Proofs.YtiibeefadgmicaaDoor.rev
