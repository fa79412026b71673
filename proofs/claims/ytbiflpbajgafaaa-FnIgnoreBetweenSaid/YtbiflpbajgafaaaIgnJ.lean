/- impl.MatchPattern of a path that stands elsewhere; igIs. -/
import Derived.Test.YtbiflpbajgafaaaIgnT
namespace Go.Proofs.Ytbiflpbajgafaaa.ign
open Go.RowKit Go.Proofs.YtbiflpbajgafaaaW.PrintWords Go.Proofs.YtbiflpbajgafaaaW.PrintLast Go.Proofs.YtbiflpbajgafaaaW.PrintMore
set_option linter.unusedVariables false
set_option linter.unusedSimpArgs false
set_option maxHeartbeats 4000000
set_option maxRecDepth 100000
theorem pattern_off (w : World) (p : ByteArray) (parts doms ns : List ByteArray) (tail dir : Bool) (A B : Option Addr) (c c2 : Nat) (hp : Pat p parts tail)
    (hC : Kd.string.C w A doms.length doms) (hc : doms.length ≤ c) (hdl : doms.length ≤ 1000000) (hdn : doms = [] → A = none)
    (hN : Kd.string.C w B ns.length ns) (hcc : ns.length ≤ c2) (hnn : ns = [] → B = none) (hnl : ns.length ≤ 1000000) (k : Nat) (hk : k < doms.length) (hoff : ∀ h : k < ns.length, ns[k] ≠ doms[k]) :
    Calls Try.prog 13 #[.string p, .slice A doms.length c, .slice B ns.length c2, .bool dir] w fun e w' => e = .returned (.int .i64 0) ∧ Below w.heap.size w w' := by
  have HPT := Aside0.mk hp
  have HC := Aside0.mk hC
  have HN := Aside0.mk hN
  have HDN := Aside0.mk hdn
  have HNN := Aside0.mk hnn
  have HOF := Aside0.mk hoff
  have HLL := Aside0.mk (show ns.length ≤ 2000000 from by omega)
  have hn1 := fun g => nil_ahead ⟨g, 0, none⟩
  have hn2 := fun g => method_match ⟨g, 0, none⟩
  clear hp hC hN hdn hnn hoff
  go_enter Try.func13, Try.ntmps13
  go_wp2_with fail
  go_region_law (first | (refine step_append_empty rfl _ _ rfl _ A c doms rfl rfl HDN.out (Kd.C_below HC.out ?hB) (by omega) ?_; (case hB => (first | exact below_drew1 (Below.refl _ _) | exact below_alloc (below_drew1 (Below.refl _ _)) _ | exact below_alloc (below_alloc (below_drew1 (Below.refl _ _)) _) _ | exact HB2.out | exact below_alloc HB2.out _ | exact HB1.out | exact below_alloc HB1.out _)); intro A1 c1 w1 h1 h2 h3; have HA1 := Aside0.mk h1; have HC1 := Aside0.mk h2; have HB1 := Aside0.mk (show Below w.heap.size w w1 from below_step (by (first | exact below_drew1 (Below.refl _ _) | exact below_alloc (below_drew1 (Below.refl _ _)) _ | exact below_alloc (below_alloc (below_drew1 (Below.refl _ _)) _) _ | exact HB2.out | exact below_alloc HB2.out _ | exact HB1.out | exact below_alloc HB1.out _)) h3); clear h1 h2 h3) | (refine step_append_empty rfl _ _ rfl _ B c2 ns rfl rfl HNN.out (Kd.C_below HN.out ?hB) HLL.out ?_; (case hB => (first | exact below_drew1 (Below.refl _ _) | exact below_alloc (below_drew1 (Below.refl _ _)) _ | exact below_alloc (below_alloc (below_drew1 (Below.refl _ _)) _) _ | exact HB2.out | exact below_alloc HB2.out _ | exact HB1.out | exact below_alloc HB1.out _)); intro A2 c3 w3 h1 h2 h3; have HA2 := Aside0.mk h1; have HC2 := Aside0.mk h2; have HB3 := Aside0.mk (show Below w2.heap.size w2 w3 from by first | exact h3 | exact below_step (below_alloc (Below.refl _ _) _) h3); clear h1 h2 h3) | (go_simp; go_at_call 18; refine (parse_pat HPT.out (Kd.C_below HC1.out ?hB) HA1.out hdl).mono ?_; (case hB => (first | exact Below.refl _ _ | exact below_alloc (Below.refl _ _) _)); rintro e w2 ⟨g, Ad, Ap, cd, cp, rfl, hg, hat, h4, h5, h6, h7, h8⟩; have HAT := Aside0.mk hat; have HCD := Aside0.mk h6; have HCP := Aside0.mk h7; have HB2 := Aside0.mk (show Below w.heap.size w w2 from below_step (by (first | exact below_drew1 (Below.refl _ _) | exact below_alloc (below_drew1 (Below.refl _ _)) _ | exact below_alloc (below_alloc (below_drew1 (Below.refl _ _)) _) _ | exact HB2.out | exact below_alloc HB2.out _ | exact HB1.out | exact below_alloc HB1.out _)) h8); clear hg hat h4 h5 h6 h7 h8) | (go_simp; go_at_call 42; refine (match_off _ g Ad Ap cd cp parts doms ns tail dir A2 c3 (blk_below HAT.out HB3.out) (Kd.C_below HCD.out HB3.out) hdl HC2.out hnl k hk HOF.out).mono ?_; rintro e w4 ⟨rfl, hd4⟩; have HB4 := Aside0.mk (drn_below (below_step HB2.out HB3.out) hd4); clear hd4))
  all_goals go_wp2_with fail
  all_goals go_ret
  all_goals exact ⟨rfl, HB4.out⟩
/-- A row of one text. -/
theorem one_str (w : World) (a : ByteArray) : Kd.string.C (w.alloc (.cells #[.string a] 9 (0, 0))) (some ⟨w.heap.size, 0, none⟩) ([a] : List ByteArray).length [a] := by
  refine ⟨rfl, (show 1 ≤ 9223372036854775807 by omega), fun _ => ⟨_, rfl, fun j p hp => ?_⟩⟩
  match j, hp with
  | 0, hp =>
    cases hp
    refine ⟨[.string a], rfl, rfl, fun m u hu => ?_⟩
    match m, hu with
    | 0, hu =>
      cases hu
      exact (blk_cell (blk_new w _) _).trans rfl
/-- A row of two texts. -/
theorem two_str (w : World) (a b : ByteArray) : Kd.string.C (w.alloc (.cells #[.string a, .string b] 9 (0, 0))) (some ⟨w.heap.size, 0, none⟩) ([a, b] : List ByteArray).length [a, b] := by
  refine ⟨rfl, (show 2 ≤ 9223372036854775807 by omega), fun _ => ⟨_, rfl, fun j p hp => ?_⟩⟩
  match j, hp with
  | 0, hp =>
    cases hp
    refine ⟨[.string a], rfl, rfl, fun m u hu => ?_⟩
    match m, hu with
    | 0, hu =>
      cases hu
      exact (blk_cell (blk_new w _) 0).trans rfl
  | 1, hp =>
    cases hp
    refine ⟨[.string b], rfl, rfl, fun m u hu => ?_⟩
    match m, hu with
    | 0, hu =>
      cases hu
      exact (blk_cell (blk_new w _) 1).trans rfl
theorem nil_C (w : World) : Kd.string.C w none ([] : List ByteArray).length [] := ⟨rfl, Nat.zero_le _, fun h => absurd h (by decide)⟩
/-- The fixed call. -/
theorem fixed_call (w W : World) (hb : Below w.heap.size w W) :
    Calls Try.prog 13 #[.string ⟨#[97]⟩, .slice none 0 0, .slice (some ⟨W.heap.size, 0, none⟩) 1 1, .bool false] (W.alloc (.cells #[.string ⟨#[97]⟩] 9 (0, 0))) fun e w' => e = .returned (.int .i64 1) ∧ Below w.heap.size w w' := by
  refine (pattern_on _ pa [pa] [] [pa] false false none (some ⟨W.heap.size, 0, none⟩) 0 1 pa_pat (nil_C _) (Nat.le_refl _) (by decide) (fun _ => rfl) (one_str W pa) (Nat.le_refl _) pa_nm (by decide) (by simp)).mono ?_
  rintro e w' ⟨he, hb2⟩
  rw [pa_takes, if_pos rfl] at he
  exact ⟨he, below_step (below_alloc hb _) hb2⟩
theorem igIs_any (w : World) (p : ByteArray) (parts ns : List ByteArray) (tail dir want : Bool) (B : Option Addr) (c : Nat) (hp : Pat p parts tail) (hN : Kd.string.C w B ns.length ns) (hcc : ns.length ≤ c) (hn : ∀ n ∈ ns, Nm n) (hnl : ns.length ≤ 1000000) (hne : ns ≠ []) (hw : takes parts ns tail dir = want) :
    Calls Try.prog 9 #[.string p, .slice B ns.length c, .bool dir, .bool want] w fun e w' => e = .returned (.bool true) ∧ Below w.heap.size w w' := by
  have HM := Aside0.mk (pattern_on w p parts [] ns tail dir none B 0 c hp (nil_C w) (Nat.le_refl _) (by decide) (fun _ => rfl) hN hcc hn hnl hne)
  rw [hw] at HM
  clear hp hN hn hw hne
  have HM2 : Aside0 (Calls Try.prog 13 #[.string p, .slice none 0 0, .slice B ns.length c, .bool dir] w fun e w' => e = .returned (.int .i64 (if want = true then 1 else 0)) ∧ Below w.heap.size w w') := HM
  clear HM
  cases want with
  | true =>
    go_enter Try.func9, Try.ntmps9
    go_wp2_with fail
    refine HM2.out.mono ?_
    rintro e w2 ⟨rfl, hb2⟩
    have HB2 := Aside0.mk hb2
    have HF := Aside0.mk (fixed_call w w2 hb2)
    clear HM2 hb2
    go_wp2_with fail
    refine HF.out.mono ?_
    rintro e w3 ⟨rfl, hb3⟩
    have HB3 := Aside0.mk hb3
    clear HF hb3
    go_wp2_with fail
    go_ret
    exact ⟨by first | rfl | (simp; done), HB3.out⟩
  | false =>
    go_enter Try.func9, Try.ntmps9
    go_wp2_with fail
    refine HM2.out.mono ?_
    rintro e w2 ⟨rfl, hb2⟩
    have HB2 := Aside0.mk hb2
    have HF := Aside0.mk (fixed_call w w2 hb2)
    clear HM2 hb2
    go_wp2_with fail
    refine HF.out.mono ?_
    rintro e w3 ⟨rfl, hb3⟩
    have HB3 := Aside0.mk hb3
    clear HF hb3
    go_wp2_with fail
    go_ret
    exact ⟨by first | rfl | (simp; done), HB3.out⟩
end Go.Proofs.Ytbiflpbajgafaaa.ign
