/- impl.MatchPattern. -/
import Derived.Test.YtbiflpbajgafaaaIgnH
namespace Go.Proofs.Ytbiflpbajgafaaa.ign
open Go.RowKit Go.Proofs.YtbiflpbajgafaaaW.PrintWords Go.Proofs.YtbiflpbajgafaaaW.PrintLast Go.Proofs.YtbiflpbajgafaaaW.PrintMore
set_option linter.unusedVariables false
set_option linter.unusedSimpArgs false
set_option maxHeartbeats 4000000
set_option maxRecDepth 100000
/-- An append of strings to a slice without room: a row of its own. -/
theorem run_append_empty (w : World) (X : Addr) (A : Option Addr) (c : Nat) (ys : List ByteArray) (ty : TypeId) (hA : ys = [] → A = none) (hR : Kd.string.C w A ys.length ys) (hl : ys.length ≤ 2000000) :
    ∃ A1 c1 w1, (Builtin.append_ #[22, 22] ty #[.slice (some X) 0 0, .slice A ys.length c]).run Try.prog w = .ok (.slice A1 ys.length c1) w1 ∧ ys.length ≤ c1 ∧ Kd.string.C w1 A1 ys.length ys ∧ Below w.heap.size w w1 := by
  obtain ⟨i, hi, hz, hs, hb⟩ := info_parts infoS
  by_cases hy : ys = []
  · subst hy
    have hA := hA rfl
    subst hA
    refine ⟨some X, 0, w, ?_, Nat.le_refl _, ⟨rfl, Nat.zero_le _, fun h => absurd h (by decide)⟩, Below.refl _ _⟩
    simp [Builtin.append_, run_underlying Try.underlying22, sizeOf, typeInfo, hi, Builtin.lenOf, Builtin.firstCells, storeCells]
  · have hpos : 0 < ys.length := List.length_pos_iff.2 hy
    obtain ⟨ad, rfl, _⟩ := str_at hR 0 hpos
    have hrd := Kd.reads_of_C (d := ByteArray.empty) hR
    have hnews : ∀ j v, (encs Value.string ys)[j]? = some v → w.cell? (ad.add j) = some v := by
      intro j v hv
      have hj : j < ys.length := by
        rcases Nat.lt_or_ge j ys.length with h | h
        · exact h
        · simp [encs, List.getElem?_eq_none h] at hv
      obtain ⟨ad', h', hc⟩ := str_at hR j hj
      injection h' with h'
      subst h'
      rw [encs_get (d := ByteArray.empty) ys j hj] at hv
      rw [← hv, hc]
      rw [List.getD_eq_getElem?_getD, List.getElem?_eq_getElem hj]; rfl
    have hg := run_append_grow (P := Try.prog) w 22 ty 9 i (.string ⟨#[]⟩) Try.underlying22 hi hz X 0 0 [] (by simp) (fun j v h => by simp at h) ad ys.length c (encs Value.string ys) (by rw [hs, Nat.mul_one]; simp [encs]) hnews (by omega) (by omega) (growslice_fits (by omega) (by rw [hb]; omega))
    rw [Nat.zero_add] at hg
    obtain ⟨K, hK⟩ : ∃ K, (([] : List Value).toArray ++ (encs Value.string ys).toArray ++ Builtin.zeroCells (Value.string ⟨#[]⟩).cells (grownCap w ys.length 0 9 - ys.length)) = K := ⟨_, rfl⟩
    rw [hK] at hg
    refine ⟨_, _, _, hg, ?_, ?_, below_alloc (below_drew1 (Below.refl _ _)) _⟩
    · exact (grownCap_ge w ys.length 0 9)
    · refine ⟨rfl, by omega, fun _ => ⟨_, rfl, fun j x hx => ⟨[.string x], rfl, rfl, fun m u hu => ?_⟩⟩⟩
      match m, hu with
      | 0, hu =>
        cases hu
        rw [show ((⟨w.heap.size, 0, none⟩ : Addr).add (j * Kd.string.sz + 0)) = ⟨w.heap.size, j, none⟩ from by
          show (⟨w.heap.size, 0, none⟩ : Addr).add (j * 1 + 0) = _
          rw [Nat.mul_one, Nat.add_zero]
          unfold Addr.add
          split
          · rename_i h; rw [h]
          · simp]
        show (w.drew.alloc _).cell? ⟨w.drew.heap.size, j, none⟩ = _
        rw [blk_cell (blk_new w.drew (.cells K 9 (0, 0))) j, ← hK]
        have hj := (List.getElem?_eq_some_iff.1 hx).1
        rw [Array.getElem?_append_left (by simpa [encs] using hj)]
        simp [encs, hx]
theorem step_append_empty {ops : Array Oper} {o : Oper} {a : Act} {w : World} {K : Act → World → Prop} {Q : Exit → Act → World → Prop} {E : Prop} (hgd : o.guard = none) (s x : Operand)
    (ho : o.op = .call { callee := .builtin .append, args := #[s, x], argTypes := #[22, 22] }) (X : Addr) (A : Option Addr) (c : Nat) (ys : List ByteArray)
    (hs : a.eval s = .slice (some X) 0 0) (hx : a.eval x = .slice A ys.length c) (hA : ys = [] → A = none) (hR : Kd.string.C w A ys.length ys) (hl : ys.length ≤ 2000000)
    (h : ∀ A1 c1 w1, ys.length ≤ c1 → Kd.string.C w1 A1 ys.length ys → Below w.heap.size w w1 → K (a.put o.dst (.slice A1 ys.length c1)) w1) :
    if Region.wanted o (yielded ops a.tmps) = true then Oper.wp Try.prog o a w K Q else E := by
  have hw : Region.wanted o (yielded ops a.tmps) = true := by simp [Region.wanted, hgd]
  rw [if_pos hw]
  obtain ⟨A1, c1, w1, hr, h1, h2, h3⟩ := run_append_empty w X A c ys o.type hA hR hl
  unfold Oper.wp execOp
  simp only [ho, resolve, invoke, builtin, Sem.run_bind, Sem.run_pure, Result.andThen_ok, List.map_toArray, List.map_cons, List.map_nil, hs, hx, hr]
  exact h A1 c1 w1 h1 h2 h3
theorem nil_ahead (a : Addr) (w : World) : (nilAhead 192 44 (.pointer (some a)) "Match").run Try.prog w = .ok (some false) w := by kernel_rfl
theorem method_match (a : Addr) (w : World) : (method 192 44 (.pointer (some a)) "Match").run Try.prog w = .ok (42, .pointer (some a)) w := by kernel_rfl
theorem match_on2 (w : World) (g : Nat) (Ad Ap : Option Addr) (cd cp : Nat) (parts doms rest ns : List ByteArray) (tail dir : Bool) (B : Option Addr) (c : Nat) (hns : doms ++ rest = ns)
    (hA : AtPat w g (.slice Ad doms.length cd) (.slice Ap parts.length cp) tail (decide (1 < parts.length))) (hP : Kd.string.C w Ap parts.length parts) (hpp : Pats parts) (hD : Kd.string.C w Ad doms.length doms) (hdl : doms.length ≤ 1000000)
    (hN : Kd.string.C w B ns.length ns) (hcc : ns.length ≤ c) (hn : ∀ n ∈ rest, Nm n) (hnl : rest.length ≤ 1000000) (hre : rest ≠ []) (r : Int) (hr : (if takes parts rest tail dir = true then 1 else 0) = r) :
    Calls Try.prog 42 #[.pointer (some ⟨g, 0, none⟩), .slice B ns.length c, .bool dir] w fun e w' => e = .returned (.int .i64 r) ∧ Drn w w' := by
  subst hns
  rw [← hr]
  exact match_on w g Ad Ap cd cp parts doms rest tail dir B c hA hP hpp hD hdl hN hcc hn hnl hre
/-- What a pattern is made of. -/
structure Pat (p : ByteArray) (parts : List ByteArray) (tail : Bool) : Prop where
  size : p.size ≤ 1000000
  text : p.data.toList = joinS parts ++ (if tail = true then [47] else [])
  clean : ∀ a ∈ parts, ∀ x ∈ a.data.toList, x ≠ 47
  plain : ∀ x ∈ p.data.toList, x ≠ 33 ∧ x ≠ 32
  fin : ∃ f z, joinS parts = f ++ [z] ∧ z ≠ 47
  pats : Pats parts
theorem Pat.ne {p : ByteArray} {parts : List ByteArray} {tail : Bool} (h : Pat p parts tail) : parts ≠ [] := List.length_pos_iff.1 h.pats.pos
theorem parse_pat {p : ByteArray} {parts doms : List ByteArray} {tail : Bool} {A : Option Addr} {c : Nat} {w : World} (h : Pat p parts tail) (hC : Kd.string.C w A doms.length doms) (hc : doms.length ≤ c) (hdl : doms.length ≤ 1000000) :
    Calls Try.prog 18 #[.string p, .slice A doms.length c] w (ParsePost w parts doms tail) :=
  parse_any p parts doms tail A c w h.size h.ne h.text h.clean h.plain h.fin hC hc hdl
theorem pattern_on (w : World) (p : ByteArray) (parts doms rest : List ByteArray) (tail dir : Bool) (A B : Option Addr) (c c2 : Nat) (hp : Pat p parts tail)
    (hC : Kd.string.C w A doms.length doms) (hc : doms.length ≤ c) (hdl : doms.length ≤ 1000000) (hdn : doms = [] → A = none)
    (hN : Kd.string.C w B (doms ++ rest).length (doms ++ rest)) (hcc : (doms ++ rest).length ≤ c2) (hn : ∀ n ∈ rest, Nm n) (hnl : rest.length ≤ 1000000) (hre : rest ≠ []) :
    Calls Try.prog 13 #[.string p, .slice A doms.length c, .slice B (doms ++ rest).length c2, .bool dir] w fun e w' => e = .returned (.int .i64 (if takes parts rest tail dir = true then 1 else 0)) ∧ Below w.heap.size w w' := by
  obtain ⟨ns, hns⟩ : ∃ ns, doms ++ rest = ns := ⟨_, rfl⟩
  have HNS := Aside0.mk hns
  have HNN := Aside0.mk (show ns = [] → B = none from fun h => absurd (List.append_eq_nil_iff.1 (hns.trans h)).2 hre)
  have HLL := Aside0.mk (show ns.length ≤ 2000000 from by rw [← hns, List.length_append]; omega)
  rw [hns] at hN hcc ⊢
  clear hns
  have HPT := Aside0.mk hp
  have HC := Aside0.mk hC
  have HN := Aside0.mk hN
  have HNM := Aside0.mk hn
  have HRE := Aside0.mk hre
  have HDN := Aside0.mk hdn
  obtain ⟨r, hr⟩ : ∃ r : Int, (if takes parts rest tail dir = true then 1 else 0) = r := ⟨_, rfl⟩
  have hn1 := fun g => nil_ahead ⟨g, 0, none⟩
  have hn2 := fun g => method_match ⟨g, 0, none⟩
  rw [hr]
  have HRR := Aside0.mk hr
  clear hp hC hN hn hre hdn hr
  go_enter Try.func13, Try.ntmps13
  go_wp2_with fail
  go_region_law (first | (refine step_append_empty rfl _ _ rfl _ A c doms rfl rfl HDN.out (Kd.C_below HC.out ?hB) (by omega) ?_; (case hB => (first | exact below_drew1 (Below.refl _ _) | exact below_alloc (below_drew1 (Below.refl _ _)) _ | exact below_alloc (below_alloc (below_drew1 (Below.refl _ _)) _) _ | exact HB2.out | exact below_alloc HB2.out _ | exact HB1.out | exact below_alloc HB1.out _)); intro A1 c1 w1 h1 h2 h3; have HA1 := Aside0.mk h1; have HC1 := Aside0.mk h2; have HB1 := Aside0.mk (show Below w.heap.size w w1 from below_step (by (first | exact below_drew1 (Below.refl _ _) | exact below_alloc (below_drew1 (Below.refl _ _)) _ | exact below_alloc (below_alloc (below_drew1 (Below.refl _ _)) _) _ | exact HB2.out | exact below_alloc HB2.out _ | exact HB1.out | exact below_alloc HB1.out _)) h3); clear h1 h2 h3) | (refine step_append_empty rfl _ _ rfl _ B c2 ns rfl rfl HNN.out (Kd.C_below HN.out ?hB) HLL.out ?_; (case hB => (first | exact below_drew1 (Below.refl _ _) | exact below_alloc (below_drew1 (Below.refl _ _)) _ | exact below_alloc (below_alloc (below_drew1 (Below.refl _ _)) _) _ | exact HB2.out | exact below_alloc HB2.out _ | exact HB1.out | exact below_alloc HB1.out _)); intro A2 c3 w3 h1 h2 h3; have HA2 := Aside0.mk h1; have HC2 := Aside0.mk h2; have HB3 := Aside0.mk (show Below w2.heap.size w2 w3 from by first | exact h3 | exact below_step (below_alloc (Below.refl _ _) _) h3); clear h1 h2 h3) | (go_simp; go_at_call 18; refine (parse_pat HPT.out (Kd.C_below HC1.out ?hB) HA1.out hdl).mono ?_; (case hB => (first | exact Below.refl _ _ | exact below_alloc (Below.refl _ _) _)); rintro e w2 ⟨g, Ad, Ap, cd, cp, rfl, hg, hat, h4, h5, h6, h7, h8⟩; have HAT := Aside0.mk hat; have HCD := Aside0.mk h6; have HCP := Aside0.mk h7; have HB2 := Aside0.mk (show Below w.heap.size w w2 from below_step (by (first | exact below_drew1 (Below.refl _ _) | exact below_alloc (below_drew1 (Below.refl _ _)) _ | exact below_alloc (below_alloc (below_drew1 (Below.refl _ _)) _) _ | exact HB2.out | exact below_alloc HB2.out _ | exact HB1.out | exact below_alloc HB1.out _)) h8); clear hg hat h4 h5 h6 h7 h8) | (go_simp; go_at_call 42; refine (match_on2 _ g Ad Ap cd cp parts doms rest ns tail dir A2 c3 HNS.out (blk_below HAT.out HB3.out) (Kd.C_below HCP.out HB3.out) HPT.out.pats (Kd.C_below HCD.out HB3.out) hdl HC2.out HA2.out HNM.out hnl HRE.out r HRR.out).mono ?_; rintro e w4 ⟨rfl, hd4⟩; have HB4 := Aside0.mk (drn_below (below_step HB2.out HB3.out) hd4); clear hd4))
  all_goals go_wp2_with fail
  all_goals go_ret
  all_goals exact ⟨rfl, HB4.out⟩
end Go.Proofs.Ytbiflpbajgafaaa.ign
