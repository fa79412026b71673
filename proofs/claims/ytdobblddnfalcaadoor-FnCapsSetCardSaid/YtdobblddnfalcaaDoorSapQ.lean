/- Capabilities: Decode. Capabilities: All, Get, impl.capsOf, impl.ReadCaps. -/
import Derived.Test.YtdobblddnfalcaaDoorSapN
namespace Go.Proofs.YtdobblddnfalcaaDoor.cap
section
open Go.RowKit Go.Proofs.YtdobblddnfalcaaDoorW.PrintWords Go.Proofs.YtdobblddnfalcaaDoorW.PrintLast Go.Proofs.YtdobblddnfalcaaDoorW.PrintMore Go.Proofs.YtdobblddnfalcaaDoor.off Go.Proofs.YtdobblddnfalcaaDoor.mapq Go.Proofs.YtdobblddnfalcaaDoor.PFnCapsWritten
set_option linter.unusedVariables false
set_option linter.unusedSimpArgs false
set_option maxHeartbeats 2000000
set_option maxRecDepth 100000
/-- An element of pieces that are read in an elder world. -/
theorem piece_at {wz w w' : World} {base : Nat} {v : Value} {P : List (List Int)} (h : (Kd.fixed kS wz).R 35 w base (fun _ => True) v P) (ho : ∀ k, base ≤ k → k < w.heap.size → w'.heap[k]? = w.heap[k]?) :
    ∃ Ap cp, v = .slice Ap P.length cp ∧ ∀ (j : Nat) (hj : j < P.length), ∃ ad A c, Ap = some ad ∧ w'.cell? (ad.add j) = some (.slice A P[j].length c) ∧ P[j].length ≤ c ∧ (Kd.int .u8).C wz A P[j].length P[j] := by
  have h1 := Kd.R_mono (Kd.R_move (w1 := w') (Kd.R_bound h) (fun k hk => ho k hk.2.1 hk.2.2.1)) (fun _ hk => hk.1)
  obtain ⟨Ap, cp, e, _, hC⟩ := Kd.R_reads h1
  refine ⟨Ap, cp, e, fun j hj => ?_⟩
  obtain ⟨ad, c, ea, _, hK, hc0⟩ := Kd.C_get hC ([] : List Int) (j : Int) (by omega) (by omega)
  have hp : P.getD (j : Int).toNat [] = P[j] := by rw [Int.toNat_natCast, List.getD_eq_getElem?_getD, List.getElem?_eq_getElem hj]; rfl
  rw [hp] at hK
  obtain ⟨A, c2, e2, hl, hr⟩ := hK
  have := hc0 0 _ (by rw [e2]; rfl)
  rw [show (j : Int).toNat * (Kd.fixed kS wz).sz + 0 = j from by show (j : Int).toNat * 1 + 0 = j; omega] at this
  exact ⟨ad, A, c2, ea, this, hl, hr⟩
theorem conv_at {wz w : World} {A : Option Addr} {c : Nat} {dst : TypeId} (s : ByteArray) (h : (Kd.int .u8).C wz A (bI s).length (bI s)) (hb : Below wz.heap.size wz w) (hd : Tryd.prog.underlying dst = some .string) :
    (convert 35 dst (.slice A (bI s).length c)).run Tryd.prog w = .ok (.string s) w := by
  have := Kd.C_string (P := Tryd.prog) (w := w) (A := A) (c := c) Tryd.underlying35 Tryd.underlying5 hd (Kd.C_below h hb)
  rwa [str_bI] at this
theorem one_byte (w : World) (b : Int) : (Kd.int .u8).C (w.alloc (.cells #[.int .u8 b] 5 (0, 0))) (some ⟨w.heap.size, 0, none⟩) 1 [b] := by
  refine ⟨rfl, by decide, fun _ => ⟨_, rfl, fun j p hj => ?_⟩⟩
  rcases j with _ | j
  · injection hj with hj
    subst hj
    refine ⟨[.int .u8 b], rfl, rfl, fun i u hu => ?_⟩
    rcases i with _ | i
    · injection hu with hu
      subst hu
      exact blk_cell (blk_new w _) 0
    · cases hu
  · cases hj
theorem snoc_rows {rows : List Row} {D : List (ByteArray × List ByteArray)} {n : ByteArray} {ds : List ByteArray} (h : sig rows = D ++ [(n, ds)]) : ∃ a r, rows = a ++ [r] ∧ r.name = n ∧ r.vs = ds ∧ sig a = D := by
  unfold sig at h
  obtain ⟨a, b, e1, e2, e3⟩ := List.map_eq_append_iff.1 h
  obtain ⟨r, e4, e5⟩ := List.map_eq_singleton_iff.1 e3
  subst e4
  injection e5 with e5 e6
  exact ⟨a, r, e1, e5, e6, e2⟩
theorem drop_step {α : Type} {l r : List α} {p : α} {t : Nat} (h : l.drop t = p :: r) : t < l.length ∧ l[t]? = some p ∧ r = l.drop (t + 1) := by
  have hlt : t < l.length := by
    have := congrArg List.length h
    rw [List.length_drop, List.length_cons] at this
    omega
  rw [List.drop_eq_getElem_cons hlt] at h
  injection h with h1 h2
  exact ⟨hlt, by rw [List.getElem?_eq_getElem hlt, h1], h2.symm⟩
theorem pair_at {wz w : World} {base : Nat} {v : Value} {P : List (List Int)} (h : (Kd.fixed kS wz).R 35 w base (fun _ => True) v P) (hb : Below wz.heap.size wz w) (hP : P ≠ []) :
    ∃ ad cp, v = .slice (some ad) P.length cp ∧ ∀ (j : Nat) (hj : j < P.length) (s : ByteArray), P[j] = bI s → ∃ A c, w.cell? (ad.add j) = some (.slice A s.size c) ∧ s.size ≤ c ∧ (Kd.int .u8).C wz A (bI s).length (bI s) ∧ ∀ dst, Tryd.prog.underlying dst = some .string → (convert 35 dst (.slice A s.size c)).run Tryd.prog w = .ok (.string s) w := by
  obtain ⟨Ap, cp, e, hc⟩ := piece_at (w' := w) h (fun _ _ _ => rfl)
  obtain ⟨ad, _, _, ea, _⟩ := hc 0 (List.length_pos_iff.2 hP)
  subst ea
  refine ⟨ad, cp, e, fun j hj s hs => ?_⟩
  obtain ⟨ad', A, c, ea, h1, h2, h3⟩ := hc j hj
  injection ea with ea
  subst ea
  rw [hs] at h1 h2 h3
  rw [bI_len] at h1 h2
  refine ⟨A, c, h1, h2, h3, fun dst hd => ?_⟩
  have := conv_at (c := c) s h3 hb hd
  rwa [bI_len] at this
theorem add_zero (ad : Addr) : ad.add 0 = ad := by unfold Addr.add; rw [if_pos rfl]
theorem St.nd {q S : List (ByteArray × List ByteArray)} {L : List (ByteArray × Option ByteArray)} (h : St q S L) (hg : GoodQ q) : (S.map Prod.fst).Nodup ∧ S.length ≤ 61 := by
  have hn := hg.nd
  have hm := hg.most
  cases h with
  | at_ D R e =>
    rw [e, List.map_append] at hn
    rw [e, List.length_append] at hm
    exact ⟨(List.nodup_append.1 hn).1, by omega⟩
  | mid D n ds rs R e h1 h2 =>
    have e2 : (D ++ [(n, ds)]).map Prod.fst = D.map Prod.fst ++ [n] := by rw [List.map_append]; rfl
    rw [e, List.map_append, List.map_cons, List.append_cons] at hn
    rw [e, List.length_append, List.length_cons] at hm
    rw [e2]
    exact ⟨(List.nodup_append.1 hn).1, by rw [List.length_append, List.length_singleton]; omega⟩
/-- What the loop of Decode keeps. -/
structure Lp (wz w2 w' : World) (gl gm : Nat) (sv : Value) (rows : List Row) (q : List (ByteArray × List ByteArray)) (t : Nat) : Prop where
  cap : CapL wz.heap.size w' gl gm sv rows
  st : St q (sig rows) ((flatQ q).drop t)
  own : ∀ k ∈ bl gl gm sv rows, k = gl ∨ k = gm ∨ w2.heap.size ≤ k
  off : Off (fun k => k = gl ∨ k = gm) w2 w'
  below : Below wz.heap.size wz w'
theorem decode_any (wz w : World) (hz : Below wz.heap.size wz w) (gl gm : Nat) (h : CapL wz.heap.size w gl gm (.slice none 0 0) []) (q : List (ByteArray × List ByteArray)) (hq : GoodQ q) (h0 : itemsQ q ≠ []) (b o c : Nat) (hC : (Kd.int .u8).C wz (some ⟨b, o, none⟩) (bI (joinB (itemsQ q))).length (bI (joinB (itemsQ q)))) (hcc : (joinB (itemsQ q)).size ≤ c) (hbig : (joinB (itemsQ q)).size ≤ 1000000000)
    (htab : Lib.TabIs Tryd.prog w "bytes.asciiSpace" .u8 Lib.asciiSpaceTab) :
    Calls Tryd.prog 22 #[.pointer (some ⟨gl, 0, none⟩), .slice (some ⟨b, o, none⟩) (joinB (itemsQ q)).size c] w fun e w' => e = .returned .nilIface ∧ ∃ sv' rows, CapL wz.heap.size w' gl gm sv' rows ∧ sig rows = q ∧ Below wz.heap.size wz w' := by
  obtain ⟨htr, hpos⟩ := trim_text q hq h0 b o c
  have hmid := hq.mid
  have hP0 : (itemsQ q).map bI ≠ [] := by simpa using h0
  have hPm : ∀ p ∈ (itemsQ q).map bI, ∀ y ∈ p, 45 ≤ y ∧ y ≤ 122 := fun p hp y hy => by
    obtain ⟨s, hs, rfl⟩ := List.mem_map.1 hp
    obtain ⟨b, hb, rfl⟩ := List.mem_map.1 hy
    have := (hmid s hs).2 b hb
    omega
  have hjm : ∀ (P : List (List Int)), (∀ p ∈ P, ∀ y ∈ p, 45 ≤ y ∧ y ≤ 122) → ∀ y ∈ jn 32 P, 32 ≤ y ∧ y ≤ 122 := by
    intro P hP y hy
    cases P with
    | nil => cases hy
    | cons a r =>
      unfold jn jt at hy
      rcases List.mem_append.1 hy with hy | hy
      · have := hP a List.mem_cons_self y hy; omega
      · obtain ⟨p, hp, hy⟩ := List.mem_flatMap.1 hy
        rcases List.mem_cons.1 hy with rfl | hy
        · omega
        · have := hP p (List.mem_cons_of_mem _ hp) y hy; omega
  have hT := hjm _ hPm
  rw [← join_jn] at hT
  have hil := itemsQ_len q hq.good
  have hqm := hq.most
  have HTR := Aside0.mk (show Calls Tryd.prog 33 #[.slice (some ⟨b, o, none⟩) (joinB (itemsQ q)).size c] w fun e w' => e = .returned (.slice (some ⟨b, o, none⟩) (joinB (itemsQ q)).size c) ∧ w' = w by
    have hCw := Kd.C_below hC hz
    have := Tryd.bytes_TrimSpace b o (joinB (itemsQ q)).size c (bI (joinB (itemsQ q))) w (bI_len _) hcc (by omega) (fun i hi => by
      obtain ⟨ad, cs, e, _, hK, hc0⟩ := Kd.C_get hCw (0 : Int) (i : Int) (by omega) (by rw [bI_len]; omega)
      have hK' : cs = [.int .u8 ((bI (joinB (itemsQ q))).getD (i : Int).toNat 0)] := hK
      have := hc0 0 _ (by rw [hK']; rfl)
      injection e with e
      subst e
      rw [show (i : Int).toNat * (Kd.int .u8).sz + 0 = i from by show (i : Int).toNat * 1 + 0 = i; omega, Addr.add_mid, Int.toNat_natCast] at this
      exact this) (fun i hi => by
      have hlt : i < (bI (joinB (itemsQ q))).length := by rw [bI_len]; exact hi
      rw [List.getD_eq_getElem?_getD, List.getElem?_eq_getElem hlt]
      have := hT _ (List.getElem_mem hlt)
      show 0 ≤ (bI (joinB (itemsQ q)))[i] ∧ (bI (joinB (itemsQ q)))[i] < 128
      omega) htab
    rw [htr] at this
    exact this)
  obtain ⟨T, hTT⟩ : ∃ T, joinB (itemsQ q) = T := ⟨_, rfl⟩
  have hjn := join_jn (itemsQ q)
  rw [hTT] at HTR hjn hC hcc hpos hbig ⊢
  obtain ⟨P, hPP⟩ : ∃ P, (itemsQ q).map bI = P := ⟨_, rfl⟩
  have HPP := Aside0.mk hPP
  rw [hPP] at hjn hP0 hPm
  have hPl : P.length ≤ 1000000 := by rw [← hPP, List.length_map]; omega
  obtain ⟨w1, hw1⟩ : ∃ w1, w.alloc (.cells #[.int .u8 32] 5 (0, 0)) = w1 := ⟨_, rfl⟩
  have hb1 : Below w.heap.size w w1 := by rw [← hw1]; exact below_alloc (Below.refl _ _) _
  have HSP := Aside0.mk (splitAll_any wz w1 (below_step hz hb1) (some ⟨b, o, none⟩) c (bI T) hC (by rw [bI_len]; exact hcc) 32 (some ⟨w.heap.size, 0, none⟩) 1 (by rw [← hw1]; exact one_byte w 32) (Nat.le_refl _) (by omega) P hjn hP0 (fun p hp y hy => by have := hPm p hp y hy; omega) (by rw [bI_len]; exact hbig) hPl)
  rw [bI_len] at HSP
  have HPL := Aside0.mk hPl
  have HCAP := Aside0.mk h
  have HB1 := Aside0.mk hb1
  have HZ := Aside0.mk hz
  have HQ := Aside0.mk hq
  have HGL := Aside0.mk (show gl < w.heap.size ∧ gm < w.heap.size from ⟨h.s.lt gl List.mem_cons_self, h.s.lt gm (List.mem_cons_of_mem _ List.mem_cons_self)⟩)
  have HPLEN := Aside0.mk (show (flatQ q).length = P.length by rw [← hPP, flatQ_items, List.length_map, List.length_map])
  have d0 : ((T.size : Int) == 0) = false := beq_eq_false_iff_ne.2 (by omega)
  have d1 : (T.size == 0) = false := beq_eq_false_iff_ne.2 (by omega)
  clear h hz hq h0 hC hcc hbig htab htr hmid hP0 hPm hjm hT hil hqm hTT hjn hPP hPl hb1 hpos
  go_enter Tryd.func22, Tryd.ntmps22
  go_wp2_with fail
  refine HTR.out.mono ?_
  rintro e wq ⟨rfl, rfl⟩
  clear HTR
  go_wp2_with fail
  refine HSP.out.mono ?_
  rintro e w2 ⟨v2, rfl, hR, hb⟩
  have HR := Aside0.mk hR
  have HB2 := Aside0.mk hb
  have HLP := Aside0.mk (show Lp wz w2 w2 gl gm (.slice none 0 0) [] q 0 from
    have hbb := below_step HB1.out hb
    ⟨HCAP.out.below hbb, .at_ [] q rfl, fun k hk => by simp [bl, own, Value.ownBlock] at hk; rcases hk with h | h; exact .inl h; exact .inr (.inl h), Off.refl _ _, below_step HZ.out hbb⟩)
  obtain ⟨Ap, cp, hv2⟩ := Kd.R_slice hR
  subst hv2
  clear hR hb HSP hw1 d0 d1 HCAP
  go_wp2_with fail
  go_loopg [20] (P.length + 1) (fun kq v20 w' => ∃ (t : Nat) (sv : Value) (rows : List Row), v20 = .int .i64 (t : Int) ∧ t ≤ P.length ∧ Aside0 (kq + t = P.length + 1) ∧ Aside0 (Lp wz w2 w' gl gm sv rows q t))
  case atStart => exact ⟨0, _, [], rfl, Nat.zero_le _, ⟨by omega⟩, HLP⟩
  case round =>
    clear HLP
    obtain ⟨t, sv, rows, rfl, ht, HK, HLP⟩ := hrel
    cases gk with
    | zero => exact absurd HK.out (by omega)
    | succ k1 =>
      obtain ⟨wo, hwo⟩ : ∃ wo : World, wo = wr := ⟨_, rfl⟩
      subst hwo
      by_cases hlt : t < P.length
      · have p1 : 0 ≤ (t : Int) := by omega
        have q1 : (t : Int) < (P.length : Int) := by omega
        have c0 : decide ((t : Int) < (P.length : Int)) = true := decide_eq_true q1
        have c1 : decide (t < P.length) = true := decide_eq_true hlt
        have w1' : wrap64 ((t : Int) + 1) = (t : Int) + 1 := off.w64 (by omega) (by have := HPL.out; omega)
        have hfl : t < (flatQ q).length := by rw [HPLEN.out]; exact hlt
        have hdr := List.drop_eq_getElem_cons hfl
        have hPt : P[t] = bI (txt (flatQ q)[t]) := by
          have h1 : (itemsQ q).map bI = (flatQ q).map (fun p => bI (txt p)) := by rw [flatQ_items, List.map_map]; rfl
          have h2 := HPP.out
          rw [h1] at h2
          subst h2
          rw [List.getElem_map]
        obtain ⟨vs, hvq, hvm⟩ := flat_mem (List.getElem_mem hfl)
        obtain ⟨pp, hpp⟩ : ∃ pp, (flatQ q)[t] = pp := ⟨_, rfl⟩
        rw [hpp] at hdr hPt hvq hvm
        obtain ⟨n, ov⟩ := pp
        have hgd := HQ.out.good _ hvq
        simp only at hgd hvm
        obtain ⟨Ap', cp', e', hpc⟩ := piece_at (w' := wo) HR.out (fun k h1 h2 => HLP.out.off.block k h2 (fun h => by
          have := HGL.out
          have := HB1.out.size
          rcases h with h | h <;> omega))
        injection e' with e1 e2 e3
        subst e1 e3
        obtain ⟨ad, A3, c3, ea, hcell, hl3, hr3⟩ := hpc t hlt
        subst ea
        rw [hPt] at hcell hl3 hr3
        obtain ⟨s, hs⟩ : ∃ s, txt (n, ov) = s := ⟨_, rfl⟩
        have hsm : s.size ≤ 3000 := by
          have := HQ.out.size s (by rw [flatQ_items]; exact List.mem_map.2 ⟨(n, ov), by rw [← hpp]; exact List.getElem_mem hfl, hs⟩)
          exact this
        rw [hs] at hcell hl3 hr3
        rw [bI_len] at hcell hl3
        obtain ⟨w3, hw3⟩ : ∃ w3, wo.alloc (.cells #[.int .u8 61] 5 (0, 0)) = w3 := ⟨_, rfl⟩
        have hb3 : Below wo.heap.size wo w3 := by rw [← hw3]; exact below_alloc (Below.refl _ _) _
        have hz3 := HLP.out.below.trans (hb3.mono HLP.out.below.size)
        have HB3 := Aside0.mk hb3
        have hsl : s.size ≤ 1000000000 := by omega
        have HST := Aside0.mk (show St q (sig rows) ((n, ov) :: (flatQ q).drop (t + 1)) by rw [← hdr]; exact HLP.out.st)
        have hnl := not_of_let hgd.nameLet
        have hrl : rows.length ≤ 1000 := by
          have := (HLP.out.st.nd HQ.out).2
          unfold sig at this
          rw [List.length_map] at this
          omega
        clear hpc hPt hpp hfl hdr
        cases ov with
        | none =>
          have hsn : s = n := hs.symm
          have HS2 := Aside0.mk (splitTwo_any wz w3 hz3 A3 c3 (bI s) hr3 (by rw [bI_len]; exact hl3) 61 (some ⟨wo.heap.size, 0, none⟩) 1 (by rw [← hw3]; exact one_byte wo 61) (Nat.le_refl _) (by omega) [bI n] (by rw [hsn]; unfold jn jt; simp) (by simp) (fun p hp y hy => by rw [List.mem_singleton.1 hp] at hy; have := hnl y hy; omega) (by simp) (by rw [bI_len]; exact hsl) (by simp))
          rw [bI_len] at HS2
          obtain ⟨hnew, hst', hgn⟩ := HST.out.none_ rfl HQ.out
          have HNEW := Aside0.mk hnew
          have HST2 := Aside0.mk hst'
          have HGN := Aside0.mk hgn
          clear hs hsm hnl hsn hr3 hl3 hb3 hz3 hnew hst' hgn hvq hvm hsl
          go_wp2_with fail
          refine HS2.out.mono ?_
          rintro e w4 ⟨v4, rfl, hR4, hb⟩
          have HB4 := Aside0.mk (HB3.out.trans (hb.mono HB3.out.size))
          have hz4 := HLP.out.below.trans (HB4.out.mono HLP.out.below.size)
          obtain ⟨ad4, cp4, hv4, hpc4⟩ := pair_at hR4 hz4 (by simp)
          subst hv4
          obtain ⟨A5, c5, hc5, _, _, hcv5⟩ := hpc4 0 (by simp) n rfl
          have hc5' := hc5
          rw [add_zero] at hc5'
          have hcv := hcv5 50 Tryd.underlying50
          have HADD := Aside0.mk (add_new wz.heap.size w4 gl gm sv rows (HLP.out.cap.below HB4.out) hz4.size n none 0 [] HGN.out.args ⟨rfl, (fun j u hj => by cases hj), (fun u hu => by cases hu)⟩ (fun ad h => by cases h) (find_none (fun hn => HNEW.out (by unfold sig; rw [List.map_map]; exact hn))) hrl)
          clear hR4 hb hz4 hpc4 hcv5 HS2 hw3 hcell
          go_wp2_with fail
          refine HADD.out.mono ?_
          rintro e w5 ⟨rfl, sv5, ge5, v5, hl5, hb5, ho5, hg5⟩
          have HLP5 := Aside0.mk (show Lp wz w2 w5 gl gm sv5 (rows ++ [⟨n, ge5, v5, []⟩]) q (t + 1) from
            ⟨hl5, by have := HST2.out; unfold sig at this ⊢; rw [List.map_append]; exact this, fun k hk => by
              rcases hg5 k hk with h | h
              · exact HLP.out.own k h
              · exact .inr (.inr (Nat.le_trans (Nat.le_trans HLP.out.off.size HB4.out.size) h)), off_trans2 (HLP.out.off.then_ HB4.out) ho5 (fun k hk h => by
              rcases HLP.out.own k h with h | h | h
              · exact .inl h
              · exact .inr h
              · omega), (HLP.out.below.trans (HB4.out.mono HLP.out.below.size)).trans hb5⟩)
          clear hl5 hb5 ho5 hg5 HADD
          go_wp2_with fail
          go_roundg k1
          case measure => have := HK.out; omega
          case rel => exact ⟨t + 1, sv5, _, by go_num, hlt, ⟨by have := HK.out; omega⟩, HLP5⟩
        | some v =>
          have hsn : s = (n ++ (⟨#[61]⟩ : ByteArray)) ++ v := hs.symm
          have hvl := not_of_let (hgd.words v (hvm v rfl)).let_
          have hone := hgd.one (hvm v rfl)
          have HS2 := Aside0.mk (splitTwo_any wz w3 hz3 A3 c3 (bI s) hr3 (by rw [bI_len]; exact hl3) 61 (some ⟨wo.heap.size, 0, none⟩) 1 (by rw [← hw3]; exact one_byte wo 61) (Nat.le_refl _) (by omega) [bI n, bI v] (by rw [hsn]; exact item_two n v) (by simp) (fun p hp y hy => by
            rcases List.mem_cons.1 hp with rfl | hp
            · have := hnl y hy; omega
            · rw [List.mem_singleton.1 hp] at hy; have := hvl y hy; omega) (by simp) (by rw [bI_len]; exact hsl) (by simp))
          rw [bI_len] at HS2
          have HONE := Aside0.mk hone
          have HVS := Aside0.mk (HST.out.some_ rfl HQ.out)
          clear hs hsm hnl hvl hone hsn hr3 hl3 hb3 hz3 hvq hvm hsl
          go_wp2_with fail
          refine HS2.out.mono ?_
          rintro e w4 ⟨v4, rfl, hR4, hb⟩
          have HB4 := Aside0.mk (HB3.out.trans (hb.mono HB3.out.size))
          have hz4 := HLP.out.below.trans (HB4.out.mono HLP.out.below.size)
          obtain ⟨ad4, cp4, hv4, hpc4⟩ := pair_at hR4 hz4 (by simp)
          subst hv4
          obtain ⟨A5, c5, hc5, _, _, hcv5⟩ := hpc4 0 (by simp) n rfl
          obtain ⟨A6, c6, hc6, _, _, hcv6⟩ := hpc4 1 (by simp) v rfl
          have hc5' := hc5
          rw [add_zero] at hc5'
          have hcv := hcv5 50 Tryd.underlying50
          have hcw := hcv6 9 Tryd.underlying9
          have hc6' : w4.cell? ⟨ad4.block, ad4.off + 1, none⟩ = some (.slice A6 v.size c6) := by
            have := hc6
            unfold Addr.add at this
            rwa [if_neg (by decide)] at this
          obtain ⟨w5, hw5⟩ : ∃ w5, w4.alloc (.cells #[.string v] 9 (0, 0)) = w5 := ⟨_, rfl⟩
          have hb5 : Below w4.heap.size w4 w5 := by rw [← hw5]; exact below_alloc (Below.refl _ _) _
          have HB5 := Aside0.mk (HB4.out.trans (hb5.mono HB4.out.size))
          have hz5 := HLP.out.below.trans (HB5.out.mono HLP.out.below.size)
          have hsrc : Src w5 (some ⟨w4.heap.size, 0, none⟩) [v].length (strs [v]) := by rw [← hw5]; exact new_src w4 (.string v) 9 rfl
          have hA5 : ∀ ad : Addr, some (⟨w4.heap.size, 0, none⟩ : Addr) = some ad → ad.block ∉ bl gl gm sv rows := fun ad h hk => by
            injection h with h
            subst h
            have h1 := HLP.out.cap.s.lt _ hk
            have h2 := HB4.out.size
            simp only at h1
            omega
          have HZ5 := Aside0.mk hz5
          have HSRC := Aside0.mk hsrc
          have HA5 := Aside0.mk hA5
          have HCAP5 := Aside0.mk (HLP.out.cap.below HB5.out)
          clear hR4 hb hz4 hpc4 hcv5 hcv6 HS2 hw3 hcell hb5 hz5 hsrc hA5
          rcases HVS.out with ⟨hnew, hst'⟩ | ⟨D, ds, hS, hmu, hdl, hst'⟩
          · have HADD := Aside0.mk (add_new wz.heap.size w5 gl gm sv rows HCAP5.out HZ5.out.size n (some ⟨w4.heap.size, 0, none⟩) 1 [v] HONE.out HSRC.out HA5.out (find_none (fun hn => hnew (by unfold sig; rw [List.map_map]; exact hn))) hrl)
            have HST2 := Aside0.mk hst'
            have e1 : [v].length = 1 := rfl
            rw [e1] at HADD
            clear hnew hst' hrl
            go_wp2_with fail
            refine HADD.out.mono ?_
            rintro e w6 ⟨rfl, sv5, ge5, v5, hl5, hb5, ho5, hg5⟩
            have HLP5 := Aside0.mk (show Lp wz w2 w6 gl gm sv5 (rows ++ [⟨n, ge5, v5, [v]⟩]) q (t + 1) from
              ⟨hl5, by have := HST2.out; unfold sig at this ⊢; rw [List.map_append]; exact this, fun k hk => by
                rcases hg5 k hk with h | h
                · exact HLP.out.own k h
                · exact .inr (.inr (Nat.le_trans (Nat.le_trans HLP.out.off.size HB5.out.size) h)), off_trans2 (HLP.out.off.then_ HB5.out) ho5 (fun k hk h => by
                rcases HLP.out.own k h with h | h | h
                · exact .inl h
                · exact .inr h
                · omega), HZ5.out.trans hb5⟩)
            clear hl5 hb5 ho5 hg5 HADD
            go_wp2_with fail
            go_roundg k1
            case measure => have := HK.out; omega
            case rel => exact ⟨t + 1, sv5, _, by go_num, hlt, ⟨by have := HK.out; omega⟩, HLP5⟩
          · obtain ⟨a, r, hrows, hrn, hrv, hsa⟩ := snoc_rows hS
            subst hrows
            subst hrn hrv
            have hnd : ((a ++ [r]).map (·.name)).Nodup := by
              have := (HLP.out.st.nd HQ.out).1
              unfold sig at this
              rw [List.map_map] at this
              exact this
            have HADD := Aside0.mk (add_old wz.heap.size w5 gl gm sv a [] r HCAP5.out hnd HZ5.out.size (some ⟨w4.heap.size, 0, none⟩) 1 [v] HONE.out HSRC.out HA5.out (fun h => by rw [hmu] at h; cases h) (by omega))
            have HST2 := Aside0.mk (show St q (sig (a ++ [⟨r.name, r.ge, undef, r.vs ++ [v]⟩])) ((flatQ q).drop (t + 1)) by
              unfold sig at hsa ⊢
              rw [List.map_append, hsa]
              exact hst')
            have e1 : [v].length = 1 := rfl
            rw [e1] at HADD
            clear hmu hdl hst' hrl hnd hS hsa
            go_wp2_with fail
            refine HADD.out.mono ?_
            rintro e w6 ⟨rfl, v5, hl5, hb5, ho5, hg5⟩
            have HLP5 := Aside0.mk (show Lp wz w2 w6 gl gm sv (a ++ [⟨r.name, r.ge, v5, r.vs ++ [v]⟩]) q (t + 1) from
              ⟨hl5, by have := HST2.out; unfold sig at this ⊢; rw [List.map_append] at this ⊢; exact this, fun k hk => by
                rcases hg5 k hk with h | h
                · exact HLP.out.own k h
                · exact .inr (.inr (Nat.le_trans (Nat.le_trans HLP.out.off.size HB5.out.size) h)), off_trans2 (HLP.out.off.then_ HB5.out) ho5 (fun k hk h => by
                rcases HLP.out.own k h with h | h | h
                · exact .inl h
                · exact .inr h
                · omega), HZ5.out.trans hb5⟩)
            clear hl5 hb5 ho5 hg5 HADD
            go_wp2_with fail
            go_roundg k1
            case measure => have := HK.out; omega
            case rel => exact ⟨t + 1, sv, _, by go_num, hlt, ⟨by have := HK.out; omega⟩, HLP5⟩
      · have c0 : decide ((t : Int) < (P.length : Int)) = false := decide_eq_false (by omega)
        have c1 : decide (t < P.length) = false := decide_eq_false hlt
        have HD := Aside0.mk (HLP.out.st.done (List.drop_of_length_le (by have := HPLEN.out; omega)))
        go_wp2_with fail
        go_ret
        exact ⟨rfl, sv, rows, HLP.out.cap, HD.out, HLP.out.below⟩
end
section
open Go.RowKit Go.Proofs.YtdobblddnfalcaaDoorW.PrintWords Go.Proofs.YtdobblddnfalcaaDoorW.PrintLast Go.Proofs.YtdobblddnfalcaaDoorW.PrintMore Go.Proofs.YtdobblddnfalcaaDoor.off Go.Proofs.YtdobblddnfalcaaDoor.mapq Go.Proofs.YtdobblddnfalcaaDoor.PFnCapsWritten
set_option linter.unusedVariables false
set_option linter.unusedSimpArgs false
set_option maxHeartbeats 2000000
set_option maxRecDepth 100000
theorem infoCap : (Tryd.prog.info? 50).map (fun i => (i.zero, i.size, i.bytes)) = some (some (.string ⟨#[]⟩), 1, 16) := by kernel_rfl
theorem push_cap {base : Nat} {W : World} {v : Value} {xs : List ByteArray} (h : Slc W v (strs xs)) (hr : ∀ k, v.ownBlock = some k → base ≤ k) (hbase : base ≤ W.heap.size) (x : ByteArray) (hl : xs.length ≤ 100000000) :
    ∃ A1 c1 w2, (Builtin.append_ #[72, 72] 72 #[v, .slice (some ⟨W.heap.size, 0, none⟩) 1 1]).run Tryd.prog (W.alloc (.cells #[.string x] 50 (0, 0))) = .ok (.slice A1 (xs.length + 1) c1) w2 ∧
      Slc w2 (.slice A1 (xs.length + 1) c1) (strs (xs ++ [x])) ∧ (∀ k, (Value.slice A1 (xs.length + 1) c1).ownBlock = some k → base ≤ k) ∧ Below base W w2 := by
  have hal : Below W.heap.size W (W.alloc (.cells #[.string x] 50 (0, 0))) := below_alloc (Below.refl _ _) _
  have hs1 := h.keep hal.size (fun k hk => hal.block k (h.blk k hk))
  obtain ⟨i0, hi, hzz⟩ := Option.map_eq_some_iff.1 infoCap
  simp only [Prod.mk.injEq] at hzz
  obtain ⟨hz0, hz1, hz2⟩ := hzz
  obtain ⟨v1, w2, hrun, hsl, hof, hfr⟩ := hs1.appendW (m := 1) (c := 1) 72 72 50 i0 _ 16 Tryd.underlying72 hi hz0 hz1 hz2 rfl (new_src W (.string x) 50 rfl) (by rw [strs_len]; omega) (by rw [strs_len]; omega)
  obtain ⟨A1, c1, hv1, hc1⟩ := Slc_shape hsl
  rw [List.length_append, strs_len, List.length_singleton] at hv1
  subst hv1
  have hs : (W.alloc (.cells #[.string x] 50 (0, 0))).heap.size = W.heap.size + 1 := by simp
  refine ⟨A1, c1, w2, hrun, by rw [strs, List.map_append]; exact hsl, fun k hk => ?_, ?_⟩
  · rcases hfr with hfr | ⟨q, hq, hlt⟩
    · exact hr k (by rw [← hfr]; exact hk)
    · rw [hq] at hk; cases hk; omega
  · have hb0 : Below base W (W.alloc (.cells #[.string x] 50 (0, 0))) := ⟨hal.os, hal.tape, hal.output, hal.size, fun k hk => hal.block k (by omega)⟩
    exact hb0.trans (hof.below (base := base) (by omega) (fun k hk => hr k hk))
theorem all_any (w : World) (gl gm : Nat) (sv : Value) (rows : List Row) (h : CapS w gl gm sv (rows.map (·.name)) rows) (hn : rows.length ≤ 1000) :
    Calls Tryd.prog 35 #[.pointer (some ⟨gl, 0, none⟩)] w fun e w' => ∃ A c, e = .returned (.slice A rows.length c) ∧ Src w' A rows.length (strs (rows.map (·.name))) ∧ Below w.heap.size w w' := by
  obtain ⟨As, cs, hsv, _⟩ := Slc_shape h.sort
  rw [strs_len, List.length_map] at hsv
  subst hsv
  have HS := Aside0.mk h
  have q1 := (blk_cell h.list 1).trans (show _ = some (Value.slice As rows.length cs) from rfl)
  clear h
  go_enter Tryd.func35, Tryd.ntmps35
  go_wp2_with fail
  go_loopg [3, 11] (rows.length + 1) (fun kq v3 v11 w' => ∃ (j : Nat) (ov : Value), ov = v3 ∧ v11 = .int .i64 (j : Int) ∧ j ≤ rows.length ∧ Aside0 (kq + j = rows.length + 1) ∧ Aside0 (Slc w' ov (strs ((rows.map (·.name)).take j))) ∧ Aside0 (∀ k, ov.ownBlock = some k → w.heap.size ≤ k) ∧ Aside0 (Below w.heap.size w w'))
  case atStart => exact ⟨0, _, rfl, rfl, Nat.zero_le _, ⟨by omega⟩, ⟨.inl ⟨rfl, rfl⟩⟩, ⟨fun k hk => by cases hk⟩, ⟨Below.refl _ _⟩⟩
  case round =>
    clear q1
    obtain ⟨j, ov, hov, rfl, hj, HK, HO, HP, HB⟩ := hrel
    subst hov
    cases gk with
    | zero => exact absurd HK.out (by omega)
    | succ k1 =>
      by_cases hlt : j < rows.length
      · have p1 : 0 ≤ (j : Int) := by omega
        have q1 : (j : Int) < (rows.length : Int) := by omega
        have c0 : decide ((j : Int) < (rows.length : Int)) = true := decide_eq_true q1
        have c1 : decide (j < rows.length) = true := decide_eq_true hlt
        have w1 : wrap64 ((j : Int) + 1) = (j : Int) + 1 := off.w64 (by omega) (by omega)
        have HSr := Aside0.mk (HS.out.below HB.out)
        have hlt' : j < (rows.map (·.name)).length := by rw [List.length_map]; exact hlt
        obtain ⟨ad, rfl, hc⟩ := (slc_src HSr.out.sort).rd j _ (strs_get _ j hlt')
        have HTI := Aside0.mk (show (rows.map (·.name)).take (j + 1) = (rows.map (·.name)).take j ++ [(rows.map (·.name))[j]] from List.take_succ_eq_append_getElem hlt')
        obtain ⟨nm, hnm⟩ : ∃ nm, (rows.map (·.name))[j] = nm := ⟨_, rfl⟩
        rw [hnm] at hc HTI
        obtain ⟨ys, hys⟩ : ∃ ys, (rows.map (·.name)).take j = ys := ⟨_, rfl⟩
        have hyl : ys.length ≤ 1000 := by rw [← hys, List.length_take]; omega
        rw [hys] at HO HTI
        obtain ⟨A4, c4, w4, hr4, hs4, ho4, hb4⟩ := push_cap HO.out HP.out HB.out.size nm (by omega)
        have HR4 := Aside0.mk hr4
        have HS4 := Aside0.mk hs4
        have HP4 := Aside0.mk ho4
        have HB4 := Aside0.mk (HB.out.trans hb4)
        clear hr4 hs4 ho4 hb4 hnm hys hlt'
        go_wp2_with (first | ((with_reducible refine gate_builtin (b := .append) (xs := #[.tmp 15, .tmp 17]) rfl ?_); at_builtin; go_must (refine wpList_append_run rfl (.tmp 15) (.tmp 17) 72 rfl _ _ rfl rfl HR4.out ?_)) | fail)
        go_roundg k1
        case measure => have := HK.out; omega
        case rel => exact ⟨j + 1, _, rfl, by go_num, hlt, ⟨by have := HK.out; omega⟩, ⟨by rw [HTI.out]; exact HS4.out⟩, HP4, HB4⟩
      · have c0 : decide ((j : Int) < (rows.length : Int)) = false := decide_eq_false (by omega)
        have c1 : decide (j < rows.length) = false := decide_eq_false hlt
        have HT := Aside0.mk (show (rows.map (·.name)).take j = rows.map (·.name) from List.take_of_length_le (by rw [List.length_map]; omega))
        rw [HT.out] at HO
        obtain ⟨Ao, co, hov, _⟩ := Slc_shape HO.out
        rw [strs_len, List.length_map] at hov
        subst hov
        have HSO := Aside0.mk (slc_src HO.out)
        go_wp2_with fail
        go_ret
        exact ⟨Ao, ⟨co, rfl⟩, HSO.out, HB.out⟩
theorem get_any (w : World) (gl gm : Nat) (sv : Value) (rows : List Row) (h : CapS w gl gm sv (rows.map (·.name)) rows) (hnd : (rows.map (·.name)).Nodup) (r : Row) (hr : r ∈ rows) (hsz : r.name.size ≤ maxLen) :
    Calls Tryd.prog 36 #[.pointer (some ⟨gl, 0, none⟩), .string r.name] w fun e w' => e = .returned r.v ∧ Below w.heap.size w w' := by
  have hfd := name_mem hr hnd
  have hRA := h.row _ hr
  obtain ⟨nm, ge, rv, vs⟩ := r
  obtain ⟨Ar, cr, hrv, _⟩ := Slc_shape hRA.slc
  rw [strs_len] at hrv
  simp only at hrv hsz hfd
  subst hrv
  have q0 := (blk_cell h.list 0).trans (show _ = some (Value.map (some gm)) from rfl)
  have q1 := (blk_cell hRA.cells 1).trans (show _ = some (Value.slice Ar vs.length cr) from rfl)
  have hl1 : (Instr.lookup 62 (.map (some gm)) (.string nm) true).run Tryd.prog w = .ok (.tuple #[.pointer (some ⟨ge, 0, none⟩), .bool true]) w := by
    have := h.map.look Tryd.underlying50 Tryd.underlying62 (zeroPtr w) nm hsz
    rw [hfd] at this
    exact this
  have hl2 : (Instr.lookup 62 (.map (some gm)) (.string nm) false).run Tryd.prog w = .ok (.pointer (some ⟨ge, 0, none⟩)) w := by
    have := h.map.look1 Tryd.underlying50 Tryd.underlying62 (zeroPtr w) nm hsz
    rw [hfd] at this
    exact this
  clear h hRA hfd
  go_enter Tryd.func36, Tryd.ntmps36
  go_wp2_with fail
  go_ret
  exact ⟨rfl, Below.refl _ _⟩
theorem info30 : (Tryd.prog.info? 30).map (fun i => (i.zero, i.size, i.bytes)) = some (some (.agg #[.string ⟨#[]⟩, .slice none 0 0]), 2, 40) := by kernel_rfl
/-- Texts put behind an empty row of one's own: a row of one's own. -/
theorem copy_R {W : World} {g : Nat} {A : Option Addr} {c : Nat} {vs : List ByteArray} (hg : W.heap[g]? = some (.cells #[] 9 (0, 0))) (hsrc : Src W A vs.length (strs vs)) (hl : vs.length ≤ 1000000) :
    ∃ A1 c1 w2, (Builtin.append_ #[28, 28] 28 #[.slice (some ⟨g, 0, none⟩) 0 0, .slice A vs.length c]).run Tryd.prog W = .ok (.slice A1 vs.length c1) w2 ∧
      Kd.string.R 9 w2 g (fun k => g ≤ k) (.slice A1 vs.length c1) vs ∧ Below g W w2 := by
  have hml : maxLen = 9223372036854775807 := rfl
  have hglt := blk_lt hg
  have hown : W.ownsRow g 9 1 (.slice (some ⟨g, 0, none⟩) 0 0) 0 [] := ⟨rfl, .inr ⟨g, 0, #[], rfl, Nat.le_refl _, hg, Nat.le_refl _, by omega, rfl, rfl⟩⟩
  obtain ⟨i0, hi, hzz⟩ := Option.map_eq_some_iff.1 infoStr
  simp only [Prod.mk.injEq] at hzz
  obtain ⟨hz0, hz1, hz2⟩ := hzz
  by_cases h0 : vs.length = 0
  · obtain rfl : vs = [] := List.eq_nil_of_length_eq_zero h0
    refine ⟨some ⟨g, 0, none⟩, 0, W, ?_, ⟨fun k hk => by cases hk; exact Nat.le_refl _, [], hown, Reps.none _ _⟩, Below.refl _ _⟩
    cases A <;> simp [Builtin.append_, run_underlying Tryd.underlying28, sizeOf, typeInfo, hi, Builtin.lenOf, Builtin.firstCells, loadCells, loadCellsFrom, storeCells]
  · obtain ⟨u0, hu0⟩ : ∃ u, (strs vs)[0]? = some u := ⟨_, List.getElem?_eq_getElem (by rw [strs_len]; omega)⟩
    obtain ⟨ad, rfl, _⟩ := hsrc.rd 0 u0 hu0
    have hnews : ∀ j u, (strs vs)[j]? = some u → W.cell? (ad.add j) = some u := fun j u hj => by
      obtain ⟨ad', e, h⟩ := hsrc.rd j u hj
      cases e
      exact h
    obtain ⟨v', w', hrun, ho, hgr, _, hb⟩ := run_append_own_at (P := Tryd.prog) W g 28 28 9 i0 _ 1 16 Tryd.underlying28 hi hz0 hz1 hz2 rfl (by decide) (.slice (some ⟨g, 0, none⟩) 0 0) 0 [] hown ad vs.length c (strs vs) (by rw [strs_len, Nat.mul_one]) hnews (str_one vs) (by omega) (by omega) (by omega)
    rw [List.nil_append, Nat.zero_add] at ho
    have hk : ∀ k, v'.ownBlock = some k → g ≤ k := fun k hk => by
      rcases hb with hb | hb
      · rw [hb] at hk; cases hk; exact Nat.le_refl _
      · rw [hb] at hk; cases hk; omega
    have hR : Kd.string.R 9 w' g (fun k => g ≤ k) v' vs := ⟨hk, strs vs, ho, ⟨by rw [strs_len]; show vs.length = vs.length * 1; omega, fun j p hp => by
      have hj := (List.getElem?_eq_some_iff.1 hp).1
      have hs := strs_get vs j hj
      rw [List.getElem?_eq_getElem hj] at hp
      injection hp with hp
      show (List.drop (j * 1) (strs vs)).take 1 = [.string p]
      rw [Nat.mul_one, List.drop_eq_getElem_cons (by rw [strs_len]; exact hj)]
      have hs2 := (List.getElem?_eq_some_iff.1 hs).2
      rw [List.take_succ_cons, List.take_zero, hs2, hp]⟩⟩
    obtain ⟨A1, c1, hv⟩ := Kd.R_slice hR
    subst hv
    exact ⟨A1, c1, w', hrun, hR, ⟨hgr.os, hgr.tape, hgr.output, hgr.size, fun k hk => hgr.block k (Nat.lt_trans hk hglt) (fun e => by have := Option.some.inj e; simp only [] at this; exact absurd this (by omega))⟩⟩
def capS (r : Row) : S30 := ⟨r.name, r.vs⟩
theorem capsOf_any (w : World) (gl gm : Nat) (sv : Value) (rows : List Row) (h : CapS w gl gm sv (rows.map (·.name)) rows) (hnd : (rows.map (·.name)).Nodup) (hok : ∀ r ∈ rows, RowOk r) (hn : rows.length ≤ 1000) :
    Calls Tryd.prog 23 #[.pointer (some ⟨gl, 0, none⟩)] w fun e w' => ∃ v, e = .returned v ∧ k30.R 30 w' w.heap.size (fun _ => True) v (rows.map capS) ∧ Below w.heap.size w w' := by
  have HS := Aside0.mk h
  have HND := Aside0.mk hnd
  have HOK := Aside0.mk hok
  have HALL := Aside0.mk (all_any w gl gm sv rows h hn)
  clear h hnd hok
  go_enter Tryd.func23, Tryd.ntmps23
  go_wp2_with fail
  refine HALL.out.mono ?_
  rintro e w1 ⟨A1, c1, rfl, hsr, hb⟩
  have HSR := Aside0.mk hsr
  have HB1 := Aside0.mk hb
  clear hsr hb HALL
  go_wp2_with fail
  go_loopg [3, 9] (rows.length + 1) (fun kq v3 v9 w' => ∃ (j : Nat) (ov : Value), ov = v3 ∧ v9 = .int .i64 (j : Int) ∧ j ≤ rows.length ∧ Aside0 (kq + j = rows.length + 1) ∧ Aside0 (k30.R 30 w' w1.heap.size (fun _ => True) ov ((rows.take j).map capS)) ∧ Aside0 (Below w1.heap.size w1 w'))
  case atStart => exact ⟨0, _, rfl, rfl, Nat.zero_le _, ⟨by omega⟩, ⟨Kd.R_nil _ _ _ _ _⟩, ⟨Below.refl _ _⟩⟩
  case round =>
    have HS1 := Aside0.mk (HS.out.below HB1.out)
    obtain ⟨j, ov, hov, rfl, hj, HK, HO, HB⟩ := hrel
    subst hov
    cases gk with
    | zero => exact absurd HK.out (by omega)
    | succ k1 =>
      obtain ⟨wo, hwo⟩ : ∃ wo : World, wo = wr := ⟨_, rfl⟩
      subst hwo
      by_cases hlt : j < rows.length
      · have p1 : 0 ≤ (j : Int) := by omega
        have q1 : (j : Int) < (rows.length : Int) := by omega
        have c0 : decide ((j : Int) < (rows.length : Int)) = true := decide_eq_true q1
        have c1 : decide (j < rows.length) = true := decide_eq_true hlt
        have w1' : wrap64 ((j : Int) + 1) = (j : Int) + 1 := off.w64 (by omega) (by omega)
        obtain ⟨ad, rfl, hc⟩ := (Src.below HSR.out HB.out).rd j _ (strs_get _ j (by rw [List.length_map]; exact hlt))
        rw [List.getElem_map] at hc
        have HTK := Aside0.mk (show (rows.take (j + 1)).map capS = (rows.take j).map capS ++ [capS rows[j]] by rw [List.take_succ_eq_append_getElem hlt, List.map_append]; rfl)
        have hmem := List.getElem_mem hlt
        obtain ⟨r, hr⟩ : ∃ r, rows[j] = r := ⟨_, rfl⟩
        rw [hr] at hc HTK hmem
        have hro := HOK.out r hmem
        have hsl := (HS1.out.row r hmem).slc
        obtain ⟨Av, cv, hrv, _⟩ := Slc_shape hsl
        rw [strs_len] at hrv
        rw [hrv] at hsl
        obtain ⟨w2, hw2⟩ : ∃ w2, wo.alloc (.cells #[] 9 (0, 0)) = w2 := ⟨_, rfl⟩
        have hb2 : Below wo.heap.size wo w2 := by rw [← hw2]; exact below_alloc (Below.refl _ _) _
        have hg2 : w2.heap[wo.heap.size]? = some (.cells #[] 9 (0, 0)) := by rw [← hw2]; exact blk_new _ _
        have hb2w := below_step HB.out hb2
        have HGET := Aside0.mk (get_any w2 gl gm sv rows (HS1.out.below hb2w) HND.out r hmem (Nat.le_trans hro.name (by decide)))
        rw [hrv] at HGET
        have HB2 := Aside0.mk hb2
        have HG2 := Aside0.mk hg2
        have HSL := Aside0.mk (slc_src hsl)
        have HRO := Aside0.mk hro
        obtain ⟨ys, hys⟩ : ∃ ys, (rows.take j).map capS = ys := ⟨_, rfl⟩
        have HYL := Aside0.mk (show ys.length ≤ 1000 by rw [← hys, List.length_map, List.length_take]; omega)
        rw [hys] at HO HTK
        clear hr hmem hro hsl hrv hb2 hg2 hb2w hys
        go_wp2_with fail
        refine HGET.out.mono ?_
        rintro e w3 ⟨rfl, hb3⟩
        have HG3 := Aside0.mk ((hb3.block _ (blk_lt HG2.out)).trans HG2.out)
        have HB3 := Aside0.mk (below_step HB2.out hb3)
        have HBW3 := Aside0.mk (below_step HB.out (below_step HB2.out hb3))
        obtain ⟨A4, c4, w4, hr4, hR4, hb4⟩ := copy_R (c := cv) HG3.out (Src.below HSL.out HBW3.out) (by have := HRO.out.most; omega)
        have HR4 := Aside0.mk hr4
        have HRR4 := Aside0.mk hR4
        have HB4 := Aside0.mk (HB3.out.trans hb4)
        clear hb3 HGET hr4 hR4 hb4 HG3 hw2
        have HO4 := Aside0.mk (Kd.R_below HO.out HB4.out)
        have HBW4 := Aside0.mk (below_step HB.out HB4.out)
        have HLT := Aside0.mk (Kd.R_lt HO.out)
        have HM4 := Aside0.mk (show k30.M w4 w1.heap.size (fun k => wo.heap.size ≤ k) (capS r) [.string r.name, .slice A4 r.vs.length c4] from k30_mkM _ _ _ (capS r) (Kd.R_lower HRR4.out HB.out.size))
        go_wp2_with (first | ((with_reducible refine gate_builtin (b := .append) (xs := #[.tmp 15, .tmp 18]) rfl ?_); at_builtin; go_must (refine wpList_append_run rfl (.tmp 15) (.tmp 18) 28 rfl _ _ rfl rfl HR4.out ?_)) | ((with_reducible refine gate_builtin (b := .append) (xs := #[.tmp 13, .tmp 21]) rfl ?_); at_builtin; go_must (refine Kd.R_append k30 (w0 := w1) w1.heap.size rfl (.tmp 13) (.tmp 21) 22 30 (.agg #[.string ⟨#[]⟩, .slice none 0 0]) 40 rfl Tryd.underlying22 info30 rfl (by decide) (by decide) ov ys (capS r) [.string r.name, .slice A4 r.vs.length c4] (fun _ => True) (fun k => wo.heap.size ≤ k) rfl (by first | (go_simp; done) | (go_simp; rfl)) HM4.out (fun k hk => ⟨trivial, fun e => by have := HLT.out k e.symm; omega⟩) (fun _ _ => trivial) HO4.out HBW4.out HBW4.out.size (by have := HYL.out; omega) ?_); intro v7 w7 ho hb hg hat; go_must (have HO7 := Aside0.mk ho; have HB7 := Aside0.mk hb; clear ho hb hg hat)) | fail)
        go_roundg k1
        case measure => have := HK.out; omega
        case rel => exact ⟨j + 1, _, rfl, by go_num, hlt, ⟨by have := HK.out; omega⟩, ⟨by rw [HTK.out]; exact HO7.out⟩, HB7⟩
      · have c0 : decide ((j : Int) < (rows.length : Int)) = false := decide_eq_false (by omega)
        have c1 : decide (j < rows.length) = false := decide_eq_false hlt
        have HT := Aside0.mk (show rows.take j = rows from List.take_of_length_le (by omega))
        rw [HT.out] at HO
        go_wp2_with fail
        go_ret
        exact ⟨ov, rfl, Kd.R_lower HO.out HB1.out.size, below_step HB1.out HB.out⟩
end
end Go.Proofs.YtdobblddnfalcaaDoor.cap
