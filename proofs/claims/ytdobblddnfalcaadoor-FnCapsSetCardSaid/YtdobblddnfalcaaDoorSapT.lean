/- Capabilities: impl.ReadCaps; plain facts of the law FnCapsSet. Capabilities: the law FnCapsSet. -/
import Derived.Test.YtdobblddnfalcaaDoorSapQ
import Derived.Test.YtdobblddnfalcaaDoorMFnCapsSamex4
import Derived.Test.YtdobblddnfalcaaDoorPktG
namespace Go.Proofs.YtdobblddnfalcaaDoor.cap
section
open Go.RowKit Go.Proofs.YtdobblddnfalcaaDoorW.PrintWords Go.Proofs.YtdobblddnfalcaaDoorW.PrintLast Go.Proofs.YtdobblddnfalcaaDoorW.PrintMore Go.Proofs.YtdobblddnfalcaaDoor.off Go.Proofs.YtdobblddnfalcaaDoor.mapq Go.Proofs.YtdobblddnfalcaaDoor.PFnCapsWritten
set_option linter.unusedVariables false
set_option linter.unusedSimpArgs false
set_option maxHeartbeats 2000000
set_option maxRecDepth 100000
theorem jn_len (c : Int) (B : Nat) : ∀ (P : List (List Int)), (∀ p ∈ P, p.length ≤ B) → (jn c P).length ≤ P.length * (B + 1)
  | [], _ => by simp [jn]
  | a :: r, h => by
    have ht : ∀ (r : List (List Int)), (∀ p ∈ r, p.length ≤ B) → (jt c r).length ≤ r.length * (B + 1) := by
      intro r
      induction r with
      | nil => intro _; simp [jt]
      | cons b t ih =>
        intro h
        have h1 := h b List.mem_cons_self
        have h2 := ih (fun p hp => h p (List.mem_cons_of_mem _ hp))
        unfold jt at h2 ⊢
        rw [List.flatMap_cons, List.length_append, List.length_cons, List.length_cons, Nat.succ_mul]
        omega
    have h1 := h a List.mem_cons_self
    have h2 := ht r (fun p hp => h p (List.mem_cons_of_mem _ hp))
    unfold jn
    rw [List.length_append, List.length_cons, Nat.succ_mul]
    omega
theorem joinQ_size {q : List (ByteArray × List ByteArray)} (h : GoodQ q) : (joinB (itemsQ q)).size ≤ 1000000000 := by
  have h1 := jn_len 32 3000 ((itemsQ q).map bI) (fun p hp => by
    obtain ⟨s, hs, rfl⟩ := List.mem_map.1 hp
    rw [bI_len]
    exact h.size s hs)
  rw [← join_jn, bI_len, List.length_map] at h1
  have h2 := itemsQ_len q h.good
  have h3 := h.most
  have h4 : (itemsQ q).length ≤ 61000 := by omega
  have h5 := Nat.mul_le_mul_right 3001 h4
  omega
theorem itemsQ_ne {q : List (ByteArray × List ByteArray)} {n : ByteArray} {vs : List ByteArray} (h : (n, vs) ∈ q) : itemsQ q ≠ [] := by
  intro he
  have : ∀ s, s ∉ itemsQ q := fun s hs => by rw [he] at hs; cases hs
  have hi : ∀ s ∈ items n vs, s ∈ itemsQ q := fun s hs => List.mem_flatMap.2 ⟨(n, vs), h, hs⟩
  unfold items at hi
  by_cases hv : vs = []
  · rw [if_pos hv] at hi
    exact this _ (hi n (List.mem_singleton.2 rfl))
  · rw [if_neg hv] at hi
    cases vs with
    | nil => exact hv rfl
    | cons a r => exact this _ (hi _ (by rw [List.map_cons]; exact List.mem_cons_self))
theorem readCaps_any (w : World) (q : List (ByteArray × List ByteArray)) (hq : GoodQ q) (h0 : itemsQ q ≠ []) (b o c : Nat) (hC : (Kd.int .u8).C w (some ⟨b, o, none⟩) (bI (joinB (itemsQ q))).length (bI (joinB (itemsQ q)))) (hcc : (joinB (itemsQ q)).size ≤ c)
    (htab : ∀ W, Below w.heap.size w W → Lib.TabIs Tryd.prog W "bytes.asciiSpace" .u8 Lib.asciiSpaceTab) :
    Calls Tryd.prog 12 #[.slice (some ⟨b, o, none⟩) (joinB (itemsQ q)).size c] w fun e w' => ∃ (A : Option Addr) (l : List S30) (c' : Nat), e = .returned (.tuple #[.slice A l.length c', .bool true]) ∧ pairs l = q ∧ l.length ≤ c' ∧ Kd.C k30 w' A l.length l ∧ Below w.heap.size w w' := by
  have HQ := Aside0.mk hq
  have HDEC := Aside0.mk (fun W (hb : Below w.heap.size w W) gl gm h => decode_any w W hb gl gm h q hq h0 b o c hC hcc (joinQ_size hq) (htab W hb))
  clear hC hcc htab h0 hq
  go_enter Tryd.func12, Tryd.ntmps12
  go_wp2_with fail
  refine (newList_any _).mono ?_
  rintro e w1 ⟨gl, gm, rfl, hgl, hgm, hS, hb⟩
  have HL := Aside0.mk (show CapL w.heap.size w1 gl gm (.slice none 0 0) [] from ⟨hS, fun k hk => by
    simp [bl, own, Value.ownBlock] at hk
    rcases hk with rfl | rfl
    · exact hgl
    · exact hgm⟩)
  have HB1 := Aside0.mk hb
  clear hS hb hgl hgm
  go_wp2_with fail
  refine (HDEC.out _ HB1.out gl gm HL.out).mono ?_
  rintro e w2 ⟨rfl, sv, rows, hL, hs, hb⟩
  have HB2 := Aside0.mk hb
  have hgq : GoodQ (sig rows) := by rw [hs]; exact HQ.out
  have HCO := Aside0.mk (capsOf_any w2 gl gm sv rows hL.s hgq.names hgq.rowOk (by have := hgq.most; unfold sig at this; rw [List.length_map] at this; omega))
  have HS := Aside0.mk hs
  clear hL hs hb hgq HDEC HL
  go_wp2_with fail
  refine HCO.out.mono ?_
  rintro e w3 ⟨v, rfl, hR, hb⟩
  obtain ⟨A3, c3, hv, hc3, hC3⟩ := Kd.R_reads hR
  subst hv
  have HC3 := Aside0.mk hC3
  have HB3 := Aside0.mk (below_step HB2.out hb)
  have HCC := Aside0.mk hc3
  have HP := Aside0.mk (show pairs (rows.map capS) = q by
    rw [← HS.out]
    unfold pairs sig
    rw [List.map_map]
    rfl)
  clear hR hC3 hc3 hb
  go_wp2_with fail
  go_ret2
  exact ⟨A3, rows.map capS, c3, by rw [List.length_map]; rfl, HP.out, HCC.out, HC3.out, HB3.out⟩
theorem same_l0 (l : List ByteArray) (hl : l.length ≤ 2147483647) : ∀ (d i : Nat), i + d = l.length → ∃ F, ∀ k, F ≤ k → spec_SameTexts.l0 k l l (l.length : Int) (i : Int) = some true := by
  intro d
  induction d with
  | zero =>
    intro i hi
    refine ⟨1, fun k hk => ?_⟩
    obtain ⟨k1, rfl⟩ : ∃ k1, k = k1 + 1 := ⟨k - 1, by omega⟩
    rw [spec_SameTexts.l0, if_neg (by omega)]
  | succ d ih =>
    intro i hi
    obtain ⟨F, hF⟩ := ih (i + 1) (by omega)
    refine ⟨F + 1, fun k hk => ?_⟩
    obtain ⟨k1, rfl⟩ : ∃ k1, k = k1 + 1 := ⟨k - 1, by omega⟩
    rw [spec_SameTexts.l0, if_pos (by omega), if_pos (by omega), if_pos (by omega), if_pos (by omega), if_pos rfl, show wrap64 ((i : Int) + 1) = ((i + 1 : Nat) : Int) by unfold wrap64; omega]
    exact hF k1 (by omega)
theorem same_any (w : World) (A0 : Option Addr) (c0 : Nat) (A1 : Option Addr) (c1 : Nat) (l : List ByteArray) (hl : l.length ≤ 2147483647) (h0 : Kd.C Kd.string w A0 l.length l) (hc0 : l.length ≤ c0) (h1 : Kd.C Kd.string w A1 l.length l) (hc1 : l.length ≤ c1) :
    Calls Tryd.prog 13 #[.slice A0 l.length c0, .slice A1 l.length c1] w fun e w' => e = .returned (.bool true) ∧ Drawn0 w w' := by
  obtain ⟨F, hF⟩ := same_l0 l hl l.length 0 (by omega)
  refine spec_SameTexts.calls F A0 c0 l A1 c1 l true w h0 hc0 h1 hc1 ?_
  unfold spec_SameTexts.f
  rw [if_pos rfl]
  exact hF F (Nat.le_refl _)
end
section
open Go.RowKit Go.Proofs.YtdobblddnfalcaaDoorW.PrintWords Go.Proofs.YtdobblddnfalcaaDoorW.PrintLast Go.Proofs.YtdobblddnfalcaaDoorW.PrintMore Go.Proofs.YtdobblddnfalcaaDoor.off Go.Proofs.YtdobblddnfalcaaDoor.mapq Go.Proofs.YtdobblddnfalcaaDoor.PFnCapsWritten Go.Proofs.YtdobblddnfalcaaDoor.pkt
set_option linter.unusedVariables false
set_option linter.unusedSimpArgs false
set_option maxHeartbeats 2000000
set_option maxRecDepth 100000
theorem one_cap (W : World) (x : S30) (A : Option Addr) (c : Nat) (h : Kd.string.C W A x.f1.length x.f1) (hc : x.f1.length ≤ c) :
    Kd.C k30 (W.alloc (.cells #[.string x.f0, .slice A x.f1.length c] 30 (0, 0))) (some ⟨W.heap.size, 0, none⟩) [x].length [x] := by
  refine ⟨rfl, by show 1 ≤ _; decide, fun _ => ⟨_, rfl, fun j p hj => ?_⟩⟩
  have hp : j = 0 ∧ x = p := by
    cases j with
    | zero => exact ⟨rfl, by simpa using hj⟩
    | succ j => simp at hj
  obtain ⟨rfl, rfl⟩ := hp
  refine ⟨[.string x.f0, .slice A x.f1.length c], rfl, k30_mk _ x hc (Kd.C_below h (below_alloc (Below.refl _ _) _)), fun i u hu => ?_⟩
  match i, hu with
  | 0, hu => exact (blk_cell (blk_new W _) 0).trans hu
  | 1, hu => exact (blk_cell (blk_new W _) 1).trans hu
  | i + 2, hu => simp at hu
open Classical in
/-- How often a name was met. -/
noncomputable def cnt (n : ByteArray) (l : List S30) : Nat := if n ∈ l.map (fun y : S30 => y.f0) then 1 else 0
theorem fst_nodup {q : List (ByteArray × List ByteArray)} (h : (q.map Prod.fst).Nodup) {n : ByteArray} {a b : List ByteArray} (h1 : (n, a) ∈ q) (h2 : (n, b) ∈ q) : a = b := by
  induction q with
  | nil => cases h1
  | cons p t ih =>
    rw [List.map_cons, List.nodup_cons] at h
    rcases List.mem_cons.1 h1 with e1 | h1 <;> rcases List.mem_cons.1 h2 with e2 | h2
    · rw [← e1] at e2; injection e2 with _ e; exact e.symm
    · exact absurd (List.mem_map.2 ⟨_, h2, by rw [← e1]⟩) h.1
    · exact absurd (List.mem_map.2 ⟨_, h1, by rw [← e2]⟩) h.1
    · exact ih h.2 h1 h2
theorem take_not {l : List S30} (h : (l.map (·.f0)).Nodup) (j : Nat) (hj : j < l.length) : l[j].f0 ∉ (l.take j).map (·.f0) := by
  intro hm
  obtain ⟨y, hy, he⟩ := List.mem_map.1 hm
  obtain ⟨i, hi, hyi⟩ := List.getElem_of_mem hy
  rw [List.length_take] at hi
  rw [List.getElem_take] at hyi
  have h1 : (l.map (·.f0))[i]'(by rw [List.length_map]; omega) = (l.map (·.f0))[j]'(by rw [List.length_map]; exact hj) := by
    rw [List.getElem_map, List.getElem_map, hyi, he]
  have := (List.getElem_inj h).1 h1
  omega
theorem cnt_step (n : ByteArray) {l : List S30} (j : Nat) (hj : j < l.length) (hne : l[j].f0 ≠ n) : cnt n (l.take (j + 1)) = cnt n (l.take j) := by
  unfold cnt
  rw [List.take_succ_eq_append_getElem hj, List.map_append]
  have : (n ∈ (l.take j).map (·.f0) ++ [l[j]].map (·.f0)) ↔ n ∈ (l.take j).map (·.f0) := by
    rw [List.mem_append]
    refine ⟨fun h => h.elim id (fun h => absurd (by simpa using h) (Ne.symm hne)), .inl⟩
  by_cases h : n ∈ (l.take j).map (·.f0)
  · rw [if_pos h, if_pos (this.2 h)]
  · rw [if_neg h, if_neg (fun h' => h (this.1 h'))]
theorem cnt_met {l : List S30} (h : (l.map (·.f0)).Nodup) (j : Nat) (hj : j < l.length) : cnt l[j].f0 (l.take j) = 0 ∧ cnt l[j].f0 (l.take (j + 1)) = 1 := by
  unfold cnt
  refine ⟨if_neg (take_not h j hj), if_pos ?_⟩
  rw [List.take_succ_eq_append_getElem hj, List.map_append]
  exact List.mem_append_right _ (by simp)
theorem set_law (w : World) (A : Option Addr) (n cc : Nat) (l : List S30) (hC : Kd.C k30 w A l.length l) (hn : l.length = n) (hcc : n ≤ cc) (x : S30) (A2 : Option Addr) (c2 : Nat) (hX : Kd.string.C w A2 x.f1.length x.f1) (hc2 : x.f1.length ≤ c2) (a1 a2 a3 : Addr) (hE : Errs w a1 a2 a3)
    (htab : ∀ W, Below w.heap.size w W → Lib.TabIs Tryd.prog W "bytes.asciiSpace" .u8 Lib.asciiSpaceTab) :
    Calls Tryd.prog 4 #[.slice A n cc, .agg #[.string x.f0, .slice A2 x.f1.length c2]] w fun e w' => e = .returned (.bool true) ∧ Below w.heap.size w w' := by
  subst hn
  have HC := Aside0.mk hC
  have HX := Aside0.mk hX
  have HCX := Aside0.mk hc2
  have HTAB := Aside0.mk htab
  have HW := Aside0.mk (fun W (hb : Below w.heap.size w W) => pktWorks_any W a1 a2 a3 (hE.below hb))
  obtain ⟨F0, b0, hf0, hq0⟩ := fits_says l
  have HF := Aside0.mk (fun W (hb : Below w.heap.size w W) => laws_zzFits29.calls F0 A cc l b0 W (Kd.C_below HC.out hb) hcc (hf0 F0 (Nat.le_refl _)))
  obtain ⟨F1, b1, hf1, hq1⟩ := fits30_says x.f0 x.f1
  have HF3 := Aside0.mk (fun W (hb : Below w.heap.size w W) => laws_zzFits30.calls F1 x.f0 A2 c2 x.f1 b1 W (Kd.C_below HX.out hb) hc2 (hf1 F1 (Nat.le_refl _)))
  have HQ0 := Aside0.mk hq0
  have HQ1 := Aside0.mk hq1
  have HCC := Aside0.mk hcc
  clear hC hE hf0 hf1 hX hc2 htab hcc hq0 hq1
  go_enter Tryd.func4, Tryd.ntmps4
  go_wp2_with (first | ((with_reducible refine gate_dst (N := 3) rfl ?_); refine box_event ?hg (N := 3) ?hd (cs := #[.string x.f0, .slice A2 x.f1.length c2]) (t := 30) ?hr ?_; (case hd => rfl); (case hg => rfl); (case hr => first | (go_simp; done) | (go_simp; rfl)); intro g3 hg3 wb hbox hb; have BX1 := Aside0.mk hbox; have HB1 := Aside0.mk (show Below w.heap.size w wb from hb); clear hbox hb hg3) | fail)
  refine (HF.out _ HB1.out).mono ?_
  rintro e w2 ⟨rfl, hb⟩
  have HB2 := Aside0.mk (below_step HB1.out hb)
  have BX2 := Aside0.mk (blk_below BX1.out hb)
  clear hb HF HB1 BX1
  cases b0 with
  | false =>
    go_wp2_with fail
    go_ret
    exact ⟨rfl, HB2.out⟩
  | true =>
    have q0 := (blk_cell BX2.out 0).trans (show _ = some (Value.string x.f0) from rfl)
    have q1 := (blk_cell BX2.out 1).trans (show _ = some (Value.slice A2 x.f1.length c2) from rfl)
    go_wp2_with fail
    clear q0 q1
    refine (HF3.out _ HB2.out).mono ?_
    rintro e w3 ⟨rfl, hb⟩
    have HB3 := Aside0.mk (below_step HB2.out hb)
    have BX3 := Aside0.mk (blk_below BX2.out hb)
    clear hb HF3 HB2 BX2
    cases b1 with
    | false =>
      go_wp2_with fail
      go_ret
      exact ⟨rfl, HB3.out⟩
    | true =>
      obtain ⟨hl, hsm⟩ := HQ0.out (by trivial)
      obtain ⟨F2, b2, hf2, hq2⟩ := goods_says l hl hsm
      have HG := Aside0.mk (fun W (hb : Below w.heap.size w W) => spec_GoodCaps.calls F2 A cc l b2 W (Kd.C_below HC.out hb) HCC.out (hf2 F2 (Nat.le_refl _)))
      have HQ2 := Aside0.mk hq2
      obtain ⟨F4, b4, hf4, hq4⟩ := goods_says [x] (by show 1 ≤ _; decide) (fun y hy => by rw [List.mem_singleton.1 hy]; exact HQ1.out (by trivial))
      have HG4 := Aside0.mk (fun W (hb : Below w.heap.size w W) => spec_GoodCaps.calls F4 (some ⟨W.heap.size, 0, none⟩) 1 [x] b4 _ (one_cap W x A2 c2 (Kd.C_below HX.out hb) HCX.out) (Nat.le_refl _) (hf4 F4 (Nat.le_refl _)))
      have HQ4 := Aside0.mk hq4
      clear hl hsm hf2 hq2 hf4 hq4 HQ0 HQ1
      go_wp2_with fail
      refine (HG.out _ HB3.out).mono ?_
      rintro e w4 ⟨rfl, hb⟩
      have HB4 := Aside0.mk (below_step HB3.out hb)
      have BX4 := Aside0.mk (blk_below BX3.out hb)
      clear hb HG HB3 BX3
      cases b2 with
      | false =>
        go_wp2_with fail
        refine (HW.out _ HB4.out).mono ?_
        rintro e w5 ⟨rfl, hb⟩
        have HB5 := Aside0.mk (below_step HB4.out hb)
        clear hb
        go_wp2_with fail
        go_ret
        exact ⟨rfl, HB5.out⟩
      | true =>
        have HGD := Aside0.mk (HQ2.out (by trivial))
        have q0 := (blk_cell BX4.out 0).trans (show _ = some (Value.string x.f0) from rfl)
        have q1 := (blk_cell BX4.out 1).trans (show _ = some (Value.slice A2 x.f1.length c2) from rfl)
        clear HQ2
        go_wp2_with fail
        clear q0 q1
        refine (HG4.out _ HB4.out).mono ?_
        rintro e w5 ⟨rfl, hb⟩
        have hb5 := (below_alloc (Below.refl w4.heap.size w4) _).trans (hb.mono (below_alloc (Below.refl w4.heap.size w4) _).size)
        have HB5 := Aside0.mk (below_step HB4.out hb5)
        have BX5 := Aside0.mk (blk_below BX4.out hb5)
        clear hb hb5 HG4 HB4 BX4
        cases b4 with
        | false =>
          go_wp2_with fail
          refine (HW.out _ HB5.out).mono ?_
          rintro e w6 ⟨rfl, hb⟩
          have HB6 := Aside0.mk (below_step HB5.out hb)
          clear hb
          go_wp2_with fail
          go_ret
          exact ⟨rfl, HB6.out⟩
        | true =>
          have hgx : Good x.f0 x.f1 := (HQ4.out (by trivial)).good x (List.mem_singleton.2 rfl)
          have HSET := Aside0.mk (fun W (hb : Below w.heap.size w W) => setCap_any W A cc l (Kd.C_below HC.out hb) HGD.out x.f0 A2 c2 x.f1 (kstr_src (Kd.C_below HX.out hb)) hgx)
          have HGX := Aside0.mk hgx
          have q0 := (blk_cell BX5.out 0).trans (show _ = some (Value.string x.f0) from rfl)
          have q1 := (blk_cell BX5.out 1).trans (show _ = some (Value.slice A2 x.f1.length c2) from rfl)
          clear HQ4 hgx
          go_wp2_with fail
          clear q0 q1
          refine (HSET.out _ HB5.out).mono ?_
          rintro e w6 ⟨q, rfl, hst, hb⟩
          have HB6 := Aside0.mk (below_step HB5.out hb)
          have BX6 := Aside0.mk (blk_below BX5.out hb)
          obtain ⟨hgq, hmem⟩ := hst.good HGD.out HGX.out
          have hne := itemsQ_ne hmem
          have HGQ := Aside0.mk hgq
          have HMEM := Aside0.mk hmem
          have hsz := joinQ_size hgq
          have hcv := print_bytes (P := Tryd.prog) 9 35 5 Tryd.underlying9 Tryd.underlying35 Tryd.underlying5 (joinB (itemsQ q)) w6
          have hrb := Kd.C_of_reads (h1 := fun _ => rfl) (bytes_reads w6 5 (joinB (itemsQ q)) (by omega))
          have hbb := bytes_below (Below.refl w6.heap.size w6) (Nat.le_refl _) 5 (joinB (itemsQ q))
          have hgc := (grownCap_ge w6 (joinB (itemsQ q)).size 0 5)
          obtain ⟨w7, hw7⟩ : ∃ W1, Lib.bytesWorld w6 5 (joinB (itemsQ q)) = W1 := ⟨_, rfl⟩
          rw [hw7] at hcv hrb hbb
          have HB7 := Aside0.mk (below_step HB6.out hbb)
          have BX7 := Aside0.mk (blk_below BX6.out hbb)
          have HRC := Aside0.mk (readCaps_any w7 q hgq hne w6.heap.size 0 (grownCap w6 (joinB (itemsQ q)).size 0 5) (by rw [bI_len]; exact hrb) hgc (fun W hb => HTAB.out W (below_step HB7.out hb)))
          clear hst hb HSET HB5 BX5 hgq hmem hne hrb hbb hgc hsz BX6 HTAB hw7
          generalize joinB (itemsQ q) = s at hcv HRC
          generalize grownCap w6 s.size 0 5 = cs at hcv HRC
          go_wp2_with fail
          refine HRC.out.mono ?_
          rintro e w8 ⟨A8, lg, c8, rfl, hpq, hc8, hC8, hb⟩
          have HB8 := Aside0.mk (below_step HB7.out hb)
          have BX8 := Aside0.mk (blk_below BX7.out hb)
          have HC8 := Aside0.mk hC8
          have HND := Aside0.mk (show (lg.map (·.f0)).Nodup by
            have := HGQ.out.nd
            rw [← hpq] at this
            unfold pairs at this
            rw [List.map_map] at this
            exact this)
          have HIN := Aside0.mk (show ∀ y ∈ lg, y.f0 = x.f0 → y.f1 = x.f1 from fun y hy he => fst_nodup HGQ.out.nd (n := x.f0) (by rw [← hpq, ← he]; exact List.mem_map.2 ⟨y, hy, rfl⟩) HMEM.out)
          have HFO := Aside0.mk (show cnt x.f0 lg = 1 from if_pos (by
            have := HMEM.out
            rw [← hpq] at this
            obtain ⟨y, hy, he⟩ := List.mem_map.1 this
            injection he with h1 h2
            exact List.mem_map.2 ⟨y, hy, h1⟩))
          have hlg : lg.length ≤ 61 := by
            have := HGQ.out.most
            rw [← hpq] at this
            unfold pairs at this
            rwa [List.length_map] at this
          have HXL := Aside0.mk (show x.f1.length ≤ 1000 from HGX.out.args.most)
          have hcl : 0 ≤ c8 := by omega
          have HC8C := Aside0.mk hc8
          clear hb hpq hc8 hC8 HRC hcv HB7 BX7 HGQ HMEM HGD hcl
          go_wp2_with fail
          go_loopg [9, 50] (lg.length + 1) (fun kq v9 v50 w' => ∃ (j : Nat), v9 = .int .i64 (cnt x.f0 (lg.take j) : Int) ∧ v50 = .int .i64 (j : Int) ∧ j ≤ lg.length ∧ Aside0 (kq + j = lg.length + 1) ∧ Aside0 (Below w.heap.size w w') ∧ Aside0 (w'.heap[g3]? = some (.cells #[.string x.f0, .slice A2 x.f1.length c2] 30 (0, 0))) ∧ Aside0 (Kd.C k30 w' A8 lg.length lg))
          case atStart => exact ⟨0, by simp [cnt], rfl, Nat.zero_le _, ⟨by omega⟩, HB8, BX8, HC8⟩
          case round =>
            clear HB8 BX8 HC8
            obtain ⟨j, rfl, rfl, hj, HK, HB, BX, HCL⟩ := hrel
            cases gk with
            | zero => exact absurd HK.out (by omega)
            | succ k1 =>
              obtain ⟨wo, hwo⟩ : ∃ wo : World, wo = wr := ⟨_, rfl⟩
              subst hwo
              by_cases hlt : j < lg.length
              · have p1 : 0 ≤ (j : Int) := by omega
                have q1 : (j : Int) < (lg.length : Int) := by omega
                have c0 : decide ((j : Int) < (lg.length : Int)) = true := decide_eq_true q1
                have c1 : decide (j < lg.length) = true := decide_eq_true hlt
                have w1 : wrap64 ((j : Int) + 1) = (j : Int) + 1 := off.w64 (by omega) (by omega)
                obtain ⟨ad, A1, c1', e0, y0, y1, y2, y3⟩ := at_T30 HCL.out (j : Int) p1 q1
                subst e0
                rw [rd_list lg j hlt] at y0 y1 y2 y3
                rw [Int.toNat_natCast] at y0 y1
                have hin := HIN.out _ (List.getElem_mem hlt)
                have hstep := cnt_step x.f0 j hlt
                have hmet := cnt_met HND.out j hlt
                obtain ⟨y, hy⟩ : ∃ y, lg[j] = y := ⟨_, rfl⟩
                rw [hy] at y0 y1 y2 y3 hin hstep hmet
                have HY := Aside0.mk y3
                have HY2 := Aside0.mk y2
                have q0 := (blk_cell BX.out 0).trans (show _ = some (Value.string x.f0) from rfl)
                have q2 := (blk_cell BX.out 1).trans (show _ = some (Value.slice A2 x.f1.length c2) from rfl)
                have hglt := blk_lt BX.out
                clear hy y3 y2
                by_cases hnm : y.f0 = x.f0
                · have hy1 := hin hnm
                  rw [hnm] at hmet
                  rw [hnm] at y0
                  rw [hy1] at y1 HY HY2
                  obtain ⟨hm0, hm1⟩ := hmet
                  rw [hm0]
                  have HM1 := Aside0.mk hm1
                  have c2e : (x.f0.toList == x.f0.toList) = true := beq_self_eq_true _
                  clear hin hstep hm0 hm1
                  go_wp2_with fail
                  have HBe := Aside0.mk (below_alloc (Below.refl wo.heap.size wo) (.cells #[.string x.f0, .slice A1 x.f1.length c1'] 30 (0, 0)))
                  refine (same_any _ A1 c1' A2 c2 x.f1 (by have := HXL.out; omega) (Kd.C_below HY.out HBe.out) HY2.out (Kd.C_below (Kd.C_below HX.out HB.out) HBe.out) HCX.out).mono ?_
                  rintro e w5 ⟨rfl, hd⟩
                  have HB5 := Aside0.mk (below_step HBe.out hd.below)
                  have BX5 := Aside0.mk (blk_below BX.out HB5.out)
                  have HC5 := Aside0.mk (Kd.C_below HCL.out HB5.out)
                  have HB6 := Aside0.mk (below_step HB.out HB5.out)
                  clear hd HBe y0 y1 q0 q2
                  go_wp2_with fail
                  go_roundg k1
                  case measure => have := HK.out; omega
                  case rel => exact ⟨j + 1, by rw [HM1.out]; rfl, by go_num, hlt, ⟨by have := HK.out; omega⟩, HB6, BX5, HC5⟩
                · have c2e : (y.f0.toList == x.f0.toList) = false := by
                    cases h : (y.f0.toList == x.f0.toList) with
                    | false => rfl
                    | true => exact absurd (ByteArray.ext (Array.toList_inj.1 (by have := beq_iff_eq.1 h; rwa [ByteArray.toList_eq, ByteArray.toList_eq] at this))) hnm
                  have HST := Aside0.mk (hstep hnm)
                  clear hin hstep hmet
                  obtain ⟨m, hm⟩ : ∃ m, cnt x.f0 (lg.take j) = m := ⟨_, rfl⟩
                  rw [hm] at HST
                  rw [hm]
                  clear hm
                  go_wp2_with fail
                  have HBe := Aside0.mk (below_alloc (Below.refl wo.heap.size wo) (.cells #[.string y.f0, .slice A1 y.f1.length c1'] 30 (0, 0)))
                  have BX5 := Aside0.mk (blk_below BX.out HBe.out)
                  have HC5 := Aside0.mk (Kd.C_below HCL.out HBe.out)
                  have HB6 := Aside0.mk (below_step HB.out HBe.out)
                  clear HBe y0 y1 q0 q2
                  go_roundg k1
                  case measure => have := HK.out; omega
                  case rel => exact ⟨j + 1, by rw [HST.out], by go_num, hlt, ⟨by have := HK.out; omega⟩, HB6, BX5, HC5⟩
              · have c0 : decide ((j : Int) < (lg.length : Int)) = false := decide_eq_false (by omega)
                have c1 : decide (j < lg.length) = false := decide_eq_false hlt
                have HT := Aside0.mk (show cnt x.f0 (lg.take j) = 1 by rw [List.take_of_length_le (by omega)]; exact HFO.out)
                rw [HT.out]
                go_wp2_with fail
                refine (HW.out _ HB.out).mono ?_
                rintro e w5 ⟨rfl, hb⟩
                have HB5 := Aside0.mk (below_step HB.out hb)
                clear hb
                go_wp2_with fail
                go_ret
                exact ⟨rfl, HB5.out⟩
end
end Go.Proofs.YtdobblddnfalcaaDoor.cap
