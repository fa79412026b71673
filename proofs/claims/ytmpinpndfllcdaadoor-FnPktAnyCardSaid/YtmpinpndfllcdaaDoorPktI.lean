/- Packet lines: the law FnPktRead. -/
import Derived.Test.YtmpinpndfllcdaaDoorPktH
namespace Go.Proofs.YtmpinpndfllcdaaDoor.pkt
open Go.RowKit Go.Proofs.YtmpinpndfllcdaaDoorW.PrintWords Go.Proofs.YtmpinpndfllcdaaDoorW.PrintLast Go.Proofs.YtmpinpndfllcdaaDoorW.PrintMore Go.Proofs.YtmpinpndfllcdaaDoor.PFnPktRead
set_option linter.unusedVariables false
set_option linter.unusedSimpArgs false
set_option maxHeartbeats 2000000
set_option maxRecDepth 100000
theorem fits_loop (l : List (List Int)) (hl : l.length ≤ 2147483647) : ∀ (k j : Nat), j ≤ l.length → j + k = l.length + 1 → ∃ b, laws_zzFits19.l0 k l (l.length : Int) (j : Int) = some b
  | 0, j, hj, hk => by omega
  | k + 1, j, hj, hk => by
    rw [laws_zzFits19.l0]
    by_cases hlt : j < l.length
    · rw [if_pos (by omega), if_pos (by omega), if_pos (by omega)]
      split
      · exact ⟨_, rfl⟩
      · rw [w64 (by omega) (by omega)]
        exact fits_loop l hl k (j + 1) (by omega) (by omega)
    · rw [if_neg (by omega)]
      exact ⟨_, rfl⟩
theorem fits_says (l : List (List Int)) : laws_zzFits19.f (l.length + 1) l = some false ∨ (laws_zzFits19.f (l.length + 1) l = some true ∧ l.length ≤ 2147483647) := by
  unfold laws_zzFits19.f
  by_cases h : (l.length : Int) > 2147483647
  · rw [if_pos h]; exact .inl rfl
  · rw [if_neg h]
    obtain ⟨b, hb⟩ := fits_loop l (by omega) (l.length + 1) 0 (by omega) (by omega)
    cases b with
    | true => exact .inr ⟨hb, by omega⟩
    | false => exact .inl hb
theorem isErr_says {p : List Int} (hp : ∀ x ∈ p, 0 ≤ x ∧ x < 256) : spec_isErr.f p = some (isErr p) := by
  have hr : ∀ x ∈ ([69, 82, 82, 32] : List Int), 0 ≤ x ∧ x < 256 := by
    intro x hx
    simp at hx
    omega
  have he : ([69, 82, 82, 32] : List UInt8) = (strOfNums [69, 82, 82, 32]).toList := by decide +kernel
  unfold spec_isErr.f isErr
  by_cases h : 4 ≤ p.length
  · rw [if_pos (by omega), if_pos (by omega), he, strOf_eq (fun x hx => hp x (List.mem_of_mem_take hx)) hr]
  · rw [if_neg (by omega)]
    congr 1
    symm
    rw [beq_eq_false_iff_ne]
    intro he
    have := congrArg List.length he
    rw [List.length_take] at this
    simp at this
    omega
theorem good_loop (l : List (List Int)) (hl : l.length ≤ 2147483647) (hb : ∀ p ∈ l, ∀ x ∈ p, 0 ≤ x ∧ x < 256) : ∀ (k j : Nat), j ≤ l.length → j + k = l.length + 1 → spec_GoodLines.l0 k l l (l.length : Int) (j : Int) = some false ∨ (spec_GoodLines.l0 k l l (l.length : Int) (j : Int) = some true ∧ l.length ≤ 1000 ∧ ∀ p ∈ l.drop j, Good p)
  | 0, j, hj, hk => by omega
  | k + 1, j, hj, hk => by
    rw [spec_GoodLines.l0]
    by_cases hlt : j < l.length
    · rw [if_pos (by omega), if_pos (by omega), if_pos (by omega), rd_eq l j hlt]
      by_cases h1 : ((l[j]).length : Int) > 65516
      · rw [if_pos h1]; exact .inl rfl
      · rw [if_neg h1, isErr_says (hb _ (List.getElem_mem hlt)), Option.bind_some]
        by_cases h2 : isErr l[j] = true
        · rw [if_pos h2]; exact .inl rfl
        · rw [if_neg h2, w64 (by omega) (by omega)]
          rcases good_loop l hl hb k (j + 1) (by omega) (by omega) with h | ⟨h, h3, h4⟩
          · exact .inl h
          · refine .inr ⟨h, h3, fun p hp => ?_⟩
            rw [List.drop_eq_getElem_cons hlt] at hp
            rcases List.mem_cons.1 hp with rfl | hp
            · exact ⟨by omega, by simpa using h2⟩
            · exact h4 p hp
    · rw [if_neg (by omega)]
      by_cases h : (l.length : Int) ≤ 1000
      · rw [decide_eq_true h]
        refine .inr ⟨rfl, by omega, fun p hp => ?_⟩
        rw [List.drop_of_length_le (by omega)] at hp
        cases hp
      · rw [decide_eq_false h]; exact .inl rfl
theorem good_says (l : List (List Int)) (hl : l.length ≤ 2147483647) (hb : ∀ p ∈ l, ∀ x ∈ p, 0 ≤ x ∧ x < 256) : spec_GoodLines.f (l.length + 1) l = some false ∨ (spec_GoodLines.f (l.length + 1) l = some true ∧ l.length ≤ 1000 ∧ ∀ p ∈ l, Good p) := by
  have := good_loop l hl hb (l.length + 1) 0 (by omega) (by omega)
  rwa [List.drop_zero] at this
theorem same_loop (l : List (List Int)) (hl : l.length ≤ 2147483647) : ∀ (k j : Nat), j ≤ l.length → j + k = l.length + 1 → spec_SameLines.l0 k l l (l.length : Int) (j : Int) = some true
  | 0, j, hj, hk => by omega
  | k + 1, j, hj, hk => by
    rw [spec_SameLines.l0]
    by_cases hlt : j < l.length
    · rw [if_pos (by omega), if_pos (by omega), if_pos (by omega), if_pos (by omega), if_pos rfl, w64 (by omega) (by omega)]
      exact same_loop l hl k (j + 1) (by omega) (by omega)
    · rw [if_neg (by omega)]
theorem same_says (l : List (List Int)) (hl : l.length ≤ 2147483647) : spec_SameLines.f (l.length + 1) l l = some true := by
  unfold spec_SameLines.f
  rw [if_pos rfl]
  exact same_loop l hl (l.length + 1) 0 (by omega) (by omega)
theorem errAt_bad {bs : List Int} (h : errAt bs) : stp bs = .bad := by
  obtain ⟨n, h1, h2, h3, h4, h5⟩ := h
  unfold stp
  rw [if_neg (fun he => by rw [he] at h1; cases h1), h1]
  simp only [if_neg h2, if_neg h3, if_neg h4, if_pos h5]
theorem calm_plines : ∀ (k : Nat) (l : List (List Int)), (∀ p ∈ l, Good p) → Calm k (plines l)
  | 0, _, _ => trivial
  | k + 1, [], _ => by
    have h : stp (plines []) = .done := rfl
    exact ⟨fun he => (by rw [errAt_bad he] at h; cases h), fun p r hs => (by rw [h] at hs; cases hs)⟩
  | k + 1, a :: r, hg => by
    have h : stp (plines (a :: r)) = .line a (plines r) := stp_pline (hg a (by simp))
    refine ⟨fun he => (by rw [errAt_bad he] at h; cases h), fun p q hs => ?_⟩
    rw [h] at hs
    injection hs with h1 h2
    subst h1 h2
    exact calm_plines k r (fun p hp => hg p (by simp [hp]))
theorem pline_pos (p : List Int) : 1 ≤ (pline p).length := by
  unfold pline
  split
  · decide
  · rw [List.length_append]; show 1 ≤ 4 + p.length; omega
theorem plines_ge (l : List (List Int)) : l.length ≤ (plines l).length := by
  induction l with
  | nil => simp
  | cons a r ih =>
    rw [plines, List.length_append, List.length_cons]
    have := pline_pos a
    omega
theorem digit_bytes {d : Int} (h0 : 0 ≤ d) (h1 : d < 16) : 0 ≤ digit d ∧ digit d < 256 := by
  unfold digit
  split <;> omega
theorem pline_bytes {p : List Int} (hp : ∀ x ∈ p, 0 ≤ x ∧ x < 256) : ∀ x ∈ pline p, 0 ≤ x ∧ x < 256 := by
  intro x hx
  unfold pline at hx
  split at hx
  · simp at hx; omega
  · rcases List.mem_append.1 hx with h | h
    · unfold hexs at h
      simp only [List.mem_cons, List.mem_nil_iff, or_false] at h
      rcases h with rfl | rfl | rfl | rfl
      all_goals exact digit_bytes (by omega) (by omega)
    · exact hp x h
theorem plines_bytes (l : List (List Int)) (hb : ∀ p ∈ l, ∀ x ∈ p, 0 ≤ x ∧ x < 256) : ∀ x ∈ plines l, 0 ≤ x ∧ x < 256 := by
  induction l with
  | nil => intro x hx; cases hx
  | cons a r ih =>
    intro x hx
    rw [plines] at hx
    rcases List.mem_append.1 hx with h | h
    · exact pline_bytes (hb a (by simp)) x h
    · exact ih (fun p hp => hb p (by simp [hp])) x h
theorem read_law (w : World) (A : Option Addr) (c : Nat) (l : List (List Int)) (hC : kL.C w A l.length l) (hc : l.length ≤ c) (hb : ∀ p ∈ l, ∀ x ∈ p, 0 ≤ x ∧ x < 256) (a1 a2 a3 : Addr) (hE : Errs w a1 a2 a3) :
    Calls Tryd.prog 4 #[.slice A l.length c] w fun e w' => e = .returned (.bool true) ∧ Below w.heap.size w w' := by
  have HC := Aside0.mk hC
  have HE := Aside0.mk hE
  rcases fits_says l with hf | ⟨hf, hln⟩
  · have HF := Aside0.mk (laws_zzFits19.calls _ A c l _ w hC hc hf)
    clear hC hE hf HC HE hb
    go_enter Tryd.func4, Tryd.ntmps4
    go_wp2_with fail
    refine HF.out.mono ?_
    rintro e w1 ⟨rfl, ⟨n1, rfl⟩⟩
    go_wp2_with fail
    go_ret
    exact ⟨rfl, pw_below_drewN (Below.refl _ _) _⟩
  · have HF := Aside0.mk (laws_zzFits19.calls _ A c l _ w hC hc hf)
    rcases good_says l hln hb with hg | ⟨hg, hn, hgd⟩
    · have HG := fun n1 : Nat => spec_GoodLines.calls _ A c l _ (w.drewN n1) (Kd.C_drewN hC n1) hc hg
      have HW := fun n1 n2 : Nat => pktWorks_any (w.drewN (n1 + n2)) a1 a2 a3 (hE.below (pw_below_drewN (Below.refl _ _) _))
      clear hC hE hf HC HE hb hg
      go_enter Tryd.func4, Tryd.ntmps4
      go_wp2_with fail
      refine HF.out.mono ?_
      rintro e w1 ⟨rfl, ⟨n1, rfl⟩⟩
      go_wp2_with fail
      refine (HG n1).mono ?_
      rintro e w2 ⟨rfl, ⟨n2, rfl⟩⟩
      go_wp2_with fail
      refine (HW n1 n2).mono ?_
      rintro e w3 ⟨rfl, hb3⟩
      have HB3 := Aside0.mk (below_step (pw_below_drewN (Below.refl w.heap.size w) (n1 + n2)) hb3)
      clear HG HW hb3
      go_wp2_with fail
      go_ret
      exact ⟨rfl, HB3.out⟩
    · have HG := fun n1 : Nat => spec_GoodLines.calls _ A c l _ (w.drewN n1) (Kd.C_drewN hC n1) hc hg
      have HP := fun n1 n2 : Nat => packetLines_any (w.drewN (n1 + n2)) A c l (Kd.C_drewN hC (n1 + n2)) hc (fun p hp => (hgd p hp).1) hn
      obtain ⟨bs, hbs⟩ : ∃ bs, plines l = bs := ⟨_, rfl⟩
      have hbl : bs.length ≤ 65520 * 1000 := by
        have := plines_len l (fun p hp => (hgd p hp).1)
        rw [hbs] at this
        omega
      have hcalm : Calm (bs.length + 1) bs := by rw [← hbs]; exact calm_plines _ _ hgd
      have hrun : run (bs.length + 1) bs = (l, true) := by
        rw [← hbs]
        exact run_plines l _ hgd (by have := plines_ge l; omega)
      have hbb : ∀ x ∈ bs, 0 ≤ x ∧ x < 256 := by rw [← hbs]; exact plines_bytes l hb
      have HS := Aside0.mk (same_says l hln)
      simp only [hbs] at HP
      have HCM := Aside0.mk hcalm
      have HRN := Aside0.mk hrun
      have HBB := Aside0.mk hbb
      clear hC hE hf hb hg hgd hbs hcalm hrun hbb
      go_enter Tryd.func4, Tryd.ntmps4
      go_wp2_with fail
      refine HF.out.mono ?_
      rintro e w1 ⟨rfl, ⟨n1, rfl⟩⟩
      go_wp2_with fail
      refine (HG n1).mono ?_
      rintro e w2 ⟨rfl, ⟨n2, rfl⟩⟩
      go_wp2_with fail
      refine (HP n1 n2).mono ?_
      rintro e w3 ⟨A3, c3, rfl, hc3, hC3, hb3⟩
      have HB3 := Aside0.mk (below_step (pw_below_drewN (Below.refl w.heap.size w) (n1 + n2)) hb3)
      have HRL := Aside0.mk (readLines_any w3 A3 c3 bs a1 a2 a3 hC3 hc3 HBB.out (by omega) (HE.out.below HB3.out) (.inl HCM.out))
      unfold LinesPost at HRL
      rw [HRN.out] at HRL
      clear HF HG HP hb3 hC3
      go_wp2_with fail
      refine HRL.out.mono ?_
      rintro e w4 ⟨A4, c4, rfl, hc4, _, hC4, hb4⟩
      have HB4 := Aside0.mk (below_step HB3.out hb4)
      have HSM := Aside0.mk (spec_SameLines.calls _ A4 c4 l A c l _ w4 hC4 hc4 (Kd.C_below HC.out HB4.out) hc HS.out)
      clear HRL hb4 hC4
      go_wp2_with fail
      refine HSM.out.mono ?_
      rintro e w5 ⟨rfl, ⟨n5, rfl⟩⟩
      have HB5 := Aside0.mk (pw_below_drewN HB4.out n5)
      have HW := Aside0.mk (pktWorks_any (w4.drewN n5) a1 a2 a3 (HE.out.below HB5.out))
      go_wp2_with fail
      refine HW.out.mono ?_
      rintro e w6 ⟨rfl, hb6⟩
      have HB6 := Aside0.mk (below_step HB5.out hb6)
      clear hb6 HW HSM
      go_wp2_with fail
      go_ret
      exact ⟨rfl, HB6.out⟩
end Go.Proofs.YtmpinpndfllcdaaDoor.pkt
