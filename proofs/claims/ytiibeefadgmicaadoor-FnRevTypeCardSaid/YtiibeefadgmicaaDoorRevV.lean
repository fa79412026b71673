/- Revisions: names; the same parts; rvIs, rvBad. -/
import Derived.Test.YtiibeefadgmicaaDoorRevU
namespace Go.Proofs.YtiibeefadgmicaaDoor.rev
open Go.RowKit Go.Proofs.YtiibeefadgmicaaDoorW.PrintWords Go.Proofs.YtiibeefadgmicaaDoorW.PrintLast Go.Proofs.YtiibeefadgmicaaDoorW.PrintMore Go.Proofs.YtiibeefadgmicaaDoor.PFnRevSteps
set_option linter.unusedVariables false
set_option linter.unusedSimpArgs false
set_option maxHeartbeats 2000000
set_option maxRecDepth 100000
theorem sz_list (s : ByteArray) : s.data.toList.length = s.size := Array.length_toList
theorem bt_list (s : ByteArray) (i : Nat) (h : i < s.data.toList.length) : bt s (i : Int) = ((s.data.toList[i]).toNat : Int) := by
  unfold bt
  rw [dif_pos (by rw [Int.toNat_natCast, ← sz_list]; exact h)]
  rfl
def NameC (l : List UInt8) (i : Nat) : Prop := ∀ (j : Nat) (h : j < l.length), i ≤ j → isA l[j] = true ∧ (j = 0 → isL l[j] = true)
theorem isName_l0 (s : ByteArray) (hs : s.size ≤ 2147483647) : ∀ (d i k : Nat), i + d = s.size → d < k → ∃ b, spec_IsRevName.l0 k s (s.size : Int) (i : Int) = some b ∧ (b = true → NameC s.data.toList i ∧ s.size ≤ 1000 ∧ s.toList ≠ []) := by
  intro d
  induction d with
  | zero =>
    intro i k hi hk
    obtain ⟨k, rfl⟩ : ∃ m, k = m + 1 := ⟨k - 1, by omega⟩
    rw [spec_IsRevName.l0, if_neg (by omega)]
    by_cases he : s.toList = []
    · exact ⟨false, by rw [if_pos he], fun h => by cases h⟩
    · refine ⟨decide ((s.size : Int) ≤ 1000), by rw [if_neg he], fun h => ⟨fun j hj hij => ?_, by have := of_decide_eq_true h; omega, he⟩⟩
      rw [sz_list] at hj
      omega
  | succ d ih =>
    intro i k hi hk
    obtain ⟨k, rfl⟩ : ∃ m, k = m + 1 := ⟨k - 1, by omega⟩
    have hlt : i < s.data.toList.length := by rw [sz_list]; omega
    obtain ⟨b, h1, h2⟩ := ih (i + 1) k (by omega) (by omega)
    have hw : wrap64 ((i : Int) + 1) = ((i + 1 : Nat) : Int) := by rw [w64_id (by omega) (by omega)]; rfl
    rw [spec_IsRevName.l0, if_pos (by omega), if_pos (by omega), if_pos (by omega), bt_list s i hlt, hw, h1]
    obtain ⟨c, hc⟩ : ∃ c, s.data.toList[i] = c := ⟨_, rfl⟩
    rw [hc]
    have step : (b = true → NameC s.data.toList (i + 1) ∧ s.size ≤ 1000 ∧ s.toList ≠ []) → (isA c = true ∧ (i = 0 → isL c = true)) → (b = true → NameC s.data.toList i ∧ s.size ≤ 1000 ∧ s.toList ≠ []) := fun h ha hb => by
      obtain ⟨q1, q2, q3⟩ := h hb
      refine ⟨fun j hj hij => ?_, q2, q3⟩
      by_cases e : j = i
      · subst e
        rw [hc]
        exact ha
      · exact q1 j hj (by omega)
    have hLs : 97 ≤ c.toNat → c.toNat ≤ 122 → isL c = true := fun a b => by unfold isL; simp; omega
    have hDs : 48 ≤ c.toNat → c.toNat ≤ 57 → isD c = true := fun a b => by unfold isD; simp; omega
    by_cases c1 : ((c.toNat : Int)) ≥ 97
    · rw [if_pos c1]
      by_cases c2 : ((c.toNat : Int)) ≤ 122
      · rw [if_pos c2]
        have hL := hLs (by omega) (by omega)
        exact ⟨b, rfl, step h2 ⟨isL_A _ hL, fun _ => hL⟩⟩
      · rw [if_neg c2]
        by_cases c3 : ((c.toNat : Int)) ≥ 48
        · rw [if_pos c3]
          by_cases c4 : ((c.toNat : Int)) ≤ 57
          · omega
          · exact ⟨false, by rw [if_neg c4], fun h => by cases h⟩
        · exact ⟨false, by rw [if_neg c3], fun h => by cases h⟩
    · rw [if_neg c1]
      by_cases c3 : ((c.toNat : Int)) ≥ 48
      · rw [if_pos c3]
        by_cases c4 : ((c.toNat : Int)) ≤ 57
        · rw [if_pos c4]
          by_cases c5 : (i : Int) > 0
          · rw [if_pos c5]
            have hD := hDs (by omega) (by omega)
            exact ⟨b, rfl, step h2 ⟨isD_A _ hD, fun h => by omega⟩⟩
          · exact ⟨false, by rw [if_neg c5], fun h => by cases h⟩
        · exact ⟨false, by rw [if_neg c4], fun h => by cases h⟩
      · exact ⟨false, by rw [if_neg c3], fun h => by cases h⟩
/-- What spec.IsRevName says of a text. -/
structure IsName (l : List UInt8) : Prop where
  ne : l ≠ []
  a : ∀ x ∈ l, isA x = true
  len : l.length ≤ 1000
  first : ∃ c m, l = c :: m ∧ isL c = true
theorem isName_says (s : ByteArray) (hs : s.size ≤ 2147483647) : ∃ b, spec_IsRevName.f (s.size + 1) s = some b ∧ (b = true → IsName s.data.toList) := by
  obtain ⟨b, h1, h2⟩ := isName_l0 s hs s.size 0 (s.size + 1) (by omega) (by omega)
  refine ⟨b, h1, fun hb => ?_⟩
  obtain ⟨q1, q2, q3⟩ := h2 hb
  rw [ByteArray.toList_eq] at q3
  refine ⟨q3, fun x hx => ?_, by rw [sz_list]; exact q2, ?_⟩
  · obtain ⟨j, hj, rfl⟩ := List.getElem_of_mem hx
    exact (q1 j hj (Nat.zero_le _)).1
  · cases hl : s.data.toList with
    | nil => exact absurd hl q3
    | cons c m =>
      refine ⟨c, m, rfl, ?_⟩
      have := (q1 0 (by rw [hl]; simp) (Nat.le_refl _)).2 rfl
      simp only [hl, List.getElem_cons_zero] at this
      exact this
theorem rd_list (l : List S29) (j : Nat) (hj : j < l.length) : rd_T29 l (j : Int) = l[j] := by
  unfold rd_T29
  rw [Int.toNat_natCast, List.getD_eq_getElem?_getD, List.getElem?_eq_getElem hj]
  rfl
theorem same_l0 (l : List S29) (hl : l.length ≤ 2147483647) : ∀ (d i k : Nat), i + d = l.length → d < k → spec_SameParts.l0 k l l (l.length : Int) (i : Int) = some true := by
  intro d
  induction d with
  | zero =>
    intro i k hi hk
    obtain ⟨k, rfl⟩ : ∃ m, k = m + 1 := ⟨k - 1, by omega⟩
    rw [spec_SameParts.l0, if_neg (by omega)]
  | succ d ih =>
    intro i k hi hk
    obtain ⟨k, rfl⟩ : ∃ m, k = m + 1 := ⟨k - 1, by omega⟩
    have hw : wrap64 ((i : Int) + 1) = ((i + 1 : Nat) : Int) := by rw [w64_id (by omega) (by omega)]; rfl
    rw [spec_SameParts.l0, if_pos (by omega), if_pos (by omega), if_pos (by omega), if_pos (by omega), hw]
    simp only [beq_self_eq_true, Bool.not_true, Bool.or_false]
    rw [if_neg (by simp)]
    exact ih (i + 1) k (by omega) (by omega)
theorem same_says (l : List S29) (hl : l.length ≤ 2147483647) : spec_SameParts.f (l.length + 1) l l = some true := by
  unfold spec_SameParts.f
  rw [if_pos rfl]
  exact same_l0 l hl l.length 0 (l.length + 1) (by omega) (by omega)
theorem rvRef_any (l : List UInt8) (w : World) : Calls Tryd.prog 13 #[.string (txt l)] w fun e w' => e = .returned (s29 (told (.ref l))) ∧ Below w.heap.size w w' :=
  laws_rvRef.calls (txt l) _ _ _ _ w rfl
theorem drawn_below {w w' : World} (h : Drawn0 w w') : Below w.heap.size w w' := by
  obtain ⟨n, rfl⟩ := h
  exact pw_below_drewN (Below.refl _ _) n
theorem rvIs_any (w : World) (ea : Addr) (l : List UInt8) (rl : List Rev) (A : Option Addr) (n c : Nat) (hl : 0 < l.length) (hg : Good l) (hT : Tabs w ea) (hs : ∀ p, Script p ⟨false, ⟨0, []⟩, l⟩ rl true) (hF : Fine rl) (hrl : rl.length ≤ 1000) (hn : rl.length = n) (hc : n ≤ c) (hC : k29.C w A n (rl.map told)) :
    Calls Tryd.prog 11 #[.string (txt l), .slice A n c] w fun e w' => e = .returned (.bool true) ∧ Below w.heap.size w w' := by
  have hsz := txt_size l
  by_cases h100 : 100 < l.length
  · obtain ⟨s, hs⟩ : ∃ s, txt l = s := ⟨_, rfl⟩
    rw [hs] at hsz ⊢
    have c1 : decide ((100 : Int) < (s.size : Int)) = true := decide_eq_true (by omega)
    have c2 : decide (100 < s.size) = true := decide_eq_true (by omega)
    clear hC hs hsz
    go_enter Tryd.func11, Tryd.ntmps11
    go_wp2
    go_ret
    exact ⟨rfl, Below.refl _ _⟩
  · have HP := parseRev_any w ea l rl true hl (by omega) hg hT hs (fun _ => hF) hrl
    have HC := Aside0.mk hC
    have HN := Aside0.mk hn
    have HSA := Aside0.mk (fun (W : World) (A1 : Option Addr) (c1 : Nat) (h1 : k29.C W A1 n (rl.map told)) (h2 : n ≤ c1) (h3 : k29.C W A n (rl.map told)) => show Calls Tryd.prog 17 #[.slice A1 n c1, .slice A n c] W _ from by
      have hln : (rl.map told).length = n := by rw [List.length_map]; exact hn
      have := spec_SameParts.calls ((rl.map told).length + 1) A1 c1 (rl.map told) A c (rl.map told) true W (by rw [hln]; exact h1) (by rw [hln]; exact h2) (by rw [hln]; exact h3) (by rw [hln]; exact hc) (same_says _ (by rw [hln]; omega))
      rw [hln] at this
      exact this)
    obtain ⟨s, hs⟩ : ∃ s, txt l = s := ⟨_, rfl⟩
    rw [hs] at hsz HP ⊢
    have HP := Aside0.mk HP
    have c1 : decide ((100 : Int) < (s.size : Int)) = false := decide_eq_false (by omega)
    have c2 : decide (100 < s.size) = false := decide_eq_false (by omega)
    clear hC hs hsz hn
    go_enter Tryd.func11, Tryd.ntmps11
    go_wp2_with fail
    refine HP.out.mono ?_
    rintro e w1 ⟨hb1, hres⟩
    have HB1 := Aside0.mk hb1
    rw [if_pos rfl] at hres
    obtain ⟨A1, c1', rfl, hc1, hC1⟩ := hres
    rw [HN.out] at hc1 hC1 ⊢
    have HS1 := Aside0.mk (HSA.out w1 A1 c1' hC1 hc1 (Kd.C_below HC.out hb1))
    clear hb1 hc1 hC1 HP HSA
    go_wp2_with fail
    refine HS1.out.mono ?_
    rintro e w2 ⟨rfl, hd⟩
    have HB2 := Aside0.mk (below_step HB1.out (drawn_below hd))
    clear hd
    go_wp2_with fail
    go_ret
    exact ⟨rfl, HB2.out⟩
theorem good_of {l : List UInt8} (h : ∀ x ∈ l, isA x = true) : Good l := fun x hx => .inl (h x hx)
def master : List UInt8 := [109, 97, 115, 116, 101, 114]
theorem one_C (w : World) (x : S29) : k29.C (w.alloc (.cells #[.string x.f0, .string x.f1, .int .i64 x.f2, .bool x.f3] 29 (0, 0))) (some ⟨w.heap.size, 0, none⟩) 1 [x] := by
  refine ⟨rfl, by decide, fun _ => ⟨_, rfl, fun j p hj => ?_⟩⟩
  cases j with
  | succ j => cases hj
  | zero =>
    injection hj with hj
    subst hj
    refine ⟨[.string x.f0, .string x.f1, .int .i64 x.f2, .bool x.f3], rfl, k29_mk _ x, fun i u hi => ?_⟩
    have hb := blk_new w (.cells #[.string x.f0, .string x.f1, .int .i64 x.f2, .bool x.f3] 29 (0, 0))
    rw [show (⟨w.heap.size, 0, none⟩ : Addr).add (0 * k29.sz + i) = ⟨w.heap.size, i, none⟩ by rw [Nat.zero_mul, Nat.zero_add]; unfold Addr.add; by_cases e : i = 0 <;> simp [e]]
    rw [blk_cell hb i]
    simpa using hi
theorem rvBad_any (w : World) (ea : Addr) (l : List UInt8) (rl : List Rev) (hl : 0 < l.length) (hg : Good l) (hT : Tabs w ea) (hs : ∀ p, Script p ⟨false, ⟨0, []⟩, l⟩ rl false) (hrl : rl.length ≤ 1000) :
    Calls Tryd.prog 8 #[.string (txt l)] w fun e w' => e = .returned (.bool true) ∧ Below w.heap.size w w' := by
  have hsz := txt_size l
  by_cases h100 : 100 < l.length
  · obtain ⟨s, hs⟩ : ∃ s, txt l = s := ⟨_, rfl⟩
    rw [hs] at hsz ⊢
    have c1 : decide ((100 : Int) < (s.size : Int)) = true := decide_eq_true (by omega)
    have c2 : decide (100 < s.size) = true := decide_eq_true (by omega)
    clear hs hsz
    go_enter Tryd.func8, Tryd.ntmps8
    go_wp2
    go_ret
    exact ⟨rfl, Below.refl _ _⟩
  · have HP := parseRev_any w ea l rl false hl (by omega) hg hT hs (fun h => by cases h) hrl
    have HT := Aside0.mk hT
    obtain ⟨s, hs⟩ : ∃ s, txt l = s := ⟨_, rfl⟩
    rw [hs] at hsz HP ⊢
    have HP := Aside0.mk HP
    have c1 : decide ((100 : Int) < (s.size : Int)) = false := decide_eq_false (by omega)
    have c2 : decide (100 < s.size) = false := decide_eq_false (by omega)
    have HM := Aside0.mk (fun (W : World) (hT : Tabs W ea) (hC : k29.C W (some ⟨W.heap.size - 1, 0, none⟩) 1 [told (.ref master)]) => rvIs_any W ea master [.ref master] (some ⟨W.heap.size - 1, 0, none⟩) 1 1 (by decide) (good_of (by decide)) hT (fun p => by
      have := script_name (p := p) (c := ⟨0, []⟩) (nl := master) (tail := []) (rest := []) (b := true) (by decide) (by decide) (by decide) ends_nil (.inl rfl) (script_nil (before_back []))
      rw [List.append_nil] at this
      exact this) ⟨master, [], rfl, .inl (fun x hx => by cases hx)⟩ (by decide) rfl (Nat.le_refl 1) hC)
    have hmm : txt master = (⟨#[109, 97, 115, 116, 101, 114]⟩ : ByteArray) := rfl
    have HRF := Aside0.mk (rvRef_any master)
    rw [hmm] at HRF HM
    clear hs hsz hT hmm
    go_enter Tryd.func8, Tryd.ntmps8
    go_wp2_with fail
    refine HP.out.mono ?_
    rintro e w1 ⟨hb1, hres⟩
    rw [if_neg (by simp)] at hres
    obtain rfl := hres
    have HB1 := Aside0.mk hb1
    clear hb1 HP
    go_wp2_with fail
    refine (HRF.out _).mono ?_
    rintro e w2 ⟨rfl, hb2⟩
    have HB2 := Aside0.mk (below_step HB1.out hb2)
    obtain ⟨y, hy⟩ : ∃ y, told (.ref master) = y := ⟨_, rfl⟩
    rw [hy] at HM ⊢
    unfold s29
    clear hb2 HRF hy
    go_wp2_with fail
    have HC3 := Aside0.mk (one_C w2 y)
    have HB3 := Aside0.mk (below_alloc HB2.out (.cells #[.string y.f0, .string y.f1, .int .i64 y.f2, .bool y.f3] 29 (0, 0)))
    have hz3 : (w2.alloc (.cells #[.string y.f0, .string y.f1, .int .i64 y.f2, .bool y.f3] 29 (0, 0))).heap.size - 1 = w2.heap.size := by simp
    have HM3 := HM.out (w2.alloc (.cells #[.string y.f0, .string y.f1, .int .i64 y.f2, .bool y.f3] 29 (0, 0))) (HT.out.below HB3.out)
    rw [hz3] at HM3
    refine (HM3 HC3.out).mono ?_
    rintro e w4 ⟨rfl, hb4⟩
    have HB4 := Aside0.mk (below_step HB3.out hb4)
    clear hb4 HM3 hz3
    go_wp2_with fail
    go_ret
    exact ⟨rfl, HB4.out⟩
end Go.Proofs.YtiibeefadgmicaaDoor.rev
