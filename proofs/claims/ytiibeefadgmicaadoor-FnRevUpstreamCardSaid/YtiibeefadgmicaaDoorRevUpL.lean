/- Revisions: the law FnRevUpstream. -/
import Derived.Test.YtiibeefadgmicaaDoorRevOpenL
namespace Go.Proofs.YtiibeefadgmicaaDoor.rev
open Go.RowKit Go.Proofs.YtiibeefadgmicaaDoorW.PrintWords Go.Proofs.YtiibeefadgmicaaDoorW.PrintLast Go.Proofs.YtiibeefadgmicaaDoorW.PrintMore Go.Proofs.YtiibeefadgmicaaDoor.PFnRevSteps
set_option linter.unusedVariables false
set_option linter.unusedSimpArgs false
set_option maxHeartbeats 2000000
set_option maxRecDepth 100000
/-- rvKinds: a name and a part of a kind. -/
theorem rvKinds_any (w : World) (ea : Addr) (l nl : List UInt8) (x : Rev) (kd : ByteArray) (hl : 0 < l.length) (hg : Good l) (hT : Tabs w ea) (hs : ∀ p, Script p ⟨false, ⟨0, []⟩, l⟩ [.ref nl, x] true) (hF : Fine [.ref nl, x]) (hk : (told x).f0 = kd) :
    Calls Tryd.prog 14 #[.string (txt l), .string (txt nl), .string kd] w fun e w' => e = .returned (.bool true) ∧ Below w.heap.size w w' := by
  have hsz := txt_size l
  by_cases h100 : 100 < l.length
  · obtain ⟨s, hs⟩ : ∃ s, txt l = s := ⟨_, rfl⟩
    rw [hs] at hsz ⊢
    have c1 : decide ((100 : Int) < (s.size : Int)) = true := decide_eq_true (by omega)
    have c2 : decide (100 < s.size) = true := decide_eq_true (by omega)
    clear hs hsz hk
    go_enter Tryd.func14, Tryd.ntmps14
    go_wp2
    go_ret
    exact ⟨rfl, Below.refl _ _⟩
  · have HP := parseRev_any w ea l [.ref nl, x] true hl (by omega) hg hT hs (fun _ => hF) (by simp)
    have HRF := Aside0.mk (fun W => show Calls Tryd.prog 13 #[.string (txt nl)] W (fun e w' => e = .returned (.agg #[.string ⟨#[82, 101, 102]⟩, .string (txt nl), .int .i64 0, .bool false]) ∧ Below W.heap.size W w') from rvRef_any nl W)
    have HEQ := Aside0.mk (fun W : World => eqA29 9998 W ⟨#[82, 101, 102]⟩ ⟨#[82, 101, 102]⟩ (txt nl) (txt nl) 0 0 false false)
    have HK := Aside0.mk hk
    obtain ⟨s, hs⟩ : ∃ s, txt l = s := ⟨_, rfl⟩
    rw [hs] at hsz HP ⊢
    have HP := Aside0.mk HP
    have c1 : decide ((100 : Int) < (s.size : Int)) = false := decide_eq_false (by omega)
    have c2 : decide (100 < s.size) = false := decide_eq_false (by omega)
    obtain ⟨sn, hsn⟩ : ∃ sn, txt nl = sn := ⟨_, rfl⟩
    have HSN := Aside0.mk hsn
    rw [hsn] at HRF HEQ ⊢
    clear hs hsz hk hT hsn
    go_enter Tryd.func14, Tryd.ntmps14
    go_wp2_with fail
    refine HP.out.mono ?_
    rintro e w1 ⟨hb1, hres⟩
    rw [if_pos rfl] at hres
    obtain ⟨A, c, rfl, hc, hC⟩ := hres
    have HB1 := Aside0.mk hb1
    obtain ⟨y, hy⟩ : ∃ y, told x = y := ⟨_, rfl⟩
    have HY := Aside0.mk hy
    have hk2 := HK.out
    rw [hy] at hk2
    have HC := Aside0.mk (show k29.C w1 A 2 [⟨⟨#[82, 101, 102]⟩, sn, 0, false⟩, y] from by
      have := hC
      rw [show ([Rev.ref nl, x].map told) = [⟨⟨#[82, 101, 102]⟩, sn, 0, false⟩, y] by rw [List.map_cons, List.map_cons, List.map_nil, hy, ← HSN.out]; rfl] at this
      exact this)
    obtain ⟨ad, rfl, p0, p1, p2, p3⟩ := at_T29 HC.out 0 (by decide) (by decide)
    obtain ⟨ad', e', q0, _⟩ := at_T29 HC.out 1 (by decide) (by decide)
    cases e'
    rw [show rd_T29 [⟨⟨#[82, 101, 102]⟩, sn, 0, false⟩, y] 0 = ⟨⟨#[82, 101, 102]⟩, sn, 0, false⟩ from rfl] at p0 p1 p2 p3
    rw [show rd_T29 [⟨⟨#[82, 101, 102]⟩, sn, 0, false⟩, y] 1 = y from rfl, hk2] at q0
    have e0 : ad.add ((0 : Int).toNat * 4) = ad := if_pos rfl
    rw [e0] at p0 p1 p2 p3
    have e1 : ad.add ((1 : Int).toNat * 4) = ⟨ad.block, ad.off + 4, none⟩ := by unfold Addr.add; rw [if_neg (by decide)]; rfl
    rw [e1] at q0
    rw [hy] at HY
    have P := Aside0.mk (And.intro p0 (And.intro p1 (And.intro p2 (And.intro p3 q0))))
    have BLK := Aside0.mk (World.block_lt_of_cell? w1 _ p0)
    clear hb1 hC hy HP HK hk2 e0 e1
    have heq : ∀ W : World, (Op.equalIn 10000 29 (.agg #[.string ⟨#[82, 101, 102]⟩, .string sn, .int .i64 0, .bool false]) (.agg #[.string ⟨#[82, 101, 102]⟩, .string sn, .int .i64 0, .bool false])).run Tryd.prog W = .ok true W := fun W => (HEQ.out W).trans (by simp)
    go_wp2_with fail
    refine start_ (n := 23) (S := fun w' => w'.cell? ad = some (.string ⟨#[82, 101, 102]⟩) ∧ w'.cell? ⟨ad.block, ad.off + 1, none⟩ = some (.string sn) ∧ w'.cell? ⟨ad.block, ad.off + 2, none⟩ = some (.int .i64 0) ∧ w'.cell? ⟨ad.block, ad.off + 3, none⟩ = some (.bool false) ∧ w'.cell? ⟨ad.block, ad.off + 4, none⟩ = some (.string kd)) (ds := []) #[false, false, false, false, false, false, false, false, false, false, false, false, false, false, false, false, false, false, false, false, false, false, false] (by kernel_rfl) rfl rfl ⟨p0, p1, p2, p3, q0⟩ (fun hHeld => ?_)
    refine pure_ (i := 0) (N := some 17) (v := ?_) (a' := ?_) #[true, false, false, false, false, false, false, false, false, false, false, false, false, false, false, false, false, false, false, false, false, false, false] rfl rfl (by kernel_rfl) (fun _ _ _ h => h) (Or.inl ⟨by rfl, ?_⟩) ?_ ?_
    rotate_left
    · intro w'
      go_simp
      with_reducible rfl
    rotate_left
    · simp only [Act.put, List.setIfInBounds_toArray, List.set_cons_zero, List.set_cons_succ, i64_w, i32_w]
      rfl
    refine pure_ (i := 1) (N := some 18) (v := ?_) (a' := ?_) #[true, true, false, false, false, false, false, false, false, false, false, false, false, false, false, false, false, false, false, false, false, false, false] rfl rfl (by kernel_rfl) (fun _ _ _ h => h) (Or.inl ⟨by rfl, ?_⟩) ?_ ?_
    rotate_left
    · intro w'
      go_simp
      with_reducible rfl
    rotate_left
    · simp only [Act.put, List.setIfInBounds_toArray, List.set_cons_zero, List.set_cons_succ, i64_w, i32_w]
      rfl
    refine pure_ (i := 2) (N := some 19) (v := ?_) (a' := ?_) #[true, true, true, false, false, false, false, false, false, false, false, false, false, false, false, false, false, false, false, false, false, false, false] rfl rfl (by kernel_rfl) (fun _ _ _ h => h) (Or.inl ⟨by rfl, ?_⟩) ?_ ?_
    rotate_left
    · intro w'
      go_simp
      with_reducible rfl
    rotate_left
    · simp only [Act.put, List.setIfInBounds_toArray, List.set_cons_zero, List.set_cons_succ, i64_w, i32_w]
      rfl
    refine pure_ (i := 3) (N := some 20) (v := ?_) (a' := ?_) #[true, true, true, true, false, false, false, false, false, false, false, false, false, false, false, false, false, false, false, false, false, false, false] rfl rfl (by kernel_rfl) (fun _ _ _ h => h) (Or.inl ⟨by rfl, ?_⟩) ?_ ?_
    rotate_left
    · intro w'
      go_simp
      with_reducible rfl
    rotate_left
    · simp only [Act.put, List.setIfInBounds_toArray, List.set_cons_zero, List.set_cons_succ, i64_w, i32_w]
      rfl
    refine pure_ (i := 4) (N := some 21) (v := ?_) (a' := ?_) #[true, true, true, true, true, false, false, false, false, false, false, false, false, false, false, false, false, false, false, false, false, false, false] rfl rfl (by kernel_rfl) (fun _ _ _ h => h) (Or.inl ⟨by rfl, ?_⟩) ?_ ?_
    rotate_left
    · intro w'
      go_simp
      with_reducible rfl
    rotate_left
    · simp only [Act.put, List.setIfInBounds_toArray, List.set_cons_zero, List.set_cons_succ, i64_w, i32_w]
      rfl
    refine pure_ (i := 5) (N := some 22) (v := ?_) (a' := ?_) #[true, true, true, true, true, true, false, false, false, false, false, false, false, false, false, false, false, false, false, false, false, false, false] rfl rfl (by kernel_rfl) (fun _ _ _ h => h) (Or.inl ⟨by rfl, ?_⟩) ?_ ?_
    rotate_left
    · intro w'
      go_simp
      with_reducible rfl
    rotate_left
    · simp only [Act.put, List.setIfInBounds_toArray, List.set_cons_zero, List.set_cons_succ, i64_w, i32_w]
      rfl
    refine pure_ (i := 6) (N := some 23) (v := ?_) (a' := ?_) #[true, true, true, true, true, true, true, false, false, false, false, false, false, false, false, false, false, false, false, false, false, false, false] rfl rfl (by kernel_rfl) (fun _ _ _ h => h) (Or.inl ⟨by rfl, ?_⟩) ?_ ?_
    rotate_left
    · intro w'
      go_simp
      with_reducible rfl
    rotate_left
    · simp only [Act.put, List.setIfInBounds_toArray, List.set_cons_zero, List.set_cons_succ, i64_w, i32_w]
      rfl
    refine pure_ (i := 7) (N := some 24) (v := ?_) (a' := ?_) #[true, true, true, true, true, true, true, true, false, false, false, false, false, false, false, false, false, false, false, false, false, false, false] rfl rfl (by kernel_rfl) (fun _ _ _ h => h) (Or.inl ⟨by rfl, ?_⟩) ?_ ?_
    rotate_left
    · intro w'
      go_simp
      with_reducible rfl
    rotate_left
    · simp only [Act.put, List.setIfInBounds_toArray, List.set_cons_zero, List.set_cons_succ, i64_w, i32_w]
      rfl
    refine pure_ (i := 8) (N := some 25) (v := ?_) (a' := ?_) #[true, true, true, true, true, true, true, true, true, false, false, false, false, false, false, false, false, false, false, false, false, false, false] rfl rfl (by kernel_rfl) (fun _ _ _ h => h) (Or.inl ⟨by rfl, ?_⟩) ?_ ?_
    rotate_left
    · intro w'
      go_simp
      with_reducible rfl
    rotate_left
    · simp only [Act.put, List.setIfInBounds_toArray, List.set_cons_zero, List.set_cons_succ, i64_w, i32_w]
      rfl
    refine pure_ (i := 10) (N := some 27) (v := ?_) (a' := ?_) #[true, true, true, true, true, true, true, true, true, false, true, false, false, false, false, false, false, false, false, false, false, false, false] rfl rfl (by kernel_rfl) (fun _ _ _ h => h) (Or.inl ⟨by rfl, ?_⟩) ?_ ?_
    rotate_left
    · intro w'
      go_simp
      with_reducible rfl
    rotate_left
    · simp only [Act.put, List.setIfInBounds_toArray, List.set_cons_zero, List.set_cons_succ, i64_w, i32_w]
      rfl
    refine take_ (i := 9) (N := some 26) (v := ?_) (a' := ?_) #[true, true, true, true, true, true, true, true, true, true, true, false, false, false, false, false, false, false, false, false, false, false, false] rfl rfl (by kernel_rfl) (fun _ _ _ h => h) (Or.inl ⟨by rfl, ?_⟩) hHeld ?_ ?_
    rotate_left
    · rintro w' ⟨s0, s1, s2, s3, s4⟩
      go_simp
      with_reducible rfl
    rotate_left
    · simp only [Act.put, List.setIfInBounds_toArray, List.set_cons_zero, List.set_cons_succ, i64_w, i32_w]
      rfl
    refine one_ (i := 11) (N := some 28) #[true, true, true, true, true, true, true, true, true, true, true, true, false, false, false, false, false, false, false, false, false, false, false] rfl rfl (by kernel_rfl) (by decide) (fun K hK => ?_)
    refine goes_ Tryd.func13 (by kernel_rfl) rfl #[.string sn] (by rfl) rfl rfl (by simp only [List.map_toArray, List.map_cons, List.map_nil]; rfl) ?_
    with_reducible refine (HRF.out _).mono ?_
    rintro e w2 ⟨rfl, hb2⟩
    refine ⟨_, rfl, ?_⟩
    have HB2 := Aside0.mk (below_step (show Below w.heap.size w w1.drew from below_drew HB1.out) hb2)
    have hbx : ∀ a v, w1.cell? a = some v → w2.cell? a = some v := fun a v h => (hb2.cell (World.block_lt_of_cell? w1.drew _ h)).trans h
    refine hK.out _ _ ⟨hbx _ _ p0, hbx _ _ p1, hbx _ _ p2, hbx _ _ p3, hbx _ _ q0⟩ (fun hHeld => ?_)
    clear hK K
    refine norm_ (a' := ?_) ?_ ?_
    rotate_left
    · show Act.put _ (some 28) _ = _
      simp only [Act.put, List.setIfInBounds_toArray, List.set_cons_zero, List.set_cons_succ, i64_w, i32_w]
      rfl
    refine pure_ (i := 12) (N := some 29) (v := ?_) (a' := ?_) #[true, true, true, true, true, true, true, true, true, true, true, true, true, false, false, false, false, false, false, false, false, false, false] rfl rfl (by kernel_rfl) (fun _ _ _ h => h) (Or.inl ⟨by rfl, ?_⟩) ?_ ?_
    rotate_left
    · intro w'
      go_simp
      with_reducible rfl
    rotate_left
    · simp only [Act.put, List.setIfInBounds_toArray, List.set_cons_zero, List.set_cons_succ, i64_w, i32_w]
      rfl
    refine pure_ (i := 13) (N := some 30) (v := ?_) (a' := ?_) #[true, true, true, true, true, true, true, true, true, true, true, true, true, true, false, false, false, false, false, false, false, false, false] rfl rfl (by kernel_rfl) (fun _ _ _ h => h) (Or.inl ⟨by rfl, ?_⟩) ?_ ?_
    rotate_left
    · intro w'
      go_simp
      with_reducible rfl
    rotate_left
    · simp only [Act.put, List.setIfInBounds_toArray, List.set_cons_zero, List.set_cons_succ, i64_w, i32_w]
      rfl
    refine pure_ (i := 14) (N := some 31) (v := ?_) (a' := ?_) #[true, true, true, true, true, true, true, true, true, true, true, true, true, true, true, false, false, false, false, false, false, false, false] rfl rfl (by kernel_rfl) (fun _ _ _ h => h) (Or.inl ⟨by rfl, ?_⟩) ?_ ?_
    rotate_left
    · intro w'
      go_simp
      with_reducible rfl
    rotate_left
    · simp only [Act.put, List.setIfInBounds_toArray, List.set_cons_zero, List.set_cons_succ, i64_w, i32_w]
      rfl
    refine pure_ (i := 15) (N := some 32) (v := ?_) (a' := ?_) #[true, true, true, true, true, true, true, true, true, true, true, true, true, true, true, true, false, false, false, false, false, false, false] rfl rfl (by kernel_rfl) (fun _ _ _ h => h) (Or.inl ⟨by rfl, ?_⟩) ?_ ?_
    rotate_left
    · intro w'
      go_simp
      with_reducible rfl
    rotate_left
    · simp only [Act.put, List.setIfInBounds_toArray, List.set_cons_zero, List.set_cons_succ, i64_w, i32_w]
      rfl
    refine pure_ (i := 16) (N := some 33) (v := ?_) (a' := ?_) #[true, true, true, true, true, true, true, true, true, true, true, true, true, true, true, true, true, false, false, false, false, false, false] rfl rfl (by kernel_rfl) (fun _ _ _ h => h) (Or.inl ⟨by rfl, ?_⟩) ?_ ?_
    rotate_left
    · intro w'
      go_simp
      with_reducible rfl
    rotate_left
    · simp only [Act.put, List.setIfInBounds_toArray, List.set_cons_zero, List.set_cons_succ, i64_w, i32_w]
      rfl
    refine pure_ (i := 17) (N := some 34) (v := ?_) (a' := ?_) #[true, true, true, true, true, true, true, true, true, true, true, true, true, true, true, true, true, true, false, false, false, false, false] rfl rfl (by kernel_rfl) (fun _ _ _ h => h) (Or.inl ⟨by rfl, ?_⟩) ?_ ?_
    rotate_left
    · intro w'
      go_simp
      with_reducible rfl
    rotate_left
    · simp only [Act.put, List.setIfInBounds_toArray, List.set_cons_zero, List.set_cons_succ, i64_w, i32_w]
      rfl
    refine pure_ (i := 19) (N := some 36) (v := ?_) (a' := ?_) #[true, true, true, true, true, true, true, true, true, true, true, true, true, true, true, true, true, true, false, true, false, false, false] rfl rfl (by kernel_rfl) (fun _ _ _ h => h) (Or.inl ⟨by rfl, ?_⟩) ?_ ?_
    rotate_left
    · intro w'
      go_simp
      with_reducible rfl
    rotate_left
    · simp only [Act.put, List.setIfInBounds_toArray, List.set_cons_zero, List.set_cons_succ, i64_w, i32_w]
      rfl
    refine take_ (i := 18) (N := some 35) (v := ?_) (a' := ?_) #[true, true, true, true, true, true, true, true, true, true, true, true, true, true, true, true, true, true, true, true, false, false, false] rfl rfl (by kernel_rfl) (fun _ _ _ h => h) (Or.inl ⟨by rfl, ?_⟩) hHeld ?_ ?_
    rotate_left
    · rintro w' ⟨s0, s1, s2, s3, s4⟩
      go_simp
      with_reducible rfl
    rotate_left
    · simp only [Act.put, List.setIfInBounds_toArray, List.set_cons_zero, List.set_cons_succ, i64_w, i32_w]
      rfl
    refine pure_ (i := 20) (N := some 37) (v := ?_) (a' := ?_) #[true, true, true, true, true, true, true, true, true, true, true, true, true, true, true, true, true, true, true, true, true, false, false] rfl rfl (by kernel_rfl) (fun _ _ _ h => h) (Or.inl ⟨by rfl, ?_⟩) ?_ ?_
    rotate_left
    · intro w'
      go_simp
      with_reducible rfl
    rotate_left
    · simp only [Act.put, List.setIfInBounds_toArray, List.set_cons_zero, List.set_cons_succ, i64_w, i32_w]
      rfl
    refine pure_ (i := 21) (N := some 38) (v := ?_) (a' := ?_) #[true, true, true, true, true, true, true, true, true, true, true, true, true, true, true, true, true, true, true, true, true, true, false] rfl rfl (by kernel_rfl) (fun _ _ _ h => h) (Or.inl ⟨by rfl, ?_⟩) ?_ ?_
    rotate_left
    · intro w'
      go_simp
      with_reducible rfl
    rotate_left
    · simp only [Act.put, List.setIfInBounds_toArray, List.set_cons_zero, List.set_cons_succ, i64_w, i32_w]
      rfl
    refine pure_ (i := 22) (N := some 6) (v := ?_) (a' := ?_) #[true, true, true, true, true, true, true, true, true, true, true, true, true, true, true, true, true, true, true, true, true, true, true] rfl rfl (by kernel_rfl) (fun _ _ _ h => h) (Or.inl ⟨by rfl, ?_⟩) ?_ ?_
    rotate_left
    · intro w'
      go_simp
      with_reducible rfl
    rotate_left
    · simp only [Act.put, List.setIfInBounds_toArray, List.set_cons_zero, List.set_cons_succ, i64_w, i32_w]
      rfl
    refine done_ (by kernel_rfl) ?_

    go_wp2_with fail
    go_ret
    exact ⟨rfl, HB2.out⟩
theorem good_name {nl t : List UInt8} (h : IsName nl) (ht : ∀ x ∈ t, isA x = true ∨ isS x = true) : Good (nl ++ t) := good_app (good_of h.a) ht
theorem up_law (w : World) (ea : Addr) (name : ByteArray) (hT : Tabs w ea) :
    Calls Tryd.prog 6 #[.string name] w fun e w' => e = .returned (.bool true) ∧ Below w.heap.size w w' := by
  have HT := Aside0.mk hT
  clear hT
  by_cases h0 : name.size ≤ 2147483647
  · have c0 : decide ((2147483647 : Int) < (name.size : Int)) = false := decide_eq_false (by omega)
    have c00 : decide (2147483647 < name.size) = false := decide_eq_false (by omega)
    obtain ⟨b0, hb0, hq0⟩ := isName_says name h0
    have HN0 := Aside0.mk (fun W => spec_IsRevName.calls _ name b0 W hb0)
    clear hb0
    cases b0 with
    | false =>
      clear hq0
      go_enter Tryd.func6, Tryd.ntmps6
      go_wp2_with fail
      refine (HN0.out _).mono ?_
      rintro e w1 ⟨rfl, hd⟩
      have HB1 := Aside0.mk (drawn_below hd)
      clear hd
      go_wp2_with fail
      go_ret
      exact ⟨rfl, HB1.out⟩
    | true =>
      have hn0 := hq0 rfl
      clear hq0
      have z0 : name.size ≤ 1000 := by have := hn0.len; rwa [sz_list] at this
      have y0 : (name.size : Int) ≤ 8388608 := by omega
      have e1 : name ++ (⟨#[64, 123, 117, 125]⟩ : ByteArray) = txt (name.data.toList ++ [64, 123, 117, 125]) := by rw [← txt_append, txt_list]; rfl
      have ye1 : (name.size : Int) + 4 ≤ 8388608 := by omega
      have HK1 := Aside0.mk (fun (W : World) (hT : Tabs W ea) => show Calls Tryd.prog 14 #[.string (name ++ (⟨#[64, 123, 117, 125]⟩ : ByteArray)), .string name, .string ⟨#[65, 116, 85, 112, 115, 116, 114, 101, 97, 109]⟩] W (fun e w' => e = .returned (.bool true) ∧ Below W.heap.size W w') from by
        have := rvKinds_any W ea (name.data.toList ++ [64, 123, 117, 125]) name.data.toList .up ⟨#[65, 116, 85, 112, 115, 116, 114, 101, 97, 109]⟩ (by rw [List.length_append]; simp) (good_name hn0 (by decide)) hT (fun p => script_name hn0.ne hn0.a (Nat.le_trans hn0.len (by decide)) (ends_cons (by decide)) (.inr (.inl rfl)) (script_u (before_back _))) ⟨_, _, rfl, .inr (.inl rfl)⟩ rfl
        rw [← e1, txt_list] at this
        exact this)
      have e2 : name ++ (⟨#[64, 123, 117, 112, 115, 116, 114, 101, 97, 109, 125]⟩ : ByteArray) = txt (name.data.toList ++ [64, 123, 117, 112, 115, 116, 114, 101, 97, 109, 125]) := by rw [← txt_append, txt_list]; rfl
      have ye2 : (name.size : Int) + 11 ≤ 8388608 := by omega
      have HK2 := Aside0.mk (fun (W : World) (hT : Tabs W ea) => show Calls Tryd.prog 14 #[.string (name ++ (⟨#[64, 123, 117, 112, 115, 116, 114, 101, 97, 109, 125]⟩ : ByteArray)), .string name, .string ⟨#[65, 116, 85, 112, 115, 116, 114, 101, 97, 109]⟩] W (fun e w' => e = .returned (.bool true) ∧ Below W.heap.size W w') from by
        have := rvKinds_any W ea (name.data.toList ++ [64, 123, 117, 112, 115, 116, 114, 101, 97, 109, 125]) name.data.toList .up ⟨#[65, 116, 85, 112, 115, 116, 114, 101, 97, 109]⟩ (by rw [List.length_append]; simp) (good_name hn0 (by decide)) hT (fun p => script_name hn0.ne hn0.a (Nat.le_trans hn0.len (by decide)) (ends_cons (by decide)) (.inr (.inl rfl)) (script_up (before_back _))) ⟨_, _, rfl, .inr (.inl rfl)⟩ rfl
        rw [← e2, txt_list] at this
        exact this)
      have e3 : name ++ (⟨#[64, 123, 112, 117, 115, 104, 125]⟩ : ByteArray) = txt (name.data.toList ++ [64, 123, 112, 117, 115, 104, 125]) := by rw [← txt_append, txt_list]; rfl
      have ye3 : (name.size : Int) + 7 ≤ 8388608 := by omega
      have HK3 := Aside0.mk (fun (W : World) (hT : Tabs W ea) => show Calls Tryd.prog 14 #[.string (name ++ (⟨#[64, 123, 112, 117, 115, 104, 125]⟩ : ByteArray)), .string name, .string ⟨#[65, 116, 80, 117, 115, 104]⟩] W (fun e w' => e = .returned (.bool true) ∧ Below W.heap.size W w') from by
        have := rvKinds_any W ea (name.data.toList ++ [64, 123, 112, 117, 115, 104, 125]) name.data.toList .push ⟨#[65, 116, 80, 117, 115, 104]⟩ (by rw [List.length_append]; simp) (good_name hn0 (by decide)) hT (fun p => script_name hn0.ne hn0.a (Nat.le_trans hn0.len (by decide)) (ends_cons (by decide)) (.inr (.inl rfl)) (script_push (before_back _))) ⟨_, _, rfl, .inr (.inr rfl)⟩ rfl
        rw [← e3, txt_list] at this
        exact this)
      clear e1 e2 e3 hn0 z0 h0
      go_enter Tryd.func6, Tryd.ntmps6
      go_wp2_with fail
      refine (HN0.out _).mono ?_
      rintro e w1 ⟨rfl, hd⟩
      have HB1 := Aside0.mk (drawn_below hd)
      clear hd
      go_wp2_with fail
      refine (HK1.out _ (HT.out.below HB1.out)).mono ?_
      rintro e w2 ⟨rfl, hb2⟩
      have HB2 := Aside0.mk (below_step HB1.out hb2)
      clear hb2
      go_wp2_with fail
      refine (HK2.out _ (HT.out.below HB2.out)).mono ?_
      rintro e w3 ⟨rfl, hb3⟩
      have HB3 := Aside0.mk (below_step HB2.out hb3)
      clear hb3
      go_wp2_with fail
      refine (HK3.out _ (HT.out.below HB3.out)).mono ?_
      rintro e w4 ⟨rfl, hb4⟩
      have HB4 := Aside0.mk (below_step HB3.out hb4)
      clear hb4
      go_wp2_with fail
      go_ret
      exact ⟨rfl, HB4.out⟩
  · have c0 : decide ((2147483647 : Int) < (name.size : Int)) = true := decide_eq_true (by omega)
    have c00 : decide (2147483647 < name.size) = true := decide_eq_true (by omega)
    clear h0
    go_enter Tryd.func6, Tryd.ntmps6
    go_wp2
    go_ret
    exact ⟨rfl, Below.refl _ _⟩
end Go.Proofs.YtiibeefadgmicaaDoor.rev
