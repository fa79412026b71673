/- Revisions: the law FnRevType. -/
import Derived.Test.YtiibeefadgmicaaDoorRevOpenL
namespace Go.Proofs.YtiibeefadgmicaaDoor.rev
open Go.RowKit Go.Proofs.YtiibeefadgmicaaDoorW.PrintWords Go.Proofs.YtiibeefadgmicaaDoorW.PrintLast Go.Proofs.YtiibeefadgmicaaDoorW.PrintMore Go.Proofs.YtiibeefadgmicaaDoor.PFnRevSteps
set_option linter.unusedVariables false
set_option linter.unusedSimpArgs false
set_option maxHeartbeats 2000000
set_option maxRecDepth 100000
theorem good_name {nl t : List UInt8} (h : IsName nl) (ht : ∀ x ∈ t, isA x = true ∨ isS x = true) : Good (nl ++ t) := good_app (good_of h.a) ht
theorem and_range (x : Int) : ∃ m : Nat, bits .and .i64 x 65535 = (m : Int) ∧ m ≤ 65535 := by
  refine ⟨(BitVec.ofInt 64 x &&& BitVec.ofInt 64 65535).toNat, ?_, ?_⟩
  · have h : (BitVec.ofInt 64 x &&& BitVec.ofInt 64 65535).toNat ≤ 65535 := by
      rw [BitVec.toNat_and]
      exact Nat.le_trans Nat.and_le_right (by decide)
    show IntKind.i64.wrap ((BitVec.ofInt 64 x &&& BitVec.ofInt 64 65535).toNat : Int) = ((BitVec.ofInt 64 x &&& BitVec.ofInt 64 65535).toNat : Int)
    generalize (BitVec.ofInt 64 x &&& BitVec.ofInt 64 65535).toNat = b at h ⊢
    exact wrap_small _ (by omega) (by omega)
  · rw [BitVec.toNat_and]
    exact Nat.le_trans Nat.and_le_right (by decide)
theorem two_C (w : World) (x y : S29) : k29.C (w.alloc (.cells #[.string x.f0, .string x.f1, .int .i64 x.f2, .bool x.f3, .string y.f0, .string y.f1, .int .i64 y.f2, .bool y.f3] 29 (0, 0))) (some ⟨w.heap.size, 0, none⟩) 2 [x, y] := by
  have hb := blk_new w (.cells #[.string x.f0, .string x.f1, .int .i64 x.f2, .bool x.f3, .string y.f0, .string y.f1, .int .i64 y.f2, .bool y.f3] 29 (0, 0))
  have ha : ∀ n : Nat, (⟨w.heap.size, 0, none⟩ : Addr).add n = ⟨w.heap.size, n, none⟩ := fun n => by unfold Addr.add; by_cases e : n = 0 <;> simp [e]
  refine ⟨rfl, by decide, fun _ => ⟨_, rfl, fun j p hj => ?_⟩⟩
  match j, hj with
  | 0, hj =>
    injection hj with hj
    subst hj
    refine ⟨[.string x.f0, .string x.f1, .int .i64 x.f2, .bool x.f3], rfl, k29_mk _ x, fun i u hi => ?_⟩
    rw [ha, blk_cell hb]
    match i, hi with
    | 0, hi => exact hi
    | 1, hi => exact hi
    | 2, hi => exact hi
    | 3, hi => exact hi
  | 1, hj =>
    have hj : y = p := Option.some.inj hj
    subst hj
    refine ⟨[.string y.f0, .string y.f1, .int .i64 y.f2, .bool y.f3], rfl, k29_mk _ y, fun i u hi => ?_⟩
    rw [ha, blk_cell hb]
    match i, hi with
    | 0, hi => exact hi
    | 1, hi => exact hi
    | 2, hi => exact hi
    | 3, hi => exact hi
theorem fine_kind (nl kl : List UInt8) : Fine [.ref nl, .ctype kl] :=
  ⟨_, _, rfl, .inl (fun x hx => .inr (.inr ⟨kl, List.mem_singleton.1 hx⟩))⟩
theorem kind_good {kl : List UInt8} (h : kl ∈ kinds) : ∀ x ∈ (94 :: 123 :: (kl ++ [125])), isA x = true ∨ isS x = true := by
  simp only [kinds, List.mem_cons, List.not_mem_nil, or_false] at h
  rcases h with rfl | rfl | rfl | rfl | rfl <;> decide
theorem kind_text (name : ByteArray) (kl : List UInt8) : name ++ (⟨#[94, 123]⟩ : ByteArray) ++ txt kl ++ (⟨#[125]⟩ : ByteArray) = txt (name.data.toList ++ (94 :: 123 :: (kl ++ [125]))) := by
  rw [ByteArray.append_assoc, ByteArray.append_assoc, ← txt_append, txt_list]
  rfl
theorem type_law (w : World) (ea : Addr) (name : ByteArray) (k : Int) (hT : Tabs w ea) :
    Calls Tryd.prog 5 #[.string name, .int .i64 k] w fun e w' => e = .returned (.bool true) ∧ Below w.heap.size w w' := by
  obtain ⟨m, hm, hmm⟩ := and_range k
  obtain ⟨j, hj⟩ : ∃ j, m % 5 = j := ⟨_, rfl⟩
  have htm : Int.tmod (m : Int) 5 = (j : Int) := by rw [← hj, Int.tmod_eq_emod_of_nonneg (by omega)]; rfl
  have hj5 : j < 5 := by rw [← hj]; exact Nat.mod_lt _ (by decide)
  have wj : wrap64 (j : Int) = (j : Int) := w64 (by omega) (by omega)
  clear hj hmm
  have HT := Aside0.mk hT
  clear hT
  by_cases h0 : name.size ≤ 2147483647
  · have c0 : decide ((2147483647 : Int) < (name.size : Int)) = false := decide_eq_false (by omega)
    have c00 : decide (2147483647 < name.size) = false := decide_eq_false (by omega)
    obtain ⟨b0, hb0, hq0⟩ := isName_says name h0
    have HN0 := Aside0.mk (fun W => spec_IsRevName.calls _ name b0 W hb0)
    clear hb0
    cases b0 with
    | false =>
      clear hq0
      go_enter Tryd.func5, Tryd.ntmps5
      go_wp2_with fail
      refine (HN0.out _).mono ?_
      rintro e w1 ⟨rfl, hd⟩
      have HB1 := Aside0.mk (drawn_below hd)
      clear hd
      go_wp2_with fail
      go_ret
      exact ⟨rfl, HB1.out⟩
    | true =>
      have hn0 := hq0 rfl
      clear hq0
      have z0 : name.size ≤ 1000 := by have := hn0.len; rwa [sz_list] at this
      have y0 : (name.size : Int) ≤ 8388608 := by omega
      have jj : j = 0 ∨ j = 1 ∨ j = 2 ∨ j = 3 ∨ j = 4 := by omega
      obtain ⟨y, hy⟩ : ∃ y, told (.ref name.data.toList) = y := ⟨_, rfl⟩
      have HRF := Aside0.mk (rvRef_any name.data.toList)
      rw [txt_list, hy] at HRF
      have ht : name ++ (⟨#[94, 123, 125]⟩ : ByteArray) = txt (name.data.toList ++ [94, 123, 125]) := by rw [← txt_append, txt_list]; rfl
      have HTG := Aside0.mk (fun (W : World) (b : Nat) (hT : Tabs W ea) (hC : k29.C W (some ⟨b, 0, none⟩) 2 [y, ⟨⟨#[67, 97, 114, 101, 116, 84, 121, 112, 101]⟩, ⟨#[116, 97, 103]⟩, 0, false⟩]) => show Calls Tryd.prog 11 #[.string (name ++ (⟨#[94, 123, 125]⟩ : ByteArray)), .slice (some ⟨b, 0, none⟩) 2 2] W (fun e w' => e = .returned (.bool true) ∧ Below W.heap.size W w') from by
        rw [ht]
        exact rvIs_any W ea _ [.ref name.data.toList, .ctype [116, 97, 103]] (some ⟨b, 0, none⟩) 2 2 (by rw [List.length_append]; simp) (good_name hn0 (by decide)) hT (fun p => script_name hn0.ne hn0.a (Nat.le_trans hn0.len (by decide)) (ends_cons (by decide)) (by first | exact .inr (.inr (.inl rfl)) | exact .inr (.inr (.inr rfl))) (script_tag (before_back _))) (fine_kind _ _) (by simp) rfl (Nat.le_refl 2) (by rw [show ([Rev.ref name.data.toList, .ctype [116, 97, 103]].map told) = [told (.ref name.data.toList), ⟨⟨#[67, 97, 114, 101, 116, 84, 121, 112, 101]⟩, ⟨#[116, 97, 103]⟩, 0, false⟩] from rfl, hy]; exact hC))
      have HKS := Aside0.mk (fun (kl : List UInt8) (hk : kl ∈ kinds) (W : World) (b : Nat) (hT : Tabs W ea) (hC : k29.C W (some ⟨b, 0, none⟩) 2 [y, ⟨⟨#[67, 97, 114, 101, 116, 84, 121, 112, 101]⟩, txt kl, 0, false⟩]) => show Calls Tryd.prog 11 #[.string (name ++ (⟨#[94, 123]⟩ : ByteArray) ++ txt kl ++ (⟨#[125]⟩ : ByteArray)), .slice (some ⟨b, 0, none⟩) 2 2] W (fun e w' => e = .returned (.bool true) ∧ Below W.heap.size W w') from by
        rw [kind_text]
        exact rvIs_any W ea _ [.ref name.data.toList, .ctype kl] (some ⟨b, 0, none⟩) 2 2 (by rw [List.length_append, List.length_cons]; omega) (good_name hn0 (kind_good hk)) hT (fun p => script_name hn0.ne hn0.a (Nat.le_trans hn0.len (by decide)) (ends_cons (by decide)) (by first | exact .inr (.inr (.inl rfl)) | exact .inr (.inr (.inr rfl))) (script_kind hk (before_back _))) (fine_kind _ _) (by simp) rfl (Nat.le_refl 2) (by rw [show ([Rev.ref name.data.toList, .ctype kl].map told) = [told (.ref name.data.toList), ⟨⟨#[67, 97, 114, 101, 116, 84, 121, 112, 101]⟩, txt kl, 0, false⟩] from rfl, hy]; exact hC))
      clear hn0 z0 h0 ht hy
      rcases jj with rfl | rfl | rfl | rfl | rfl
      · have HK := Aside0.mk (HKS.out [99, 111, 109, 109, 105, 116] (by decide))
        rw [show txt [99, 111, 109, 109, 105, 116] = (⟨#[99, 111, 109, 109, 105, 116]⟩ : ByteArray) from rfl] at HK
        clear HKS
        go_enter Tryd.func5, Tryd.ntmps5
        go_wp2_with fail
        refine (HN0.out _).mono ?_
        rintro e w1 ⟨rfl, hd⟩
        have HB1 := Aside0.mk (drawn_below hd)
        clear hd
        go_wp2_with fail
        refine (HRF.out _).mono ?_
        rintro e w2 ⟨rfl, hb2⟩
        have HB2 := Aside0.mk (below_step (below_alloc HB1.out _) hb2)
        clear hb2
        unfold s29
        go_wp2_with fail
        refine (HK.out _ _ (HT.out.below (below_alloc HB2.out _)) (two_C w2 y ⟨⟨#[67, 97, 114, 101, 116, 84, 121, 112, 101]⟩, ⟨#[99, 111, 109, 109, 105, 116]⟩, 0, false⟩)).mono ?_
        rintro e w4 ⟨rfl, hb4⟩
        have HB4 := Aside0.mk (below_step (below_alloc HB2.out _) hb4)
        clear hb4
        go_wp2_with fail
        refine (HRF.out _).mono ?_
        rintro e w5 ⟨rfl, hb5⟩
        have HB5 := Aside0.mk (below_step HB4.out hb5)
        clear hb5
        unfold s29
        go_wp2_with fail
        refine (HTG.out _ _ (HT.out.below (below_alloc HB5.out _)) (two_C w5 y ⟨⟨#[67, 97, 114, 101, 116, 84, 121, 112, 101]⟩, ⟨#[116, 97, 103]⟩, 0, false⟩)).mono ?_
        rintro e w7 ⟨rfl, hb7⟩
        have HB7 := Aside0.mk (below_step (below_alloc HB5.out _) hb7)
        clear hb7
        go_wp2_with fail
        go_ret
        exact ⟨rfl, HB7.out⟩
      · have HK := Aside0.mk (HKS.out [116, 114, 101, 101] (by decide))
        rw [show txt [116, 114, 101, 101] = (⟨#[116, 114, 101, 101]⟩ : ByteArray) from rfl] at HK
        clear HKS
        go_enter Tryd.func5, Tryd.ntmps5
        go_wp2_with fail
        refine (HN0.out _).mono ?_
        rintro e w1 ⟨rfl, hd⟩
        have HB1 := Aside0.mk (drawn_below hd)
        clear hd
        go_wp2_with fail
        refine (HRF.out _).mono ?_
        rintro e w2 ⟨rfl, hb2⟩
        have HB2 := Aside0.mk (below_step (below_alloc HB1.out _) hb2)
        clear hb2
        unfold s29
        go_wp2_with fail
        refine (HK.out _ _ (HT.out.below (below_alloc HB2.out _)) (two_C w2 y ⟨⟨#[67, 97, 114, 101, 116, 84, 121, 112, 101]⟩, ⟨#[116, 114, 101, 101]⟩, 0, false⟩)).mono ?_
        rintro e w4 ⟨rfl, hb4⟩
        have HB4 := Aside0.mk (below_step (below_alloc HB2.out _) hb4)
        clear hb4
        go_wp2_with fail
        refine (HRF.out _).mono ?_
        rintro e w5 ⟨rfl, hb5⟩
        have HB5 := Aside0.mk (below_step HB4.out hb5)
        clear hb5
        unfold s29
        go_wp2_with fail
        refine (HTG.out _ _ (HT.out.below (below_alloc HB5.out _)) (two_C w5 y ⟨⟨#[67, 97, 114, 101, 116, 84, 121, 112, 101]⟩, ⟨#[116, 97, 103]⟩, 0, false⟩)).mono ?_
        rintro e w7 ⟨rfl, hb7⟩
        have HB7 := Aside0.mk (below_step (below_alloc HB5.out _) hb7)
        clear hb7
        go_wp2_with fail
        go_ret
        exact ⟨rfl, HB7.out⟩
      · have HK := Aside0.mk (HKS.out [98, 108, 111, 98] (by decide))
        rw [show txt [98, 108, 111, 98] = (⟨#[98, 108, 111, 98]⟩ : ByteArray) from rfl] at HK
        clear HKS
        go_enter Tryd.func5, Tryd.ntmps5
        go_wp2_with fail
        refine (HN0.out _).mono ?_
        rintro e w1 ⟨rfl, hd⟩
        have HB1 := Aside0.mk (drawn_below hd)
        clear hd
        go_wp2_with fail
        refine (HRF.out _).mono ?_
        rintro e w2 ⟨rfl, hb2⟩
        have HB2 := Aside0.mk (below_step (below_alloc HB1.out _) hb2)
        clear hb2
        unfold s29
        go_wp2_with fail
        refine (HK.out _ _ (HT.out.below (below_alloc HB2.out _)) (two_C w2 y ⟨⟨#[67, 97, 114, 101, 116, 84, 121, 112, 101]⟩, ⟨#[98, 108, 111, 98]⟩, 0, false⟩)).mono ?_
        rintro e w4 ⟨rfl, hb4⟩
        have HB4 := Aside0.mk (below_step (below_alloc HB2.out _) hb4)
        clear hb4
        go_wp2_with fail
        refine (HRF.out _).mono ?_
        rintro e w5 ⟨rfl, hb5⟩
        have HB5 := Aside0.mk (below_step HB4.out hb5)
        clear hb5
        unfold s29
        go_wp2_with fail
        refine (HTG.out _ _ (HT.out.below (below_alloc HB5.out _)) (two_C w5 y ⟨⟨#[67, 97, 114, 101, 116, 84, 121, 112, 101]⟩, ⟨#[116, 97, 103]⟩, 0, false⟩)).mono ?_
        rintro e w7 ⟨rfl, hb7⟩
        have HB7 := Aside0.mk (below_step (below_alloc HB5.out _) hb7)
        clear hb7
        go_wp2_with fail
        go_ret
        exact ⟨rfl, HB7.out⟩
      · have HK := Aside0.mk (HKS.out [116, 97, 103] (by decide))
        rw [show txt [116, 97, 103] = (⟨#[116, 97, 103]⟩ : ByteArray) from rfl] at HK
        clear HKS
        go_enter Tryd.func5, Tryd.ntmps5
        go_wp2_with fail
        refine (HN0.out _).mono ?_
        rintro e w1 ⟨rfl, hd⟩
        have HB1 := Aside0.mk (drawn_below hd)
        clear hd
        go_wp2_with fail
        refine (HRF.out _).mono ?_
        rintro e w2 ⟨rfl, hb2⟩
        have HB2 := Aside0.mk (below_step (below_alloc HB1.out _) hb2)
        clear hb2
        unfold s29
        go_wp2_with fail
        refine (HK.out _ _ (HT.out.below (below_alloc HB2.out _)) (two_C w2 y ⟨⟨#[67, 97, 114, 101, 116, 84, 121, 112, 101]⟩, ⟨#[116, 97, 103]⟩, 0, false⟩)).mono ?_
        rintro e w4 ⟨rfl, hb4⟩
        have HB4 := Aside0.mk (below_step (below_alloc HB2.out _) hb4)
        clear hb4
        go_wp2_with fail
        refine (HRF.out _).mono ?_
        rintro e w5 ⟨rfl, hb5⟩
        have HB5 := Aside0.mk (below_step HB4.out hb5)
        clear hb5
        unfold s29
        go_wp2_with fail
        refine (HTG.out _ _ (HT.out.below (below_alloc HB5.out _)) (two_C w5 y ⟨⟨#[67, 97, 114, 101, 116, 84, 121, 112, 101]⟩, ⟨#[116, 97, 103]⟩, 0, false⟩)).mono ?_
        rintro e w7 ⟨rfl, hb7⟩
        have HB7 := Aside0.mk (below_step (below_alloc HB5.out _) hb7)
        clear hb7
        go_wp2_with fail
        go_ret
        exact ⟨rfl, HB7.out⟩
      · have HK := Aside0.mk (HKS.out [111, 98, 106, 101, 99, 116] (by decide))
        rw [show txt [111, 98, 106, 101, 99, 116] = (⟨#[111, 98, 106, 101, 99, 116]⟩ : ByteArray) from rfl] at HK
        clear HKS
        go_enter Tryd.func5, Tryd.ntmps5
        go_wp2_with fail
        refine (HN0.out _).mono ?_
        rintro e w1 ⟨rfl, hd⟩
        have HB1 := Aside0.mk (drawn_below hd)
        clear hd
        go_wp2_with fail
        refine (HRF.out _).mono ?_
        rintro e w2 ⟨rfl, hb2⟩
        have HB2 := Aside0.mk (below_step (below_alloc HB1.out _) hb2)
        clear hb2
        unfold s29
        go_wp2_with fail
        refine (HK.out _ _ (HT.out.below (below_alloc HB2.out _)) (two_C w2 y ⟨⟨#[67, 97, 114, 101, 116, 84, 121, 112, 101]⟩, ⟨#[111, 98, 106, 101, 99, 116]⟩, 0, false⟩)).mono ?_
        rintro e w4 ⟨rfl, hb4⟩
        have HB4 := Aside0.mk (below_step (below_alloc HB2.out _) hb4)
        clear hb4
        go_wp2_with fail
        refine (HRF.out _).mono ?_
        rintro e w5 ⟨rfl, hb5⟩
        have HB5 := Aside0.mk (below_step HB4.out hb5)
        clear hb5
        unfold s29
        go_wp2_with fail
        refine (HTG.out _ _ (HT.out.below (below_alloc HB5.out _)) (two_C w5 y ⟨⟨#[67, 97, 114, 101, 116, 84, 121, 112, 101]⟩, ⟨#[116, 97, 103]⟩, 0, false⟩)).mono ?_
        rintro e w7 ⟨rfl, hb7⟩
        have HB7 := Aside0.mk (below_step (below_alloc HB5.out _) hb7)
        clear hb7
        go_wp2_with fail
        go_ret
        exact ⟨rfl, HB7.out⟩
  · have c0 : decide ((2147483647 : Int) < (name.size : Int)) = true := decide_eq_true (by omega)
    have c00 : decide (2147483647 < name.size) = true := decide_eq_true (by omega)
    clear h0
    go_enter Tryd.func5, Tryd.ntmps5
    go_wp2
    go_ret
    exact ⟨rfl, Below.refl _ _⟩
end Go.Proofs.YtiibeefadgmicaaDoor.rev
