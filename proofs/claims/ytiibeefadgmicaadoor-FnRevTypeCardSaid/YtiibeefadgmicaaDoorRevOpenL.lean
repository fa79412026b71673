/- Revisions: the law FnRevOpen. -/
import Derived.Test.YtiibeefadgmicaaDoorRevV
namespace Go.Proofs.YtiibeefadgmicaaDoor.rev
open Go.RowKit Go.Proofs.YtiibeefadgmicaaDoorW.PrintWords Go.Proofs.YtiibeefadgmicaaDoorW.PrintLast Go.Proofs.YtiibeefadgmicaaDoorW.PrintMore Go.Proofs.YtiibeefadgmicaaDoor.PFnRevSteps
set_option linter.unusedVariables false
set_option linter.unusedSimpArgs false
set_option maxHeartbeats 2000000
set_option maxRecDepth 100000
theorem good_app {a b : List UInt8} (ha : Good a) (hb : Good b) : Good (a ++ b) := fun x hx => (List.mem_append.1 hx).elim (ha x) (hb x)
theorem open_law (w : World) (ea : Addr) (name word : ByteArray) (hT : Tabs w ea) :
    Calls Tryd.prog 3 #[.string name, .string word] w fun e w' => e = .returned (.bool true) ∧ Below w.heap.size w w' := by
  have HT := Aside0.mk hT
  clear hT
  by_cases h0 : name.size ≤ 2147483647
  · have c0 : decide ((2147483647 : Int) < (name.size : Int)) = false := decide_eq_false (by omega)
    have c00 : decide (2147483647 < name.size) = false := decide_eq_false (by omega)
    by_cases h1 : word.size ≤ 2147483647
    · have c1 : decide ((2147483647 : Int) < (word.size : Int)) = false := decide_eq_false (by omega)
      have c11 : decide (2147483647 < word.size) = false := decide_eq_false (by omega)
      obtain ⟨b0, hb0, hq0⟩ := isName_says name h0
      obtain ⟨b1, hb1, hq1⟩ := isName_says word h1
      have HN0 := Aside0.mk (fun W => spec_IsRevName.calls _ name b0 W hb0)
      have HN1 := Aside0.mk (fun W => spec_IsRevName.calls _ word b1 W hb1)
      clear hb0 hb1
      cases b0 with
      | false =>
        clear hq0 hq1
        go_enter Tryd.func3, Tryd.ntmps3
        go_wp2_with fail
        refine (HN0.out _).mono ?_
        rintro e w1 ⟨rfl, hd⟩
        have HB1 := Aside0.mk (drawn_below hd)
        clear hd
        go_wp2_with fail
        go_ret
        exact ⟨rfl, HB1.out⟩
      | true =>
        have hn0 := hq0 rfl
        clear hq0
        cases b1 with
        | false =>
          clear hq1
          go_enter Tryd.func3, Tryd.ntmps3
          go_wp2_with fail
          refine (HN0.out _).mono ?_
          rintro e w1 ⟨rfl, hd⟩
          have HB1 := Aside0.mk (drawn_below hd)
          clear hd
          go_wp2_with fail
          refine (HN1.out _).mono ?_
          rintro e w2 ⟨rfl, hd⟩
          have HB2 := Aside0.mk (below_step HB1.out (drawn_below hd))
          clear hd
          go_wp2_with fail
          go_ret
          exact ⟨rfl, HB2.out⟩
        | true =>
          have hn1 := hq1 rfl
          clear hq1
          obtain ⟨c, m, hcm, hcl⟩ := hn1.first
          have hmA : ∀ x ∈ m, isA x = true := fun x hx => hn1.a x (by rw [hcm]; exact .tail _ hx)
          have hml : m.length ≤ 999 := by have := hn1.len; rw [hcm, List.length_cons] at this; omega
          have z0 : name.size ≤ 1000 := by have := hn0.len; rwa [sz_list] at this
          have z1 : word.size ≤ 1000 := by have := hn1.len; rwa [sz_list] at this
          have e1 : name ++ (⟨#[94, 123]⟩ : ByteArray) ++ word = txt (name.data.toList ++ 94 :: 123 :: c :: m) := by
            rw [show (94 :: 123 :: c :: m : List UInt8) = [94, 123] ++ word.data.toList by rw [hcm]; rfl, ← txt_append, ← txt_append, txt_list, txt_list, show txt [94, 123] = (⟨#[94, 123]⟩ : ByteArray) from rfl]
            apply ByteArray.ext
            simp [ByteArray.data_append, Array.append_assoc]
          have e2 : name ++ (⟨#[64, 123]⟩ : ByteArray) ++ word = txt (name.data.toList ++ 64 :: 123 :: c :: m) := by
            rw [show (64 :: 123 :: c :: m : List UInt8) = [64, 123] ++ word.data.toList by rw [hcm]; rfl, ← txt_append, ← txt_append, txt_list, txt_list, show txt [64, 123] = (⟨#[64, 123]⟩ : ByteArray) from rfl]
            apply ByteArray.ext
            simp [ByteArray.data_append, Array.append_assoc]
          have g1 : ∀ s1 s2 : UInt8, isS s1 = true → isS s2 = true → Good (name.data.toList ++ s1 :: s2 :: c :: m) := fun s1 s2 h1 h2 => good_app (good_of hn0.a) (fun x hx => by
            rcases List.mem_cons.1 hx with rfl | hx
            · exact .inr h1
            · rcases List.mem_cons.1 hx with rfl | hx
              · exact .inr h2
              · exact .inl (hn1.a x (by rw [hcm]; exact hx)))
          have HR1 := Aside0.mk (fun (W : World) (hT : Tabs W ea) => show Calls Tryd.prog 8 #[.string (name ++ (⟨#[94, 123]⟩ : ByteArray) ++ word)] W _ from by
            rw [e1]
            exact rvBad_any W ea _ [.ref name.data.toList] (by rw [List.length_append, List.length_cons]; omega) (g1 94 123 (by decide) (by decide)) hT (fun p => script_name hn0.ne hn0.a (Nat.le_trans hn0.len (by decide)) (ends_cons (by decide)) (by rw [nx_sym (by decide)]; exact .inr (.inr (.inr rfl))) (script_bad1 hcl hmA (before_back _))) (by simp))
          have HR2 := Aside0.mk (fun (W : World) (hT : Tabs W ea) => show Calls Tryd.prog 8 #[.string (name ++ (⟨#[64, 123]⟩ : ByteArray) ++ word)] W _ from by
            rw [e2]
            exact rvBad_any W ea _ [.ref name.data.toList] (by rw [List.length_append, List.length_cons]; omega) (g1 64 123 (by decide) (by decide)) hT (fun p => script_name hn0.ne hn0.a (Nat.le_trans hn0.len (by decide)) (ends_cons (by decide)) (by rw [nx_sym (by decide)]; exact .inr (.inl rfl)) (script_bad2 hcl hmA (by omega) (before_back _))) (by simp))
          have y0 : (name.size : Int) ≤ 8388608 := by omega
          have y1 : (name.size : Int) + 2 ≤ 8388608 := by omega
          have y2 : (name.size : Int) + 2 + (word.size : Int) ≤ 8388608 := by omega
          clear e1 e2 g1 hcm hcl hmA hml hn0 hn1 z0 z1 h0 h1
          go_enter Tryd.func3, Tryd.ntmps3
          go_wp2_with fail
          refine (HN0.out _).mono ?_
          rintro e w1 ⟨rfl, hd⟩
          have HB1 := Aside0.mk (drawn_below hd)
          clear hd
          go_wp2_with fail
          refine (HN1.out _).mono ?_
          rintro e w2 ⟨rfl, hd⟩
          have HB2 := Aside0.mk (below_step HB1.out (drawn_below hd))
          clear hd
          go_wp2_with fail
          refine (HR1.out _ (HT.out.below HB2.out)).mono ?_
          rintro e w3 ⟨rfl, hb3⟩
          have HB3 := Aside0.mk (below_step HB2.out hb3)
          clear hb3
          go_wp2_with fail
          refine (HR2.out _ (HT.out.below HB3.out)).mono ?_
          rintro e w4 ⟨rfl, hb4⟩
          have HB4 := Aside0.mk (below_step HB3.out hb4)
          clear hb4
          go_wp2_with fail
          go_ret
          exact ⟨rfl, HB4.out⟩
    · have c1 : decide ((2147483647 : Int) < (word.size : Int)) = true := decide_eq_true (by omega)
      have c11 : decide (2147483647 < word.size) = true := decide_eq_true (by omega)
      clear h0 h1
      go_enter Tryd.func3, Tryd.ntmps3
      go_wp2
      go_ret
      exact ⟨rfl, Below.refl _ _⟩
  · have c0 : decide ((2147483647 : Int) < (name.size : Int)) = true := decide_eq_true (by omega)
    have c00 : decide (2147483647 < name.size) = true := decide_eq_true (by omega)
    clear h0
    go_enter Tryd.func3, Tryd.ntmps3
    go_wp2
    go_ret
    exact ⟨rfl, Below.refl _ _⟩
end Go.Proofs.YtiibeefadgmicaaDoor.rev
