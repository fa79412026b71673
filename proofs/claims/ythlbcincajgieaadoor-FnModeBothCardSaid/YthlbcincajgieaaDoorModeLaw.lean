/- The law FnModeBoth. -/
import Derived.Test.YthlbcincajgieaaDoorMode
namespace Go.Proofs.YthlbcincajgieaaDoor.mode
open Go.RowKit Go.Proofs.YthlbcincajgieaaDoorW.PrintWords Go.Proofs.YthlbcincajgieaaDoorW.PrintLast Go.Proofs.YthlbcincajgieaaDoorW.PrintMore
set_option linter.unusedVariables false
set_option linter.unusedSimpArgs false
set_option maxHeartbeats 2000000
set_option maxRecDepth 100000
theorem parse_any (t : ByteArray) (w : World) (ho : Oct t.data.toList) (hne : 0 < t.size) (hmax : t.size ≤ 100) (hv : octV 0 t.data.toList ≤ 4294967295) :
    Calls Tryd.prog 38 #[.string t, .int .i64 8, .int .i64 32] w fun e w' => e = .returned (.tuple #[.int .u64 (octV 0 t.data.toList : Int), .nilIface]) ∧ Below w.heap.size w w' := by
  have HI := Aside0.mk (inner_any t w ho hne hmax hv)
  obtain ⟨V, hV⟩ : ∃ V : Int, (octV 0 t.data.toList : Int) = V := ⟨_, rfl⟩
  rw [hV] at HI ⊢
  clear ho hne hmax hv hV
  go_enter Tryd.func38, Tryd.ntmps38
  go_wp2_with fail
  refine HI.out.mono ?_
  rintro e w2 ⟨rfl, hb⟩
  have HB := Aside0.mk hb
  clear HI hb
  go_wp2_with fail
  go_ret2
  exact ⟨rfl, HB.out⟩
theorem new_any (t : ByteArray) (w : World) (V : Int) (h0 : 0 ≤ V) (h1 : V ≤ 4294967295) (hV : (octV 0 t.data.toList : Int) = V) (ho : Oct t.data.toList) (hne : 0 < t.size) (hmax : t.size ≤ 100) :
    Calls Tryd.prog 18 #[.string t] w fun e w' => e = .returned (.tuple #[.int .u32 V, .nilIface]) ∧ Below w.heap.size w w' := by
  have HI := Aside0.mk (parse_any t w ho hne hmax (by omega))
  rw [hV] at HI
  have HW := Aside0.mk (show IntKind.u32.wrap V = V from by rw [IntKind.wrap_u32]; omega)
  clear ho hne hmax hV
  go_enter Tryd.func18, Tryd.ntmps18
  go_wp2_with fail
  refine HI.out.mono ?_
  rintro e w2 ⟨rfl, hb⟩
  have HB := Aside0.mk hb
  clear HI hb
  go_wp2_with fail
  go_ret2
  exact ⟨by first | rfl | (simp [HW.out]; done), HB.out⟩
theorem modeOf_any (t : ByteArray) (w : World) (V : Int) (h0 : 0 ≤ V) (h1 : V ≤ 4294967295) (hV : (octV 0 t.data.toList : Int) = V) (ho : Oct t.data.toList) (hne : 0 < t.size) (hmax : t.size ≤ 100) :
    Calls Tryd.prog 6 #[.string t] w fun e w' => e = .returned (.tuple #[.int .u32 V, .bool true]) ∧ Below w.heap.size w w' := by
  have HI := Aside0.mk (new_any t w V h0 h1 hV ho hne hmax)
  clear ho hne hmax hV
  go_enter Tryd.func6, Tryd.ntmps6
  go_wp2_with fail
  refine HI.out.mono ?_
  rintro e w2 ⟨rfl, hb⟩
  have HB := Aside0.mk hb
  clear HI hb
  go_wp2_with fail
  go_quiet (fail)
  go_wp2_with fail
  go_ret2
  exact ⟨rfl, pw_below_drewN HB.out _⟩
theorem string_any (x : Nat) (hx : x < 4294967296) (w : World) : Calls Tryd.prog 19 #[.int .u32 (x : Int)] w (OctPost w x) := by
  have HI := Aside0.mk (octal_any x hx w)
  obtain ⟨X, hX⟩ : ∃ X : Int, (x : Int) = X := ⟨_, rfl⟩
  have b0 : 0 ≤ X := by omega
  have b1 : X ≤ 4294967295 := by omega
  rw [hX] at HI ⊢
  clear hX hx
  go_enter Tryd.func19, Tryd.ntmps19
  go_wp2_with fail
  refine HI.out.mono ?_
  rintro e w2 ⟨t, rfl, rfl, h1, h2, h3, h4⟩
  have H1 := Aside0.mk h1
  have H2 := Aside0.mk h2
  have H3 := Aside0.mk h3
  have H4 := Aside0.mk h4
  clear HI h1 h2 h3 h4
  go_wp2_with fail
  go_ret
  exact ⟨t, rfl, rfl, H1.out, H2.out, H3.out, H4.out⟩
theorem modeText_any (x : Nat) (hx : x < 4294967296) (w : World) : Calls Tryd.prog 7 #[.int .u32 (x : Int)] w (OctPost w x) := by
  have HI := Aside0.mk (string_any x hx w)
  obtain ⟨X, hX⟩ : ∃ X : Int, (x : Int) = X := ⟨_, rfl⟩
  have b0 : 0 ≤ X := by omega
  have b1 : X ≤ 4294967295 := by omega
  rw [hX] at HI ⊢
  clear hX hx
  go_enter Tryd.func7, Tryd.ntmps7
  go_wp2_with fail
  refine HI.out.mono ?_
  rintro e w2 ⟨t, rfl, rfl, h1, h2, h3, h4⟩
  have H1 := Aside0.mk h1
  have H2 := Aside0.mk h2
  have H3 := Aside0.mk h3
  have H4 := Aside0.mk h4
  clear HI h1 h2 h3 h4
  go_wp2_with fail
  go_ret
  exact ⟨t, rfl, rfl, H1.out, H2.out, H3.out, H4.out⟩
theorem both_law (m : Int) (h0 : 0 ≤ m) (h1 : m ≤ 4294967295) (w : World) :
    Calls Tryd.prog 3 #[.int .u32 m] w fun e w' => e = .returned (.bool true) ∧ Below w.heap.size w w' := by
  obtain ⟨x, rfl⟩ := Int.eq_ofNat_of_zero_le h0
  have HI := Aside0.mk (modeText_any x (by omega) w)
  obtain ⟨X, hX⟩ : ∃ X : Int, (x : Int) = X := ⟨_, rfl⟩
  rw [hX] at HI h0 h1 ⊢
  have HX := Aside0.mk hX
  clear hX
  go_enter Tryd.func3, Tryd.ntmps3
  go_wp2_with fail
  refine HI.out.mono ?_
  rintro e w2 ⟨t, rfl, rfl, g1, g2, g3, g4⟩
  have HM := Aside0.mk (modeOf_any t w X h0 h1 (by rw [g4]; exact HX.out) g1 (by omega) (by omega))
  clear HI g1 g2 g3 g4
  go_wp2_with fail
  refine HM.out.mono ?_
  rintro e w3 ⟨rfl, hb⟩
  have HB := Aside0.mk hb
  clear HM hb
  go_wp2_with fail
  go_ret
  exact ⟨by first | rfl | (simp; done), HB.out⟩
end Go.Proofs.YthlbcincajgieaaDoor.mode
