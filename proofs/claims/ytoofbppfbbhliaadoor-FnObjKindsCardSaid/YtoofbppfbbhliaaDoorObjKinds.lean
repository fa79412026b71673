/- Each kind of object has its name, and each name its kind: FnObjKinds answers true for every number. Conditions: the variable ErrInvalidType holds what the program's text lays in it (the card ties it). -/
import Derived.Test.YtoofbppfbbhliaaDoorCards
import Derived.Test.YtoofbppfbbhliaaDoorTie
import Derived.Test.YtoofbppfbbhliaaDoorClose
import Derived.WalkSpells
import Derived.WalkLawsBesides
import Derived.Deep.QuietTactic
import Derived.BigQuiet
import Derived.Lib.Hide
import Derived.Deep.DeepHandedRow
import Derived.Deep.DeepWitnessRowRef
import Derived.LaidLaws
import Derived.Laws.Bits128
namespace Go.Proofs.YtoofbppfbbhliaaDoor.fnObjKinds
open Go.ChangeShapes Go.WideShapes Go.ChangeAt Go.RowKit
set_option linter.unusedVariables false
set_option maxHeartbeats 400000
set_option maxRecDepth 100000
/-- The kind that obKind makes of a number. -/
def obK (n : Int) : Int := wrap64 (1 + (bits BinOp.and IntKind.i64 n 16777215).tmod 4)
theorem obK_cases (n : Int) : obK n = 1 ∨ obK n = 2 ∨ obK n = 3 ∨ obK n = 4 := by
  have h : 0 ≤ bits BinOp.and IntKind.i64 n 16777215 := by
    have h127 : (BitVec.ofInt 64 16777215).toNat = 2 ^ 24 - 1 := by decide
    have key : (BitVec.ofInt 64 n &&& BitVec.ofInt 64 16777215).toNat = (n % ((2 ^ 64 : Nat) : Int)).toNat % 2 ^ 24 := by
      rw [BitVec.toNat_and, BitVec.toNat_ofInt, h127, Nat.and_two_pow_sub_one_eq_mod]
    show 0 ≤ IntKind.i64.wrap ((BitVec.ofInt 64 n &&& BitVec.ofInt 64 16777215).toNat : Nat)
    rw [key, IntKind.wrap_i64]
    omega
  have h2 : (bits BinOp.and IntKind.i64 n 16777215).tmod 4 = (bits BinOp.and IntKind.i64 n 16777215) % 4 := Int.tmod_eq_emod_of_nonneg h
  unfold obK
  rw [h2]
  unfold wrap64
  omega
theorem kind_any (n : Int) (w : World) : Calls Tryd.prog 13 #[.int .i64 n] w fun e w' => e = .returned (.int .i64 (obK n)) ∧ w = w' := by
  go_enter Tryd.func13, Tryd.ntmps13
  go_wp2
  go_ret
  exact ⟨rfl, rfl⟩
theorem parseO1 (w : World) : Calls Tryd.prog 45 #[.string ⟨#[99, 111, 109, 109, 105, 116]⟩] w fun e w' => e = .returned (.tuple #[.int .i8 1, .nilIface]) ∧ w = w' := by
  go_enter Tryd.func45, Tryd.ntmps45
  go_wp2
  go_ret2
  exact ⟨rfl, rfl⟩
theorem parse1 (w : World) : Calls Tryd.prog 14 #[.string ⟨#[99, 111, 109, 109, 105, 116]⟩] w fun e w' => e = .returned (.tuple #[.int .i64 1, .bool true]) ∧ Below w.heap.size w w' := by
  go_enter Tryd.func14, Tryd.ntmps14
  go_wp2_with (go_at_call 45; refine (parseO1 _).mono ?_; rintro e w' ⟨rfl, rfl⟩)
  go_quiet (fail)
  go_wp2
  go_ret2
  exact ⟨rfl, ⟨rfl, rfl, rfl, Nat.le_refl _, fun _ _ => rfl⟩⟩
theorem law1 (n : Int) (w : World) (hk : obK n = 1) :
    Calls Tryd.prog 3 #[.int .i64 n] w fun e w' => e = .returned (.bool true) ∧ Below w.heap.size w w' := by
  have HK : ∀ w, Calls Tryd.prog 13 #[.int .i64 n] w fun e w' => e = .returned (.int .i64 1) ∧ w = w' := fun w => by rw [← hk]; exact kind_any n w
  have HK' := Lib.hid HK
  clear hk HK
  go_enter Tryd.func3, Tryd.ntmps3
  go_wp2_with (first | (go_at_call 13; refine (HK'.out _).mono ?_; rintro e w' ⟨rfl, rfl⟩) | (go_at_call 14; refine (parse1 _).mono ?_; rintro e w' ⟨rfl, hb⟩) | go_in)
  go_ret
  exact ⟨rfl, hb⟩
theorem parseO2 (w : World) : Calls Tryd.prog 45 #[.string ⟨#[116, 114, 101, 101]⟩] w fun e w' => e = .returned (.tuple #[.int .i8 2, .nilIface]) ∧ w = w' := by
  go_enter Tryd.func45, Tryd.ntmps45
  go_wp2
  go_ret2
  exact ⟨rfl, rfl⟩
theorem parse2 (w : World) : Calls Tryd.prog 14 #[.string ⟨#[116, 114, 101, 101]⟩] w fun e w' => e = .returned (.tuple #[.int .i64 2, .bool true]) ∧ Below w.heap.size w w' := by
  go_enter Tryd.func14, Tryd.ntmps14
  go_wp2_with (go_at_call 45; refine (parseO2 _).mono ?_; rintro e w' ⟨rfl, rfl⟩)
  go_quiet (fail)
  go_wp2
  go_ret2
  exact ⟨rfl, ⟨rfl, rfl, rfl, Nat.le_refl _, fun _ _ => rfl⟩⟩
theorem law2 (n : Int) (w : World) (hk : obK n = 2) :
    Calls Tryd.prog 3 #[.int .i64 n] w fun e w' => e = .returned (.bool true) ∧ Below w.heap.size w w' := by
  have HK : ∀ w, Calls Tryd.prog 13 #[.int .i64 n] w fun e w' => e = .returned (.int .i64 2) ∧ w = w' := fun w => by rw [← hk]; exact kind_any n w
  have HK' := Lib.hid HK
  clear hk HK
  go_enter Tryd.func3, Tryd.ntmps3
  go_wp2_with (first | (go_at_call 13; refine (HK'.out _).mono ?_; rintro e w' ⟨rfl, rfl⟩) | (go_at_call 14; refine (parse2 _).mono ?_; rintro e w' ⟨rfl, hb⟩) | go_in)
  go_ret
  exact ⟨rfl, hb⟩
theorem parseO3 (w : World) : Calls Tryd.prog 45 #[.string ⟨#[98, 108, 111, 98]⟩] w fun e w' => e = .returned (.tuple #[.int .i8 3, .nilIface]) ∧ w = w' := by
  go_enter Tryd.func45, Tryd.ntmps45
  go_wp2
  go_ret2
  exact ⟨rfl, rfl⟩
theorem parse3 (w : World) : Calls Tryd.prog 14 #[.string ⟨#[98, 108, 111, 98]⟩] w fun e w' => e = .returned (.tuple #[.int .i64 3, .bool true]) ∧ Below w.heap.size w w' := by
  go_enter Tryd.func14, Tryd.ntmps14
  go_wp2_with (go_at_call 45; refine (parseO3 _).mono ?_; rintro e w' ⟨rfl, rfl⟩)
  go_quiet (fail)
  go_wp2
  go_ret2
  exact ⟨rfl, ⟨rfl, rfl, rfl, Nat.le_refl _, fun _ _ => rfl⟩⟩
theorem law3 (n : Int) (w : World) (hk : obK n = 3) :
    Calls Tryd.prog 3 #[.int .i64 n] w fun e w' => e = .returned (.bool true) ∧ Below w.heap.size w w' := by
  have HK : ∀ w, Calls Tryd.prog 13 #[.int .i64 n] w fun e w' => e = .returned (.int .i64 3) ∧ w = w' := fun w => by rw [← hk]; exact kind_any n w
  have HK' := Lib.hid HK
  clear hk HK
  go_enter Tryd.func3, Tryd.ntmps3
  go_wp2_with (first | (go_at_call 13; refine (HK'.out _).mono ?_; rintro e w' ⟨rfl, rfl⟩) | (go_at_call 14; refine (parse3 _).mono ?_; rintro e w' ⟨rfl, hb⟩) | go_in)
  go_ret
  exact ⟨rfl, hb⟩
theorem parseO4 (w : World) : Calls Tryd.prog 45 #[.string ⟨#[116, 97, 103]⟩] w fun e w' => e = .returned (.tuple #[.int .i8 4, .nilIface]) ∧ w = w' := by
  go_enter Tryd.func45, Tryd.ntmps45
  go_wp2
  go_ret2
  exact ⟨rfl, rfl⟩
theorem parse4 (w : World) : Calls Tryd.prog 14 #[.string ⟨#[116, 97, 103]⟩] w fun e w' => e = .returned (.tuple #[.int .i64 4, .bool true]) ∧ Below w.heap.size w w' := by
  go_enter Tryd.func14, Tryd.ntmps14
  go_wp2_with (go_at_call 45; refine (parseO4 _).mono ?_; rintro e w' ⟨rfl, rfl⟩)
  go_quiet (fail)
  go_wp2
  go_ret2
  exact ⟨rfl, ⟨rfl, rfl, rfl, Nat.le_refl _, fun _ _ => rfl⟩⟩
theorem law4 (n : Int) (w : World) (hk : obK n = 4) :
    Calls Tryd.prog 3 #[.int .i64 n] w fun e w' => e = .returned (.bool true) ∧ Below w.heap.size w w' := by
  have HK : ∀ w, Calls Tryd.prog 13 #[.int .i64 n] w fun e w' => e = .returned (.int .i64 4) ∧ w = w' := fun w => by rw [← hk]; exact kind_any n w
  have HK' := Lib.hid HK
  clear hk HK
  go_enter Tryd.func3, Tryd.ntmps3
  go_wp2_with (first | (go_at_call 13; refine (HK'.out _).mono ?_; rintro e w' ⟨rfl, rfl⟩) | (go_at_call 14; refine (parse4 _).mono ?_; rintro e w' ⟨rfl, hb⟩) | go_in)
  go_ret
  exact ⟨rfl, hb⟩
theorem law (n : Int) (w : World) : Calls Tryd.prog 3 #[.int .i64 n] w fun e w' => e = .returned (.bool true) ∧ Below w.heap.size w w' := by
  rcases obK_cases n with h | h | h | h
  · exact law1 n w h
  · exact law2 n w h
  · exact law3 n w h
  · exact law4 n w h
end Go.Proofs.YtoofbppfbbhliaaDoor.fnObjKinds
