/- What spec.Small tells of a text. Contract for the laws of this seat. -/
import Derived.Test.YtoofbppfbbhliaaDoorRows
import Derived.WalkKit
import Derived.WalkSpells
import Derived.WalkLawsBesides
import Derived.Lib.Hide
namespace Go.Proofs.YtoofbppfbbhliaaDoor.small
open Go.RowKit
set_option linter.unusedVariables false
set_option maxHeartbeats 400000
set_option maxRecDepth 100000
/-- Letters and digits. -/
def okc (c : UInt8) : Bool := (97 ≤ c.toNat && c.toNat ≤ 122) || (65 ≤ c.toNat && c.toNat ≤ 90) || (48 ≤ c.toNat && c.toNat ≤ 57)
/-- What spec.Small tells. -/
def smallB (s : ByteArray) : Bool := decide (0 < s.size ∧ ∀ (k : Nat) (h : k < s.size), okc (s[k]'h) = true)
theorem okc_yes {c : UInt8} (h : okc c = true) : (97 ≤ (c.toNat : Int) ∧ (c.toNat : Int) ≤ 122) ∨ (65 ≤ (c.toNat : Int) ∧ (c.toNat : Int) ≤ 90) ∨ (48 ≤ (c.toNat : Int) ∧ (c.toNat : Int) ≤ 57) := by
  simp [okc] at h; omega
theorem okc_no {c : UInt8} (h : okc c = false) : (c.toNat : Int) < 48 ∨ (57 < (c.toNat : Int) ∧ (c.toNat : Int) < 65) ∨ (90 < (c.toNat : Int) ∧ (c.toNat : Int) < 97) ∨ 122 < (c.toNat : Int) := by
  simp [okc] at h; omega
theorem small_any (s : ByteArray) (w : World) (hs : s.size ≤ 9223372036854775807) :
    Calls Tryd.prog 24 #[.string s] w fun e w' => e = .returned (.bool (smallB s)) ∧ w = w' := by
  obtain ⟨b, hb⟩ : ∃ b, smallB s = b := ⟨_, rfl⟩
  rw [hb]
  have HB := Lib.hid hb
  clear hb
  go_enter Tryd.func24, Tryd.ntmps24
  go_wp2
  go_loop [7] (fun i => ∃ k : Nat, k ≤ s.size ∧ i = .int .i64 k ∧ ∀ (j : Nat) (h : j < s.size), j < k → okc (s[j]'h) = true) (fun i => s.size - (intOf i).toNat)
  case atStart => exact ⟨0, Nat.zero_le _, rfl, fun _ _ h => by omega⟩
  case round =>
    obtain ⟨k, hk, rfl, hall⟩ := hrel
    by_cases h : k < s.size
    · have h4 : (k : Int) < s.size := by omega
      cases ho : okc (s[k]'h) with
      | true =>
        have hall' : ∀ (j : Nat) (h : j < s.size), j < k + 1 → okc (s[j]'h) = true := by
          intro j hj hlt
          by_cases e : j = k
          · subst e; exact ho
          · exact hall j hj (by omega)
        have HA := Lib.hid hall'
        have h3 := okc_yes ho
        clear hall hall' ho
        rcases h3 with ⟨h5, h6⟩ | ⟨h5, h6⟩ | ⟨h5, h6⟩
        all_goals
          go_wp2
          go_round
          case rel => exact ⟨k + 1, by omega, by go_num, HA.out⟩
          case measure => simp [intOf]; omega
      | false =>
        have hb : b = false := by
          rw [← HB.out]
          simp only [smallB, decide_eq_false_iff_not]
          rintro ⟨_, h⟩
          rw [h k ‹_›] at ho
          cases ho
        subst hb
        have h3 := okc_no ho
        clear hall ho HB
        rcases h3 with h5 | ⟨h5, h6⟩ | ⟨h5, h6⟩ | h5
        all_goals
          try have d1 : decide (((s[k]'h).toNat : Int) ≤ 57) = false := decide_eq_false (by omega)
          try have d2 : decide (((s[k]'h).toNat : Int) ≤ 90) = false := decide_eq_false (by omega)
          try have d3 : decide (((s[k]'h).toNat : Int) ≤ 122) = false := decide_eq_false (by omega)
          go_wp2
          go_ret
          exact ⟨rfl, rfl⟩
    · obtain rfl : k = s.size := by omega
      have hb : b = decide (0 < s.size) := by
        rw [← HB.out, smallB]
        by_cases e : 0 < s.size <;> simp [e]
        exact fun j hj => hall j hj hj
      clear hall HB
      by_cases e : 0 < s.size
      · have hb2 : b = true := by rw [hb]; simpa using e
        clear hb
        subst hb2
        have he : s.toList.isEmpty = false := by
          rw [List.isEmpty_eq_false_iff, ByteArray.toList_eq]
          intro h0
          have h1 : s.data.toList.length = 0 := by rw [h0]; rfl
          have h2 : s.data.toList.length = s.size := rfl
          omega
        go_wp2
        go_ret
        exact ⟨rfl, rfl⟩
      · have hb2 : b = false := by rw [hb]; simpa using e
        clear hb
        subst hb2
        have he : s.toList.isEmpty = true := by
          rw [List.isEmpty_iff, ByteArray.toList_eq]
          exact List.eq_nil_of_length_eq_zero (show s.size = 0 by omega)
        go_wp2
        go_ret
        exact ⟨rfl, rfl⟩
theorem small_bytes {s : ByteArray} (h : smallB s = true) : 0 < s.size ∧ ∀ c ∈ s.data.toList, okc c = true := by
  simp only [smallB, decide_eq_true_eq] at h
  refine ⟨h.1, fun c hc => ?_⟩
  obtain ⟨i, hi, rfl⟩ := List.getElem_of_mem hc
  exact h.2 i hi
theorem okc_ge {c : UInt8} (h : okc c = true) : 48 ≤ c.toNat := by
  rcases okc_yes h with h | h | h <;> omega
end Go.Proofs.YtoofbppfbbhliaaDoor.small
