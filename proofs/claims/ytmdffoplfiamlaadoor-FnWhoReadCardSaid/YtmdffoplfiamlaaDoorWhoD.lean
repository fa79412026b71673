/- Decimal digits read back by strconv.ParseInt: plain part. -/
import Derived.Lib.ParseIntB
import Derived.Lib.ItoaNum
namespace Go.Proofs.YtmdffoplfiamlaaDoor.who
open Go.Lib
set_option linter.unusedVariables false
/-- What decimal digits say, behind a number. -/
def decV (a : Nat) (l : List UInt8) : Nat := l.foldl (fun a c => a * 10 + (c.toNat - 48)) a
theorem decV_nil (a : Nat) : decV a [] = a := by unfold decV; rw [List.foldl_nil]
theorem decV_cons (a : Nat) (c : UInt8) (r : List UInt8) : decV a (c :: r) = decV (a * 10 + (c.toNat - 48)) r := by unfold decV; rw [List.foldl_cons]
theorem decV_snoc (a : Nat) (c : UInt8) (r : List UInt8) : decV a (r ++ [c]) = decV a r * 10 + (c.toNat - 48) := by unfold decV; rw [List.foldl_append]; rfl
theorem decV_ge (l : List UInt8) : ∀ a : Nat, a ≤ decV a l := by
  induction l with
  | nil => exact fun a => Nat.le_refl a
  | cons c r ih =>
    intro a
    rw [decV_cons]
    have := ih (a * 10 + (c.toNat - 48))
    omega
def Dec (l : List UInt8) : Prop := ∀ c ∈ l, 48 ≤ c.toNat ∧ c.toNat ≤ 57
theorem parseM (M : Nat) (hM : M < 18446744073709551616) : ∀ (l : List UInt8) (a : Nat), Dec l → decV a l ≤ M → parseUintM M a l = .ok (decV a l)
  | [], a, _, _ => rfl
  | c :: r, a, hd, h => by
    have h1 := hd c (.head _)
    rw [decV_cons] at h ⊢
    have h2 := decV_ge r (a * 10 + (c.toNat - 48))
    rw [parseUintM, if_pos h1, if_neg (by omega), if_neg (by omega)]
    exact parseM M hM r _ (fun x hx => hd x (.tail _ hx)) h
theorem uint_dec (l : List UInt8) (hne : l ≠ []) (hd : Dec l) (h : decV 0 l ≤ 9223372036854775807) : parseUintB 64 l = .ok (decV 0 l) := by
  unfold parseUintB
  rw [if_neg hne]
  exact parseM _ (by decide) l 0 hd (by omega)
theorem int_of {c : UInt8} {r : List UInt8} {u : Nat} (h : parseUintB 64 (if c.toNat = 43 ∨ c.toNat = 45 then r else c :: r) = .ok u) (hu : u ≤ 9223372036854775807) : parseIntB 64 (c :: r) = .ok (if c.toNat = 45 then -(u : Int) else u) := by
  unfold parseIntB
  show (match parseUintB 64 (if c.toNat = 43 ∨ c.toNat = 45 then r else c :: r) with
    | .syntax => NumEnd.syntax
    | .range => .range
    | .ok u => if ¬ c.toNat = 45 ∧ 2 ^ (64 - 1) ≤ u then .range else if c.toNat = 45 ∧ 2 ^ (64 - 1) < u then .range else .ok (if c.toNat = 45 then -(u : Int) else u)) = _
  rw [h]
  show (if ¬ c.toNat = 45 ∧ 2 ^ (64 - 1) ≤ u then NumEnd.range else if c.toNat = 45 ∧ 2 ^ (64 - 1) < u then .range else .ok (if c.toNat = 45 then -(u : Int) else u)) = _
  rw [if_neg (fun h => by have := h.2; omega), if_neg (fun h => by have := h.2; omega)]
/-- Digits alone. -/
theorem int_plain (l : List UInt8) (hne : l ≠ []) (hd : Dec l) (h : decV 0 l ≤ 9223372036854775807) : parseIntB 64 l = .ok ((decV 0 l : Nat) : Int) := by
  cases l with
  | nil => exact absurd rfl hne
  | cons c r =>
    have h1 := hd c (.head _)
    have hu := uint_dec (c :: r) hne hd h
    rw [int_of (u := decV 0 (c :: r)) (by rw [if_neg (by omega)]; exact hu) h, if_neg (by omega)]
/-- Digits behind a plus. -/
theorem int_plus (l : List UInt8) (hne : l ≠ []) (hd : Dec l) (h : decV 0 l ≤ 9223372036854775807) : parseIntB 64 (43 :: l) = .ok ((decV 0 l : Nat) : Int) := by
  have hu := uint_dec l hne hd h
  rw [int_of (u := decV 0 l) (by rw [if_pos (.inl rfl)]; exact hu) h, if_neg (by decide)]
/-- Digits behind a minus. -/
theorem int_minus (l : List UInt8) (hne : l ≠ []) (hd : Dec l) (h : decV 0 l ≤ 9223372036854775807) : parseIntB 64 (45 :: l) = .ok (-((decV 0 l : Nat) : Int)) := by
  have hu := uint_dec l hne hd h
  rw [int_of (u := decV 0 l) (by rw [if_pos (.inr rfl)]; exact hu) h, if_pos (by decide)]
theorem digit_nat {d : Nat} (h : d < 10) : (UInt8.ofNat (48 + d)).toNat = 48 + d := by
  rw [UInt8.toNat_ofNat']; omega
theorem decDigits_dec (u : Nat) : Dec (decDigits u) ∧ decV 0 (decDigits u) = u ∧ decDigits u ≠ [] := by
  induction u using Nat.strongRecOn with
  | _ u ih =>
    by_cases h : u < 10
    · rw [decDigits, dif_pos h]
      refine ⟨fun c hc => ?_, ?_, by simp⟩
      · rw [List.mem_singleton.1 hc, digit_nat h]; omega
      · rw [decV_cons, decV_nil, digit_nat h]; omega
    · obtain ⟨h1, h2, h3⟩ := ih (u / 10) (by omega)
      rw [decDigits, dif_neg h]
      refine ⟨fun c hc => ?_, ?_, by simp⟩
      · rcases List.mem_append.1 hc with hc | hc
        · exact h1 c hc
        · rw [List.mem_singleton.1 hc, digit_nat (by omega)]; omega
      · rw [decV_snoc, h2, digit_nat (by omega)]; omega
/-- Two digits. -/
def twoD (n : Nat) : List UInt8 := [UInt8.ofNat (48 + n / 10 % 10), UInt8.ofNat (48 + n % 10)]
theorem twoD_dec {n : Nat} (h : n < 100) : Dec (twoD n) ∧ decV 0 (twoD n) = n ∧ twoD n ≠ [] := by
  unfold twoD
  refine ⟨fun c hc => ?_, ?_, by simp⟩
  · simp only [List.mem_cons, List.not_mem_nil, or_false] at hc
    rcases hc with rfl | rfl
    · rw [digit_nat (by omega)]; omega
    · rw [digit_nat (by omega)]; omega
  · rw [decV_cons, decV_cons, decV_nil, digit_nat (by omega), digit_nat (by omega)]; omega
end Go.Proofs.YtmdffoplfiamlaaDoor.who
