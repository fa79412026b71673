/- Plain law: what the specification's functions of fuel say of deltas, and what the relation Patch says of them. No program in sight. -/
import Derived.Test.YtoofbppfbbhliaaDoorPFnDeltaCutx2
import Derived.Test.YtoofbppfbbhliaaDoorPatch
namespace Go.Proofs.YtoofbppfbbhliaaDoor.steps
open Go.RowKit Go.Proofs.YtoofbppfbbhliaaDoorW.PrintWords Go.Proofs.YtoofbppfbbhliaaDoorW.PrintLast Go.Proofs.YtoofbppfbbhliaaDoorW.PrintMore Go.Proofs.YtoofbppfbbhliaaDoor.leb Go.Proofs.YtoofbppfbbhliaaDoor.PFnDeltaCut
set_option linter.unusedVariables false
set_option maxHeartbeats 1000000
set_option maxRecDepth 100000
/-- A number's digits of seven bits. -/
def digits (n : Nat) : List Nat := if h : n < 128 then [n] else (n % 128) :: digits (n / 128)
termination_by n
theorem digits_lo {n : Nat} (h : n < 128) : digits n = [n] := by rw [digits, dif_pos h]
theorem digits_hi {n : Nat} (h : ¬ n < 128) : digits n = (n % 128) :: digits (n / 128) := by rw [digits, dif_neg h]
theorem digits_ne (n : Nat) : ∃ d r, digits n = d :: r := by
  by_cases h : n < 128
  · exact ⟨_, _, digits_lo h⟩
  · exact ⟨_, _, digits_hi h⟩
theorem digits_lt : ∀ (n d : Nat), d ∈ digits n → d < 128 := by
  intro n
  induction n using Nat.strongRecOn with
  | _ n ih =>
    intro d hd
    by_cases h : n < 128
    · rw [digits_lo h] at hd; simp at hd; omega
    · rw [digits_hi h] at hd
      rcases List.mem_cons.1 hd with rfl | hd
      · omega
      · exact ih (n / 128) (by omega) d hd
theorem digits_val : ∀ n : Nat, sevVal (digits n) = n := by
  intro n
  induction n using Nat.strongRecOn with
  | _ n ih =>
    by_cases h : n < 128
    · rw [digits_lo h]; simp [sevVal]
    · rw [digits_hi h, sevVal, ih (n / 128) (by omega)]; omega
theorem digits_len : ∀ (m n : Nat), n < 128 ^ m → 0 < m → (digits n).length ≤ m := by
  intro m
  induction m with
  | zero => intro n _ h; omega
  | succ m ih =>
    intro n hn _
    by_cases h : n < 128
    · rw [digits_lo h]; simp
    · rw [digits_hi h, List.length_cons]
      have h1 : n / 128 < 128 ^ m := by rw [Nat.pow_succ] at hn; exact Nat.div_lt_of_lt_mul (by rw [Nat.mul_comm]; exact hn)
      rcases Nat.eq_zero_or_pos m with rfl | hm
      · simp at h1; omega
      · have := ih (n / 128) h1 hm; omega
/-- A number as Size7 writes it. -/
def seven (n : Nat) : List Int := sevens (digits n)
theorem seven_lo {n : Nat} (h : n < 128) : seven n = [(n : Int)] := by rw [seven, digits_lo h, sevens]
theorem seven_hi {n : Nat} (h : ¬ n < 128) : seven n = ((n % 128 + 128 : Nat) : Int) :: seven (n / 128) := by
  obtain ⟨d, r, e⟩ := digits_ne (n / 128)
  rw [seven, digits_hi h, seven, e, sevens]
theorem w64 {n : Int} (h0 : -9223372036854775808 ≤ n) (h1 : n < 9223372036854775808) : wrap64 n = n := by
  unfold wrap64; first | omega | (simp [IntKind.wrap_i64]; omega)
theorem size7_l0 : ∀ (m k n : Nat) (acc : List Int), n < 128 ^ (m + 1) → m < k → m ≤ 8 → acc.length + m + 1 < 140737488355328 → spec_Size7.l0 k (n : Int) acc = some (acc ++ seven n) := by
  intro m
  induction m with
  | zero =>
    intro k n acc hn hk hm ha
    obtain ⟨k, rfl⟩ : ∃ k', k = k' + 1 := ⟨k - 1, by omega⟩
    have hn' : n < 128 := by simpa using hn
    rw [spec_Size7.l0, if_neg (by omega), if_pos (by omega), seven_lo hn']
    have : (n : Int) % 256 = n := by omega
    rw [this]
  | succ m ih =>
    intro k n acc hn hk hm ha
    obtain ⟨k, rfl⟩ : ∃ k', k = k' + 1 := ⟨k - 1, by omega⟩
    have h9 : 128 ^ (m + 1 + 1) ≤ 128 ^ 9 := Nat.pow_le_pow_right (by decide) (by omega)
    have h10 : (128 : Nat) ^ 9 = 9223372036854775808 := by decide
    by_cases h : n < 128
    · rw [spec_Size7.l0, if_neg (by omega), if_pos (by omega), seven_lo h]
      have : (n : Int) % 256 = n := by omega
      rw [this]
    · rw [spec_Size7.l0, if_pos (by omega), if_pos (by omega), seven_hi h]
      have e1 : Int.tdiv (n : Int) 128 = ((n / 128 : Nat) : Int) := by rw [Int.tdiv_eq_ediv_of_nonneg (by omega)]; omega
      have e2 : Int.tmod (n : Int) 128 = ((n % 128 : Nat) : Int) := by rw [Int.tmod_eq_emod_of_nonneg (by omega)]; omega
      rw [e1, e2, w64 (by omega) (by omega), w64 (by omega) (by omega)]
      have e3 : (((n % 128 : Nat) : Int) + 128) % 256 = ((n % 128 + 128 : Nat) : Int) := by omega
      rw [e3, ih k (n / 128) _ (by rw [Nat.pow_succ] at hn; exact Nat.div_lt_of_lt_mul (by rw [Nat.mul_comm]; exact hn)) (by omega) (by omega) (by rw [List.length_append]; simp; omega)]
      rw [List.append_assoc]; rfl
theorem size7 (k n : Nat) (hk : 8 < k) (hn : n < 9223372036854775808) : spec_Size7.f k (n : Int) = some (seven n) := by
  rw [spec_Size7.f, size7_l0 8 k n [] (by simpa using hn) hk (by omega) (by simp)]; rfl
theorem bits_nat_or (a b : Nat) (ha : a < 256) (hb : b < 256) : bits .or .u8 (a : Int) (b : Int) = ((a ||| b : Nat) : Int) := (bits_nat .u8 8 (by decide) wraps_u8 a b ha hb).2
/-! ### The fields of a copy -/
/-- The bytes that stand. -/
def enc : List (Bool × Nat) → List Int
  | [] => []
  | (true, b) :: r => (b : Int) :: enc r
  | (false, _) :: r => enc r
/-- What they say. -/
def val : List (Bool × Nat) → Nat → Nat
  | [], _ => 0
  | (p, b) :: r, s => (if p then b * 2 ^ s else 0) + val r (s + 8)
theorem enc_append (a b : List (Bool × Nat)) : enc (a ++ b) = enc a ++ enc b := by
  induction a with
  | nil => rfl
  | cons q r ih => obtain ⟨p, x⟩ := q; cases p <;> simp [enc, ih]
theorem fields_enc : ∀ (ms : List Nat) (q : List (Bool × Nat)) (s cmd acc : Nat) (tail : List Int), ms.length = q.length → (∀ (j m : Nat) (y : Bool × Nat), ms[j]? = some m → q[j]? = some y → (cmd &&& m = 0 ↔ y.1 = false)) →
    fields ms s cmd acc (enc q ++ tail) = some (acc + val q s, tail)
  | [], [], s, cmd, acc, tail, _, _ => by simp [fields, enc, val]
  | m :: ms, (p, b) :: q, s, cmd, acc, tail, hl, h => by
    have h0 := h 0 m (p, b) rfl rfl
    have hr := fun acc => fields_enc ms q (s + 8) cmd acc tail (by simpa using hl) (fun j m y h1 h2 => h (j + 1) m y h1 h2)
    rw [fields_cons]
    cases p with
    | false => rw [if_pos (h0.2 rfl)]; simp only [enc, val]; rw [hr]; simp
    | true =>
      rw [if_neg (fun e => by simpa using h0.1 e)]
      simp only [enc, val, List.cons_append]
      rw [hr]; simp [Nat.add_assoc]
theorem fields_cut : ∀ (ms : List Nat) (q : List (Bool × Nat)) (s cmd acc n : Nat), ms.length = q.length → (∀ (j m : Nat) (y : Bool × Nat), ms[j]? = some m → q[j]? = some y → (cmd &&& m = 0 ↔ y.1 = false)) → n < (enc q).length →
    fields ms s cmd acc ((enc q).take n) = none
  | [], [], s, cmd, acc, n, _, _, hn => by simp [enc] at hn
  | m :: ms, (p, b) :: q, s, cmd, acc, n, hl, h, hn => by
    have h0 := h 0 m (p, b) rfl rfl
    have hr := fun acc n => fields_cut ms q (s + 8) cmd acc n (by simpa using hl) (fun j m y h1 h2 => h (j + 1) m y h1 h2)
    rw [fields_cons]
    cases p with
    | false => rw [if_pos (h0.2 rfl)]; exact hr _ _ hn
    | true =>
      rw [if_neg (fun e => by simpa using h0.1 e)]
      cases n with
      | zero => rfl
      | succ n =>
        simp only [enc, List.take_succ_cons]
        exact hr _ _ (by simpa [enc] using hn)
/-- The byte of a place or a size; its presence. -/
def byteAt (f1 x3 : Int) (i : Nat) : Int := if i ≥ 4 then shr .i64 x3 ((8 * (i - 4) : Nat) : Int) % 256 else shr .i64 f1 ((8 * i : Nat) : Int) % 256
def here (f1 x3 f4 : Int) (i : Nat) : Bool := decide (byteAt f1 x3 i ≠ 0) || decide (Go.bits .and .i64 (shr .i64 f4 (i : Int)) 1 = 1)
def codeI (f1 x3 f4 : Int) : Nat → Int
  | 0 => 128
  | i + 1 => if here f1 x3 f4 i then Go.bits .or .u8 (codeI f1 x3 f4 i) (shl .u8 1 (i : Int)) else codeI f1 x3 f4 i
def encI (f1 x3 f4 : Int) : Nat → List Int
  | 0 => []
  | i + 1 => if here f1 x3 f4 i then encI f1 x3 f4 i ++ [byteAt f1 x3 i] else encI f1 x3 f4 i
theorem encI_len (f1 x3 f4 : Int) : ∀ i, (encI f1 x3 f4 i).length ≤ i
  | 0 => by simp [encI]
  | i + 1 => by
    have := encI_len f1 x3 f4 i
    rw [encI]; split <;> simp <;> omega
theorem step_l0 (k i : Nat) (hi : i < 7) (x3 x4 : Int) (x5 : List Int) (f0 : Bool) (f1 f2 : Int) (f3 : List Int) (f4 : Int) (h5 : x5.length < 1000) :
    spec_StepBytes.l0 (k + 1) x3 x4 x5 (i : Int) f0 f1 f2 f3 f4 = spec_StepBytes.l0 k x3 (if here f1 x3 f4 i then Go.bits .or .u8 x4 (shl .u8 1 (i : Int)) else x4) (if here f1 x3 f4 i then x5 ++ [byteAt f1 x3 i] else x5) ((i + 1 : Nat) : Int) f0 f1 f2 f3 f4 := by
  rw [spec_StepBytes.l0, if_pos (by omega)]
  have e1 : wrap64 (8 * (i : Int)) = ((8 * i : Nat) : Int) := by rw [w64 (by omega) (by omega)]; omega
  have e2 : wrap64 ((i : Int) + 1) = ((i + 1 : Nat) : Int) := by rw [w64 (by omega) (by omega)]; omega
  rw [e1, e2, if_pos (by omega)]
  by_cases h4 : i ≥ 4
  · have e3 : wrap64 ((i : Int) - 4) = ((i - 4 : Nat) : Int) := by rw [w64 (by omega) (by omega)]; omega
    have e4 : wrap64 (8 * ((i - 4 : Nat) : Int)) = ((8 * (i - 4) : Nat) : Int) := by rw [w64 (by omega) (by omega)]; omega
    have eb : byteAt f1 x3 i = shr .i64 x3 ((8 * (i - 4) : Nat) : Int) % 256 := if_pos h4
    rw [if_pos (by omega), e3, e4, if_pos (by omega), ← eb]
    by_cases hb : byteAt f1 x3 i = 0
    · rw [if_pos hb, if_pos (by omega)]
      by_cases hw : Go.bits .and .i64 (shr .i64 f4 (i : Int)) 1 = 1
      · rw [if_pos hw, if_pos (by omega)]
        have : here f1 x3 f4 i = true := by simp [here, hw]
        rw [if_pos this, if_pos this]
      · rw [if_neg hw]
        have : ¬ here f1 x3 f4 i = true := by simp [here, hw, hb]
        rw [if_neg this, if_neg this]
    · rw [if_neg hb, if_pos (by omega), if_pos (by omega)]
      have : here f1 x3 f4 i = true := by simp [here, hb]
      rw [if_pos this, if_pos this]
  · have eb : byteAt f1 x3 i = shr .i64 f1 ((8 * i : Nat) : Int) % 256 := if_neg h4
    rw [if_neg (by omega), ← eb]
    by_cases hb : byteAt f1 x3 i = 0
    · rw [if_pos hb, if_pos (by omega)]
      by_cases hw : Go.bits .and .i64 (shr .i64 f4 (i : Int)) 1 = 1
      · rw [if_pos hw, if_pos (by omega)]
        have : here f1 x3 f4 i = true := by simp [here, hw]
        rw [if_pos this, if_pos this]
      · rw [if_neg hw]
        have : ¬ here f1 x3 f4 i = true := by simp [here, hw, hb]
        rw [if_neg this, if_neg this]
    · rw [if_neg hb, if_pos (by omega), if_pos (by omega)]
      have : here f1 x3 f4 i = true := by simp [here, hb]
      rw [if_pos this, if_pos this]
theorem steps_l0 (x3 : Int) (f0 : Bool) (f1 f2 : Int) (f3 : List Int) (f4 : Int) : ∀ (m i k : Nat), i + m = 7 →
    spec_StepBytes.l0 (k + m + 1) x3 (codeI f1 x3 f4 i) (encI f1 x3 f4 i) (i : Int) f0 f1 f2 f3 f4 = some (codeI f1 x3 f4 7 :: encI f1 x3 f4 7)
  | 0, i, k, h => by
    obtain rfl : i = 7 := by omega
    have := encI_len f1 x3 f4 7
    rw [spec_StepBytes.l0, if_neg (by omega)]
    simp only [Option.bind_some]
    rw [if_pos (by simp only [List.length_cons, List.length_nil]; omega)]
    rfl
  | m + 1, i, k, h => by
    have hl := encI_len f1 x3 f4 i
    have ih := steps_l0 x3 f0 f1 f2 f3 f4 m (i + 1) k (by omega)
    rw [show k + (m + 1) + 1 = (k + m + 1) + 1 by omega, step_l0 _ i (by omega) x3 _ _ f0 f1 f2 f3 f4 (by omega)]
    exact ih
/-- An instruction as it is written. -/
def stepB (x : S56) : List Int := if x.f0 then codeI x.f1 (if x.f2 = 65536 then 0 else x.f2) x.f4 7 :: encI x.f1 (if x.f2 = 65536 then 0 else x.f2) x.f4 7 else (x.f3.length : Int) :: x.f3
theorem stepBytes (k : Nat) (x : S56) (hk : 9 ≤ k) (h3 : x.f0 = false → x.f3.length < 128) : spec_StepBytes.f k x.f0 x.f1 x.f2 x.f3 x.f4 = some (stepB x) := by
  obtain ⟨f0, f1, f2, f3, f4⟩ := x
  obtain ⟨k, rfl⟩ : ∃ k', k = k' + 1 := ⟨k - 1, by omega⟩
  obtain ⟨k, rfl⟩ : ∃ k', k = k' + 7 + 1 := ⟨k - 8, by omega⟩
  simp only [stepB]
  cases f0 with
  | true =>
    rw [spec_StepBytes.f, if_pos rfl, if_pos rfl]
    by_cases h : f2 = 65536
    · rw [if_pos h, if_pos h, spec_StepBytes.j0]
      exact steps_l0 0 true f1 f2 f3 f4 7 0 k rfl
    · rw [if_neg h, if_neg h, spec_StepBytes.j0]
      exact steps_l0 f2 true f1 f2 f3 f4 7 0 k rfl
  | false =>
    have := h3 rfl
    simp only at this
    rw [spec_StepBytes.f, if_neg (by decide), if_neg (by decide)]
    simp only [Option.bind_some]
    have e : (f3.length : Int) % 256 = f3.length := by omega
    rw [e, if_pos (by simp only [List.length_cons, List.length_nil]; omega)]
    rfl
def codeN (h : Nat → Bool) : Nat → Nat
  | 0 => 128
  | i + 1 => codeN h i + if h i then 2 ^ i else 0
theorem codeN_lt (h : Nat → Bool) : ∀ i, 128 ≤ codeN h i ∧ codeN h i < 128 + 2 ^ i
  | 0 => by simp [codeN]
  | i + 1 => by
    have := codeN_lt h i
    have h2 : (2 : Nat) ^ (i + 1) = 2 ^ i + 2 ^ i := by rw [Nat.pow_succ]; omega
    rw [codeN]; split <;> omega
theorem or_bit : ∀ (i : Fin 7) (s : Fin 64), s.val < 2 ^ i.val → (128 + s.val) ||| 2 ^ i.val = 128 + s.val + 2 ^ i.val := by decide
theorem codeI_eq (f1 x3 f4 : Int) : ∀ i, i ≤ 7 → codeI f1 x3 f4 i = ((codeN (here f1 x3 f4) i : Nat) : Int)
  | 0, _ => rfl
  | i + 1, hi => by
    have hb := codeN_lt (here f1 x3 f4) i
    have h6 : (2 : Nat) ^ i ≤ 2 ^ 6 := Nat.pow_le_pow_right (by decide) (by omega)
    rw [codeI, codeN, codeI_eq f1 x3 f4 i (by omega)]
    split
    · have e : shl .u8 1 (i : Int) = ((2 ^ i : Nat) : Int) := by
        unfold shl
        rw [show min ((i : Int)).toNat IntKind.u8.bits = i by simp [IntKind.bits]; omega, IntKind.wrap_u8]
        have : ((1 : Int) * 2 ^ i) = ((2 ^ i : Nat) : Int) := by push_cast; omega
        rw [this]; omega
      rw [e, bits_nat_or _ _ (by omega) (by omega)]
      have := or_bit ⟨i, by omega⟩ ⟨codeN (here f1 x3 f4) i - 128, by omega⟩ (by simp only; omega)
      simp only at this
      rw [show 128 + (codeN (here f1 x3 f4) i - 128) = codeN (here f1 x3 f4) i by omega] at this
      rw [this]
    · simp
theorem code_bits (h : Nat → Bool) : (codeN h 7 &&& 1 = 0 ↔ h 0 = false) ∧ (codeN h 7 &&& 2 = 0 ↔ h 1 = false) ∧ (codeN h 7 &&& 4 = 0 ↔ h 2 = false) ∧ (codeN h 7 &&& 8 = 0 ↔ h 3 = false) ∧ (codeN h 7 &&& 16 = 0 ↔ h 4 = false) ∧ (codeN h 7 &&& 32 = 0 ↔ h 5 = false) ∧ (codeN h 7 &&& 64 = 0 ↔ h 6 = false) := by
  simp only [codeN]
  generalize h 0 = b0; generalize h 1 = b1; generalize h 2 = b2; generalize h 3 = b3; generalize h 4 = b4; generalize h 5 = b5; generalize h 6 = b6
  revert b0 b1 b2 b3 b4 b5 b6
  decide
/-- The bytes of a copy, with their presence. -/
def q4 (f1 x3 f4 : Int) : List (Bool × Nat) := [(here f1 x3 f4 0, (byteAt f1 x3 0).toNat), (here f1 x3 f4 1, (byteAt f1 x3 1).toNat), (here f1 x3 f4 2, (byteAt f1 x3 2).toNat), (here f1 x3 f4 3, (byteAt f1 x3 3).toNat)]
def q3 (f1 x3 f4 : Int) : List (Bool × Nat) := [(here f1 x3 f4 4, (byteAt f1 x3 4).toNat), (here f1 x3 f4 5, (byteAt f1 x3 5).toNat), (here f1 x3 f4 6, (byteAt f1 x3 6).toNat)]
theorem byteAt_range (f1 x3 : Int) (i : Nat) : 0 ≤ byteAt f1 x3 i ∧ byteAt f1 x3 i < 256 := by
  unfold byteAt; split <;> omega
theorem encI_eq (f1 x3 f4 : Int) : encI f1 x3 f4 7 = enc (q4 f1 x3 f4) ++ enc (q3 f1 x3 f4) := by
  have hb := fun i => (byteAt_range f1 x3 i).1
  have ht : ∀ i, (((byteAt f1 x3 i).toNat : Nat) : Int) = byteAt f1 x3 i := fun i => by have := hb i; omega
  simp only [encI, q4, q3]
  cases h0 : here f1 x3 f4 0 <;> cases h1 : here f1 x3 f4 1 <;> cases h2 : here f1 x3 f4 2 <;> cases h3 : here f1 x3 f4 3 <;> cases h4 : here f1 x3 f4 4 <;> cases h5 : here f1 x3 f4 5 <;> cases h6 : here f1 x3 f4 6 <;> simp [enc, ht]
theorem absent (f1 x3 f4 : Int) (i : Nat) (h : here f1 x3 f4 i = false) : byteAt f1 x3 i = 0 := by
  simp [here] at h; exact h.1
theorem val_one (f1 x3 f4 : Int) (i s : Nat) : (if here f1 x3 f4 i then (byteAt f1 x3 i).toNat * 2 ^ s else 0) = (byteAt f1 x3 i).toNat * 2 ^ s := by
  split
  · rfl
  · rename_i h
    rw [absent f1 x3 f4 i (by simpa using h)]; simp
theorem shr_nat (F i : Nat) (hi : i ≤ 64) : shr .i64 (F : Int) (i : Int) = ((F / 2 ^ i : Nat) : Int) := by
  unfold shr
  rw [show min ((i : Int)).toNat IntKind.i64.bits = i by simp [IntKind.bits]; omega]
  push_cast; rfl
theorem val4 (F : Nat) (x3 f4 : Int) (h : F < 4294967296) : val (q4 (F : Int) x3 f4) 0 = F := by
  simp only [q4, val, val_one]
  have e : ∀ i, i < 4 → byteAt (F : Int) x3 i = ((F / 2 ^ (8 * i) % 256 : Nat) : Int) := fun i hi => by
    rw [byteAt, if_neg (by omega), shr_nat _ _ (by omega)]; omega
  rw [e 0 (by omega), e 1 (by omega), e 2 (by omega), e 3 (by omega)]
  simp only [Int.toNat_natCast]
  omega
theorem val3 (f1 : Int) (X : Nat) (f4 : Int) (h : X < 16777216) : val (q3 f1 (X : Int) f4) 0 = X := by
  simp only [q3, val, val_one]
  have e : ∀ i, 4 ≤ i → i < 7 → byteAt f1 (X : Int) i = ((X / 2 ^ (8 * (i - 4)) % 256 : Nat) : Int) := fun i h4 hi => by
    rw [byteAt, if_pos (by omega), shr_nat _ _ (by omega)]; omega
  rw [e 4 (by omega) (by omega), e 5 (by omega) (by omega), e 6 (by omega) (by omega)]
  simp only [Int.toNat_natCast]
  omega
/-! ### Steps -/
/-- An instruction that is one for a base. -/
def Good (x : S56) (base : List Int) : Prop := if x.f0 = true then 0 ≤ x.f1 ∧ 1 ≤ x.f2 ∧ x.f2 < 16777216 ∧ x.f1 < base.length ∧ x.f2 ≤ base.length - x.f1 else 1 ≤ x.f3.length ∧ x.f3.length ≤ 127
/-- What it makes. -/
def madeB (base : List Int) (x : S56) : List Int := if x.f0 = true then (base.take (x.f1 + x.f2).toNat).drop x.f1.toNat else x.f3
theorem drop_take' (l : List Int) (o s : Nat) : (l.take (o + s)).drop o = (l.drop o).take s := by rw [List.drop_take]; congr 1; omega
theorem made_copy {x : S56} {base : List Int} (hx : x.f0 = true) (h : Good x base) : madeB base x = (base.drop x.f1.toNat).take x.f2.toNat ∧ x.f1.toNat + x.f2.toNat ≤ base.length ∧ (madeB base x).length = x.f2.toNat := by
  rw [Good, if_pos hx] at h
  obtain ⟨h1, h2, h3, h4, h5⟩ := h
  have e : madeB base x = (base.drop x.f1.toNat).take x.f2.toNat := by
    rw [madeB, if_pos hx, show (x.f1 + x.f2).toNat = x.f1.toNat + x.f2.toNat by omega, drop_take']
  refine ⟨e, by omega, ?_⟩
  rw [e, List.length_take, List.length_drop]; omega
theorem made_len {x : S56} {base : List Int} (h : Good x base) : 1 ≤ (madeB base x).length ∧ (madeB base x).length ≤ 16777215 := by
  cases hx : x.f0 with
  | true =>
    obtain ⟨_, h2, h3⟩ := made_copy hx h
    rw [Good, if_pos hx] at h
    omega
  | false =>
    rw [Good, if_neg (by simp [hx])] at h
    rw [madeB, if_neg (by simp [hx])]; omega
/-- The parts of a copy. -/
theorem copy_parts {x : S56} {base : List Int} (hx : x.f0 = true) (h : Good x base) (hb : base.length ≤ 1000000) :
    ∃ (c o s : Nat) (q r : List Int), stepB x = (c : Int) :: (q ++ r) ∧ 128 ≤ c ∧ c < 256 ∧ (∀ tail, fields [1, 2, 4, 8] 0 c 0 (q ++ tail) = some (o, tail)) ∧ (∀ tail, fields [16, 32, 64] 0 c 0 (r ++ tail) = some (s, tail)) ∧
      (∀ n, n < q.length → fields [1, 2, 4, 8] 0 c 0 (q.take n) = none) ∧ (∀ n, n < r.length → fields [16, 32, 64] 0 c 0 (r.take n) = none) ∧ o = x.f1.toNat ∧ Go.Proofs.YtoofbppfbbhliaaDoor.leb.sizeOf s = x.f2.toNat := by
  rw [Good, if_pos hx] at h
  obtain ⟨h1, h2, h3, h4, h5⟩ := h
  obtain ⟨F, hF⟩ := Int.eq_ofNat_of_zero_le h1
  obtain ⟨X, hX⟩ : ∃ X : Nat, (if x.f2 = 65536 then (0 : Int) else x.f2) = X := ⟨(if x.f2 = 65536 then (0 : Int) else x.f2).toNat, by split <;> omega⟩
  have hXs : Go.Proofs.YtoofbppfbbhliaaDoor.leb.sizeOf X = x.f2.toNat ∧ X < 16777216 := by
    unfold Go.Proofs.YtoofbppfbbhliaaDoor.leb.sizeOf; split at hX <;> split <;> omega
  have hcb := code_bits (here (F : Int) X x.f4)
  have hcl := codeN_lt (here (F : Int) X x.f4) 7
  have m4 : ∀ (j m : Nat) (y : Bool × Nat), [1, 2, 4, 8][j]? = some m → (q4 (F : Int) X x.f4)[j]? = some y → (codeN (here (F : Int) X x.f4) 7 &&& m = 0 ↔ y.1 = false) := by
    intro j m y hm hy
    match j, hm, hy with
    | 0, hm, hy => cases hm; cases hy; exact hcb.1
    | 1, hm, hy => cases hm; cases hy; exact hcb.2.1
    | 2, hm, hy => cases hm; cases hy; exact hcb.2.2.1
    | 3, hm, hy => cases hm; cases hy; exact hcb.2.2.2.1
    | j + 4, hm, hy => simp at hm
  have m3 : ∀ (j m : Nat) (y : Bool × Nat), [16, 32, 64][j]? = some m → (q3 (F : Int) X x.f4)[j]? = some y → (codeN (here (F : Int) X x.f4) 7 &&& m = 0 ↔ y.1 = false) := by
    intro j m y hm hy
    match j, hm, hy with
    | 0, hm, hy => cases hm; cases hy; exact hcb.2.2.2.2.1
    | 1, hm, hy => cases hm; cases hy; exact hcb.2.2.2.2.2.1
    | 2, hm, hy => cases hm; cases hy; exact hcb.2.2.2.2.2.2
    | j + 3, hm, hy => simp at hm
  refine ⟨codeN (here (F : Int) X x.f4) 7, F, X, enc (q4 F X x.f4), enc (q3 F X x.f4), ?_, hcl.1, by simpa using hcl.2, fun tail => ?_, fun tail => ?_, fun n hn => ?_, fun n hn => ?_, by rw [hF]; simp, hXs.1⟩
  · rw [stepB, if_pos hx, hX, hF, codeI_eq _ _ _ 7 (by omega), encI_eq]
  · rw [fields_enc _ _ _ _ _ _ rfl m4, val4 F X x.f4 (by omega)]; simp
  · rw [fields_enc _ _ _ _ _ _ rfl m3, val3 F X x.f4 hXs.2]; simp
  · exact fields_cut _ _ _ _ _ _ rfl m4 hn
  · exact fields_cut _ _ _ _ _ _ rfl m3 hn
theorem patch_whole {x : S56} {base : List Int} (h : Good x base) (hb : base.length ≤ 1000000) {T : Nat} {tail out : List Int} {r : Option (List Int)} (hT : (madeB base x).length ≤ T)
    (hp : Patch base (T - (madeB base x).length) tail (out ++ madeB base x) r) : Patch base T (stepB x ++ tail) out r := by
  have hl := made_len h
  cases hx : x.f0 with
  | true =>
    obtain ⟨c, o, s, q, r', e, h1, h2, h3, h4, _, _, rfl, hs⟩ := copy_parts hx h hb
    obtain ⟨em, hfit, hml⟩ := made_copy hx h
    rw [e, List.cons_append]
    rw [hml] at hT hp
    rw [em] at hp
    refine Patch.copy (o := x.f1.toNat) (s := s) (d1 := r' ++ tail) (d2 := tail) (by omega) h1 h2 (by rw [List.append_assoc]; exact h3 _) (h4 _) (by rw [hs]; exact hT) (by rw [hs]; exact hfit) ?_
    rw [hs]; exact hp
  | false =>
    have hf : ¬ x.f0 = true := by simp [hx]
    rw [madeB, if_neg hf] at hT hp hl
    rw [Good, if_neg hf] at h
    rw [stepB, if_neg hf, List.cons_append]
    refine Patch.ins (by omega) (by omega) (by omega) hT (by rw [List.length_append]; omega) ?_
    rw [List.drop_left, List.take_left]; exact hp
theorem patch_cut {x : S56} {base : List Int} (h : Good x base) (hb : base.length ≤ 1000000) {T n : Nat} {out : List Int} (hT : (madeB base x).length ≤ T) (hn : n < (stepB x).length) : Patch base T ((stepB x).take n) out none := by
  have hl := made_len h
  cases n with
  | zero => exact Patch.cut (by omega)
  | succ n =>
    cases hx : x.f0 with
    | true =>
      obtain ⟨c, o, s, q, r', e, h1, h2, h3, h4, h5, h6, rfl, hs⟩ := copy_parts hx h hb
      rw [e] at hn ⊢
      rw [List.take_succ_cons]
      by_cases hq : n < q.length
      · refine Patch.offCut (by omega) h1 h2 ?_
        rw [List.take_append_of_le_length (by omega)]; exact h5 n hq
      · have et : (q ++ r').take n = q ++ r'.take (n - q.length) := by rw [List.take_append, List.take_of_length_le (by omega)]
        rw [et]
        refine Patch.sizeCut (by omega) h1 h2 (h3 _) (h6 _ ?_)
        simp only [List.length_cons, List.length_append] at hn; omega
    | false =>
      have hf : ¬ x.f0 = true := by simp [hx]
      rw [madeB, if_neg hf] at hT hl
      rw [Good, if_neg hf] at h
      rw [stepB, if_neg hf] at hn ⊢
      rw [List.take_succ_cons]
      simp only [List.length_cons] at hn
      exact Patch.insCut (by omega) (by omega) (by omega) hT (by rw [List.length_take]; omega)
/-- All instructions, as written; what they make. -/
def flat (l : List S56) : List Int := l.flatMap stepB
def madeAll (base : List Int) (l : List S56) : List Int := l.flatMap (madeB base)
theorem patch_list {base : List Int} (hb : base.length ≤ 1000000) : ∀ (l : List S56) (T : Nat) (tail out : List Int) (r : Option (List Int)), (∀ x ∈ l, Good x base) → (madeAll base l).length ≤ T →
    Patch base (T - (madeAll base l).length) tail (out ++ madeAll base l) r → Patch base T (flat l ++ tail) out r
  | [], T, tail, out, r, _, _, hp => by simpa [flat, madeAll] using hp
  | x :: l, T, tail, out, r, hg, hT, hp => by
    simp only [madeAll, List.flatMap_cons, List.length_append] at hT hp
    simp only [flat, List.flatMap_cons, List.append_assoc]
    refine patch_whole (hg x (by simp)) hb (by omega) (patch_list hb l _ _ _ _ (fun y hy => hg y (by simp [hy])) (by simp only [madeAll]; omega) ?_)
    simp only [madeAll]
    rw [List.append_assoc, Nat.sub_sub]; exact hp
theorem patch_list_cut {base : List Int} (hb : base.length ≤ 1000000) : ∀ (l : List S56) (T n : Nat) (out : List Int), (∀ x ∈ l, Good x base) → (madeAll base l).length ≤ T → n < (flat l).length → Patch base T ((flat l).take n) out none
  | [], T, n, out, _, _, hn => by simp [flat] at hn
  | x :: l, T, n, out, hg, hT, hn => by
    simp only [madeAll, List.flatMap_cons, List.length_append] at hT
    simp only [flat, List.flatMap_cons, List.length_append] at hn ⊢
    by_cases h : n < (stepB x).length
    · rw [List.take_append_of_le_length (by omega)]
      exact patch_cut (hg x (by simp)) hb (by omega) h
    · rw [List.take_append, List.take_of_length_le (by omega)]
      exact patch_whole (hg x (by simp)) hb (by omega) (patch_list_cut hb l _ _ _ (fun y hy => hg y (by simp [hy])) (by simp only [madeAll]; omega) (by simp only [flat]; omega))
/-! ### The functions of fuel on lists of instructions -/
theorem rd_get {l : List S56} {j : Nat} (h : j < l.length) : rd_T56 l (j : Int) = l[j] := by
  unfold rd_T56
  rw [Int.toNat_natCast, List.getD_eq_getElem?_getD, List.getElem?_eq_getElem h]; rfl
theorem made_l0 (base : List Int) (l : List S56) (hb : base.length ≤ 1000000) (hll : l.length ≤ 500) (hg : ∀ x ∈ l, Good x base) : ∀ (m j k : Nat) (acc : List Int), j + m = l.length → m < k → acc.length + m * 16777216 < 140737488355328 →
    spec_Made.l0 k base acc l (l.length : Int) (j : Int) = some (acc ++ madeAll base (l.drop j))
  | 0, j, k, acc, h, hk, ha => by
    obtain ⟨k, rfl⟩ : ∃ k', k = k' + 1 := ⟨k - 1, by omega⟩
    rw [spec_Made.l0, if_neg (by omega), List.drop_of_length_le (by omega)]
    simp [madeAll]
  | m + 1, j, k, acc, h, hk, ha => by
    obtain ⟨k, rfl⟩ : ∃ k', k = k' + 1 := ⟨k - 1, by omega⟩
    have hj : j < l.length := by omega
    have hG := hg l[j] (List.getElem_mem hj)
    have hml := made_len hG
    have e2 : wrap64 ((j : Int) + 1) = ((j + 1 : Nat) : Int) := by rw [w64 (by omega) (by omega)]; omega
    have ed : madeAll base (l.drop j) = madeB base l[j] ++ madeAll base (l.drop (j + 1)) := by rw [List.drop_eq_getElem_cons hj]; exact List.flatMap_cons
    rw [spec_Made.l0, if_pos (by omega), if_pos (by omega), if_pos (by omega), rd_get hj, e2, ed]
    cases hx : l[j].f0 with
    | true =>
      have hG' := hG
      rw [Good, if_pos hx] at hG'
      obtain ⟨h1, h2, h3, h4, h5⟩ := hG'
      have ew : wrap64 (l[j].f1 + l[j].f2) = l[j].f1 + l[j].f2 := w64 (by omega) (by omega)
      have em : (base.take (l[j].f1 + l[j].f2).toNat).drop l[j].f1.toNat = madeB base l[j] := by rw [madeB, if_pos hx]
      rw [if_pos rfl, if_pos h1, ew, if_pos (by omega), if_pos (by omega), em, if_pos (by omega), made_l0 base l hb hll hg m (j + 1) k _ (by omega) (by omega) (by rw [List.length_append]; omega), List.append_assoc]
    | false =>
      have em : l[j].f3 = madeB base l[j] := by rw [madeB, if_neg (by simp [hx])]
      rw [if_neg (by decide), em, if_pos (by omega), made_l0 base l hb hll hg m (j + 1) k _ (by omega) (by omega) (by rw [List.length_append]; omega), List.append_assoc]
theorem made_f (base : List Int) (l : List S56) (hb : base.length ≤ 1000000) (hll : l.length ≤ 500) (hg : ∀ x ∈ l, Good x base) (k : Nat) (hk : 500 < k) : spec_Made.f k base l = some (madeAll base l) := by
  rw [spec_Made.f]
  have := made_l0 base l hb hll hg l.length 0 k [] (by omega) (by omega) (by simp; omega)
  simpa using this
theorem madeAll_len (base : List Int) : ∀ (l : List S56), (∀ x ∈ l, Good x base) → l.length ≤ (madeAll base l).length ∧ (madeAll base l).length ≤ l.length * 16777215
  | [], _ => by simp [madeAll]
  | x :: l, hg => by
    have h1 := made_len (hg x (by simp))
    have h2 := madeAll_len base l (fun y hy => hg y (by simp [hy]))
    simp only [madeAll, List.flatMap_cons, List.length_append, List.length_cons] at h2 ⊢
    omega
theorem stepB_len {x : S56} {base : List Int} (h : Good x base) : 1 ≤ (stepB x).length ∧ (stepB x).length ≤ 128 := by
  rw [stepB]
  split
  · have := encI_len x.f1 (if x.f2 = 65536 then 0 else x.f2) x.f4 7
    simp only [List.length_cons]; omega
  · rename_i hx
    rw [Good, if_neg hx] at h
    simp only [List.length_cons]; omega
theorem flat_len {base : List Int} : ∀ (l : List S56), (∀ x ∈ l, Good x base) → l.length ≤ (flat l).length ∧ (flat l).length ≤ l.length * 128
  | [], _ => by simp [flat]
  | x :: l, hg => by
    have h1 := stepB_len (hg x (by simp))
    have h2 := flat_len l (fun y hy => hg y (by simp [hy]))
    simp only [flat, List.flatMap_cons, List.length_append, List.length_cons] at h2 ⊢
    omega
theorem good_bytes (k : Nat) {x : S56} {base : List Int} (h : Good x base) (hk : 9 ≤ k) : spec_StepBytes.f k x.f0 x.f1 x.f2 x.f3 x.f4 = some (stepB x) :=
  stepBytes k x hk (fun hx => by rw [Good, if_neg (by simp [hx])] at h; omega)
theorem delta_l0 (base : List Int) (l : List S56) (hll : l.length ≤ 500) (hg : ∀ x ∈ l, Good x base) : ∀ (m j k : Nat) (acc : List Int), j + m = l.length → m + 9 < k → acc.length + m * 128 < 140737488355328 →
    spec_Delta.l0 k acc l (l.length : Int) (j : Int) = some (acc ++ flat (l.drop j))
  | 0, j, k, acc, h, hk, ha => by
    obtain ⟨k, rfl⟩ : ∃ k', k = k' + 1 := ⟨k - 1, by omega⟩
    rw [spec_Delta.l0, if_neg (by omega), List.drop_of_length_le (by omega)]
    simp [flat]
  | m + 1, j, k, acc, h, hk, ha => by
    obtain ⟨k, rfl⟩ : ∃ k', k = k' + 1 := ⟨k - 1, by omega⟩
    have hj : j < l.length := by omega
    have hG := hg l[j] (List.getElem_mem hj)
    have hsl := stepB_len hG
    have e2 : wrap64 ((j : Int) + 1) = ((j + 1 : Nat) : Int) := by rw [w64 (by omega) (by omega)]; omega
    have ed : flat (l.drop j) = stepB l[j] ++ flat (l.drop (j + 1)) := by rw [List.drop_eq_getElem_cons hj]; exact List.flatMap_cons
    rw [spec_Delta.l0, if_pos (by omega), if_pos (by omega), if_pos (by omega), rd_get hj, e2, ed, good_bytes k hG (by omega)]
    simp only [Option.bind_some]
    rw [if_pos (by omega), delta_l0 base l hll hg m (j + 1) k _ (by omega) (by omega) (by rw [List.length_append]; omega), List.append_assoc]
theorem seven_len (n : Nat) (h : n < 9223372036854775808) : (seven n).length ≤ 9 := by
  rw [seven, sevens_length]; exact digits_len 9 n (by simpa using h) (by omega)
theorem delta_f (base : List Int) (l : List S56) (hb : base.length ≤ 1000000) (hll : l.length ≤ 500) (hg : ∀ x ∈ l, Good x base) (k : Nat) (hk : 600 < k) :
    spec_Delta.f k base l = some (seven base.length ++ seven (madeAll base l).length ++ flat l) := by
  have hm := madeAll_len base l hg
  have h1 := seven_len base.length (by omega)
  have h2 := seven_len (madeAll base l).length (by omega)
  rw [spec_Delta.f, size7 k _ (by omega) (by omega)]
  simp only [Option.bind_some]
  rw [made_f base l hb hll hg k (by omega)]
  simp only [Option.bind_some]
  rw [size7 k _ (by omega) (by omega)]
  simp only [Option.bind_some]
  rw [if_pos (by omega)]
  have := delta_l0 base l hll hg l.length 0 k (seven base.length ++ seven (madeAll base l).length) (by omega) (by omega) (by rw [List.length_append]; omega)
  simpa using this
/-- Whether instructions are such. -/
theorem good_one (x : S56) (base : List Int) (hb : base.length ≤ 9223372036854775807) : ∃ b, spec_GoodStep.f x.f0 x.f1 x.f2 x.f3 x.f4 base = some b ∧ (b = true → Good x base) := by
  unfold spec_GoodStep.f Good
  by_cases h0 : x.f0 = true
  · rw [if_pos h0, if_pos h0]
    by_cases h1 : x.f1 ≥ 0
    · rw [if_pos h1]
      by_cases h2 : x.f2 ≥ 1
      · rw [if_pos h2]
        by_cases h3 : x.f2 < 16777216
        · rw [if_pos h3]
          by_cases h4 : x.f1 < (base.length : Int)
          · rw [if_pos h4, w64 (by omega) (by omega)]
            exact ⟨_, rfl, fun h => by have := of_decide_eq_true h; exact ⟨h1, h2, h3, h4, this⟩⟩
          · rw [if_neg h4]; exact ⟨_, rfl, fun h => by cases h⟩
        · rw [if_neg h3]; exact ⟨_, rfl, fun h => by cases h⟩
      · rw [if_neg h2]; exact ⟨_, rfl, fun h => by cases h⟩
    · rw [if_neg h1]; exact ⟨_, rfl, fun h => by cases h⟩
  · rw [if_neg h0, if_neg h0]
    by_cases h1 : (x.f3.length : Int) ≥ 1
    · rw [if_pos h1]; exact ⟨_, rfl, fun h => by have := of_decide_eq_true h; omega⟩
    · rw [if_neg h1]; exact ⟨_, rfl, fun h => by cases h⟩
theorem good_l0 (base : List Int) (l : List S56) (hb : base.length ≤ 9223372036854775807) (hl : l.length ≤ 9223372036854775807) : ∀ (m j k : Nat), j + m = l.length → m < k →
    ∃ b, spec_GoodSteps.l0 k l base l (l.length : Int) (j : Int) = some b ∧ (b = true → (∀ x ∈ l.drop j, Good x base) ∧ 0 < l.length ∧ l.length ≤ 500 ∧ base.length ≤ 1000000)
  | 0, j, k, h, hk => by
    obtain ⟨k, rfl⟩ : ∃ k', k = k' + 1 := ⟨k - 1, by omega⟩
    rw [spec_GoodSteps.l0, if_neg (by omega), List.drop_of_length_le (by omega)]
    by_cases h1 : (l.length : Int) > 0
    · rw [if_pos h1]
      by_cases h2 : (l.length : Int) ≤ 500
      · rw [if_pos h2]
        exact ⟨_, rfl, fun h => by have := of_decide_eq_true h; exact ⟨fun x hx => (List.not_mem_nil hx).elim, by omega, by omega, by omega⟩⟩
      · rw [if_neg h2]; exact ⟨_, rfl, fun h => by cases h⟩
    · rw [if_neg h1]; exact ⟨_, rfl, fun h => by cases h⟩
  | m + 1, j, k, h, hk => by
    obtain ⟨k, rfl⟩ : ∃ k', k = k' + 1 := ⟨k - 1, by omega⟩
    have hj : j < l.length := by omega
    have e2 : wrap64 ((j : Int) + 1) = ((j + 1 : Nat) : Int) := by rw [w64 (by omega) (by omega)]; omega
    obtain ⟨b, hbq, hg⟩ := good_one l[j] base hb
    rw [spec_GoodSteps.l0, if_pos (by omega), if_pos (by omega), if_pos (by omega), rd_get hj, e2, hbq]
    simp only [Option.bind_some]
    cases b with
    | false => rw [if_neg (by decide)]; exact ⟨_, rfl, fun h => by cases h⟩
    | true =>
      rw [if_pos rfl]
      obtain ⟨b2, h2, h3⟩ := good_l0 base l hb hl m (j + 1) k (by omega) (by omega)
      refine ⟨b2, h2, fun hb2 => ?_⟩
      obtain ⟨h4, h5⟩ := h3 hb2
      refine ⟨fun x hx => ?_, h5⟩
      rw [List.drop_eq_getElem_cons hj] at hx
      rcases List.mem_cons.1 hx with rfl | hx
      · exact hg rfl
      · exact h4 x hx
theorem good_f (base : List Int) (l : List S56) (hb : base.length ≤ 9223372036854775807) (hl : l.length ≤ 9223372036854775807) : ∃ b, spec_GoodSteps.f (l.length + 1) l base = some b ∧ (b = true → (∀ x ∈ l, Good x base) ∧ 0 < l.length ∧ l.length ≤ 500 ∧ base.length ≤ 1000000) := by
  obtain ⟨b, h1, h2⟩ := good_l0 base l hb hl l.length 0 (l.length + 1) (by omega) (by omega)
  exact ⟨b, h1, by simpa using h2⟩
theorem fits_l0 (l : List S56) (hl : l.length ≤ 2147483647) : ∀ (m j k : Nat), j + m = l.length → m < k → ∃ b, laws_zzFits7.l0 k l (l.length : Int) (j : Int) = some b
  | 0, j, k, h, hk => by
    obtain ⟨k, rfl⟩ : ∃ k', k = k' + 1 := ⟨k - 1, by omega⟩
    rw [laws_zzFits7.l0, if_neg (by omega)]; exact ⟨_, rfl⟩
  | m + 1, j, k, h, hk => by
    obtain ⟨k, rfl⟩ : ∃ k', k = k' + 1 := ⟨k - 1, by omega⟩
    have hj : j < l.length := by omega
    have e2 : wrap64 ((j : Int) + 1) = ((j + 1 : Nat) : Int) := by rw [w64 (by omega) (by omega)]; omega
    rw [laws_zzFits7.l0, if_pos (by omega), if_pos (by omega), if_pos (by omega), rd_get hj, e2]
    unfold laws_zzFits8.f
    split <;> simp only [Option.bind_some]
    · exact ⟨_, rfl⟩
    · rw [if_pos (by trivial)]; exact fits_l0 l hl m (j + 1) k (by omega) (by omega)
theorem fits_f (l : List S56) : ∃ b, laws_zzFits7.f (l.length + 1) l = some b ∧ (b = true → l.length ≤ 2147483647) := by
  unfold laws_zzFits7.f
  by_cases h : (l.length : Int) > 2147483647
  · rw [if_pos h]; exact ⟨_, rfl, fun h => by cases h⟩
  · rw [if_neg h]
    obtain ⟨b, hb⟩ := fits_l0 l (by omega) l.length 0 (l.length + 1) (by omega) (by omega)
    exact ⟨b, hb, fun _ => by omega⟩
end Go.Proofs.YtoofbppfbbhliaaDoor.steps
