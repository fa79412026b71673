/- The numbers in groups of seven bits, read: contract of decodeLEB128. -/
import Derived.Test.YtghcecngdhcjpaaDoorProg
import Derived.Test.YtghcecngdhcjpaaDoorSlw
import Derived.Test.YtghcecngdhcjpaaDoorWWords
import Derived.Test.YtghcecngdhcjpaaDoorWMore
import Derived.Deep.QuietTactic
import Derived.BigQuiet
import Derived.OwnWalk
import Derived.Laws.Bits64b
import Derived.RegionTactic
namespace Go.Proofs.YtghcecngdhcjpaaDoor.leb
open Go.RowKit Go.Proofs.YtghcecngdhcjpaaDoorW.PrintWords Go.Proofs.YtghcecngdhcjpaaDoorW.PrintLast Go.Proofs.YtghcecngdhcjpaaDoorW.PrintMore
set_option linter.unusedVariables false
set_option maxHeartbeats 1000000
set_option maxRecDepth 100000
/-- Digits of seven bits, the low ones first, as bytes. -/
def sevens : List Nat → List Int
  | [] => []
  | [d] => [(d : Int)]
  | d :: e :: r => ((d + 128 : Nat) : Int) :: sevens (e :: r)
/-- Their value. -/
def sevVal : List Nat → Nat
  | [] => 0
  | d :: r => d + 128 * sevVal r
theorem sevens_length : ∀ ds, (sevens ds).length = ds.length
  | [] => rfl
  | [_] => rfl
  | d :: e :: r => by simp [sevens, sevens_length (e :: r)]
theorem sevens_get : ∀ (ds : List Nat) (j : Nat) (h : j < ds.length), (sevens ds)[j]? = some (((ds[j] + if j + 1 < ds.length then 128 else 0 : Nat)) : Int)
  | [d], 0, _ => by simp [sevens]
  | d :: e :: r, 0, _ => by simp [sevens]
  | d :: e :: r, j + 1, h => by
    have := sevens_get (e :: r) j (by simp at h ⊢; omega)
    simpa [sevens] using this
theorem sevVal_lt : ∀ (ds : List Nat), (∀ d ∈ ds, d < 128) → sevVal ds < 128 ^ ds.length
  | [], _ => by simp [sevVal]
  | d :: r, h => by
    have h1 := sevVal_lt r (fun x hx => h x (by simp [hx]))
    have h2 := h d (by simp)
    simp only [sevVal, List.length_cons, Nat.pow_succ]
    omega
theorem sevVal_take : ∀ (ds : List Nat) (j : Nat) (h : j < ds.length), sevVal (ds.take (j + 1)) = sevVal (ds.take j) + ds[j] * 128 ^ j
  | d :: r, 0, _ => by simp [sevVal]
  | d :: r, j + 1, h => by
    have := sevVal_take r j (by simpa using h)
    simp only [List.take_succ_cons, sevVal, this, List.getElem_cons_succ, Nat.pow_succ, Nat.mul_add]
    rw [Nat.mul_left_comm, Nat.mul_comm 128 (128 ^ j), Nat.add_assoc, Nat.mul_comm 128]
/-- A byte of a row. -/
theorem byte_at {w : World} {A : Option Addr} {n : Nat} {xs : List Int} (h : Kd.C (Kd.int .u8) w A n xs) (i : Nat) (hi : i < n) {x : Int} (hx : xs[i]? = some x) : ∃ ad, A = some ad ∧ w.cell? (ad.add i) = some (.int .u8 x) := by
  obtain ⟨ad, c, e, _, hK, hc0⟩ := Kd.C_get h (0 : Int) (i : Int) (by omega) (by omega)
  refine ⟨ad, e, ?_⟩
  have h1 := hc0 0 (.int .u8 x) (by
    obtain rfl := hK
    simp [hx])
  simpa [Kd.int, Kd.scalar] using h1
theorem or_seven (a d k : Nat) (ha : a < 128 ^ k) : a ||| (d * 128 ^ k) = a + d * 128 ^ k := by
  have e : (128 : Nat) ^ k = 2 ^ (7 * k) := by rw [show (128 : Nat) = 2 ^ 7 from rfl, ← Nat.pow_mul]
  rw [e] at ha ⊢
  rw [Nat.or_comm, Nat.mul_comm, ← Nat.two_pow_add_eq_or_of_lt ha, Nat.add_comm]
theorem wrap64u (n : Nat) (h : n < 18446744073709551616) : IntKind.u64.wrap (n : Int) = n := by
  simp [IntKind.wrap, IntKind.bits, IntKind.signed]; omega
theorem seven_or (a d k : Nat) (ha : a < 128 ^ k) (hd : d < 128) (hk : k ≤ 8) (x : Nat) (hx : x = d ∨ x = d + 128) :
    bits .or .u64 (a : Int) (IntKind.u64.wrap (bits .and .u64 (x : Int) 127 * 2 ^ (k * 7))) = ((a + d * 128 ^ k : Nat) : Int) := by
  have e : (128 : Nat) ^ k = 2 ^ (k * 7) := by rw [show (128 : Nat) = 2 ^ 7 from rfl, ← Nat.pow_mul, Nat.mul_comm]
  have hp : (128 : Nat) ^ k ≤ 128 ^ 8 := Nat.pow_le_pow_right (by decide) hk
  have hm : d * 128 ^ k ≤ 127 * 128 ^ 8 := Nat.mul_le_mul (by omega) hp
  have hx' : x &&& 127 = d := by
    have := Nat.and_two_pow_sub_one_eq_mod x 7
    simp at this
    rw [this]
    omega
  have h1 : bits .and .u64 (x : Int) 127 = (d : Int) := by
    have := bits_and_u64_nat x 127 (by omega) (by decide)
    rw [hx'] at this
    exact this
  have h2 : (d : Int) * 2 ^ (k * 7) = ((d * 128 ^ k : Nat) : Int) := by rw [e]; push_cast; rfl
  have h3 : (128 : Nat) ^ 8 = 72057594037927936 := by decide
  rw [h1, h2, wrap64u _ (by omega), bits_or_u64_nat _ _ (by omega) (by omega), or_seven a d k ha]
theorem and128_hi : ∀ d : Fin 128, (d.val + 128) &&& 128 = 128 := by decide
theorem and128_lo : ∀ d : Fin 128, d.val &&& 128 = 0 := by decide
/-- One slice is the end of another one, in whatever world. -/
def Tail (A : Option Addr) (xs : List Int) (A' : Option Addr) (rest : List Int) : Prop := ∀ w1, Kd.C (Kd.int .u8) w1 A xs.length xs → Kd.C (Kd.int .u8) w1 A' rest.length rest
theorem leb_any (A : Option Addr) (c : Nat) (xs : List Int) (ds : List Nat) (rest : List Int) (w : World) (hr : Kd.C (Kd.int .u8) w A xs.length xs) (hc : xs.length ≤ c) (hcm : c ≤ maxLen)
    (hx : xs = sevens ds ++ rest) (h0 : 0 < ds.length) (h9 : ds.length ≤ 9) (hd : ∀ d ∈ ds, d < 128) :
    Calls Tryd.prog 65 #[.slice A xs.length c] w fun e w' => (∃ A' c', e = .returned (.tuple #[.int .u64 (sevVal ds), .slice A' rest.length c', .nilIface]) ∧ Tail A xs A' rest ∧ rest.length ≤ c' ∧ c' ≤ maxLen) ∧ ∃ n, w' = w.drewN n := by
  have n0 : ¬ (xs.length = 0) := by rw [hx, List.length_append, sevens_length]; omega
  have hlen : xs.length = ds.length + rest.length := by rw [hx, List.length_append, sevens_length]
  have hle : ds.length ≤ xs.length := by omega
  have HX := Aside0.mk hx
  have HR := Aside0.mk hr
  have HD := Aside0.mk hd
  obtain ⟨ad, rfl⟩ : ∃ ad, A = some ad := by
    obtain ⟨ad, h, _⟩ := byte_at hr 0 (by omega) (x := xs[0]'(by omega)) (by simp)
    exact ⟨ad, h⟩
  have HL := Aside0.mk hlen
  clear hx hr hd hlen
  have hwl : IntKind.u64.wrap (xs.length : Int) = xs.length := wrap64u _ (by have : maxLen = 9223372036854775807 := rfl; omega)
  go_enter Tryd.func65, Tryd.ntmps65
  go_wp2
  go_loopw [5, 6, 7] (fun n i b wr => ∃ k : Nat, k < ds.length ∧ n = .int .u64 (sevVal (ds.take k)) ∧ i = .int .u64 k ∧ (∃ b0 : Int, b = .int .u8 b0) ∧ ∃ m, wr = w.drewN m) (fun _ i _ _ => ds.length - (intOf i).toNat)
  case atStart => exact ⟨0, h0, rfl, rfl, ⟨0, rfl⟩, 0, rfl⟩
  case round =>
    obtain ⟨k, hk, rfl, rfl, ⟨b0, rfl⟩, m, rfl⟩ := hrel
    have hget : xs[k]? = some (((ds[k] + if k + 1 < ds.length then 128 else 0 : Nat)) : Int) := by
      rw [HX.out, List.getElem?_append_left (by rw [sevens_length]; exact hk)]
      exact sevens_get ds k hk
    have hd := HD.out ds[k] (List.getElem_mem hk)
    obtain ⟨ad', e, hcell⟩ := byte_at HR.out k (by omega) hget
    cases e
    have hkx : k < xs.length := by omega
    have hv : sevVal (ds.take k) < 128 ^ k := by
      have := sevVal_lt (ds.take k) (fun d h => HD.out d (List.mem_of_mem_take h))
      rwa [List.length_take, Nat.min_eq_left (by omega)] at this
    have hst := sevVal_take ds k hk
    by_cases hlast : k + 1 < ds.length
    · rw [if_pos hlast] at hcell
      obtain ⟨d, hde⟩ : ∃ d, ds[k] = d := ⟨_, rfl⟩
      rw [hde] at hd hcell hst
      have hor := seven_or _ d k hv hd (by omega) (d + 128) (.inr rfl)
      have hor' : bits .or .u64 ((sevVal (ds.take k) : Nat) : Int) (IntKind.u64.wrap (bits .and .u64 ((d : Int) + 128) 127 * 2 ^ (k * 7))) = ((sevVal (ds.take (k + 1)) : Nat) : Int) := by rw [hst]; exact_mod_cast hor
      have h128 := bits_and_u64_nat (d + 128) 128 (by omega) (by decide)
      have h128' : bits .and .u64 ((d : Int) + 128) 128 = 128 := by
        refine (show _ = _ from h128).trans ?_
        rw [and128_hi ⟨d, hd⟩]; rfl
      have hne : (((k : Int) + 1) == (xs.length : Int)) = false := by rw [beq_eq_false_iff_ne]; omega
      have HH := Aside0.mk hst
      have HH2 := Aside0.mk hor
      clear hst hor h128 hde
      go_wp2
      go_roundw
      case rel => exact ⟨k + 1, hlast, rfl, by simp, ⟨_, rfl⟩, m, rfl⟩
      case measure => simp [intOf]; omega
    · rw [if_neg hlast, Nat.add_zero] at hcell
      obtain ⟨d, hde⟩ : ∃ d, ds[k] = d := ⟨_, rfl⟩
      rw [hde] at hd hcell hst
      have hor' := seven_or _ d k hv hd (by omega) d (.inl rfl)
      have hall : ds.take (k + 1) = ds := List.take_of_length_le (by omega)
      rw [← hst, hall] at hor'
      have h128' : bits .and .u64 (d : Int) 128 = 0 := by
        refine (show _ = _ from bits_and_u64_nat d 128 (by omega) (by decide)).trans ?_
        rw [and128_lo ⟨d, hd⟩]; rfl
      have HH := Aside0.mk hst
      have HH3 := Aside0.mk hall
      have hk1 : k + 1 ≤ xs.length := by omega
      have hk2 : k + 1 ≤ c := by omega
      clear hst hde hall
      go_wp2
      have hrl : xs.length - (k + 1) = rest.length := by have := HL.out; omega
      have hdrop : xs.drop (k + 1) = rest := by
        rw [HX.out, List.drop_append_of_le_length (by rw [sevens_length]; omega), List.drop_of_length_le (by rw [sevens_length]; omega), List.nil_append]
      have hC := fun w1 (h1 : Kd.C (Kd.int .u8) w1 (some ad) xs.length xs) => Kd.C_drop h1 hk1 hc
      rw [hdrop] at hC
      have HC := Aside0.mk hC
      have HDR := Aside0.mk hdrop
      have HRL := Aside0.mk hrl
      have HC2 := Aside0.mk hk2
      clear hC hdrop hrl
      go_quiet (fail)
      all_goals go_wp2
      all_goals go_ret3
      all_goals (rw [HRL.out]; refine ⟨⟨_, _, rfl, ?_, ?_, ?_⟩, _, rfl⟩)
      all_goals first | (have := HC2.out; have := HRL.out; omega) | skip
      all_goals (intro w1 h1; have hC := HC.out w1 h1; split at hC)
      all_goals first | exact hC | (exfalso; omega) | (simpa [Addr.add, Kd.int, Kd.scalar] using hC)
end Go.Proofs.YtghcecngdhcjpaaDoor.leb
