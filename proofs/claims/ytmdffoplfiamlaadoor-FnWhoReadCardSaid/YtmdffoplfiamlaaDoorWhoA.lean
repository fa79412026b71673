/- Signatures: the specification's texts: spec.Decimal, spec.ZoneText, spec.WhoText. -/
import Derived.Test.YtmdffoplfiamlaaDoorWhoD
import Derived.Test.YtmdffoplfiamlaaDoorMFnWhoReadx4
import Derived.Laws.Runes
import Derived.WalkSpells
import Derived.Deep.RegionHeld3
namespace Go.Proofs.YtmdffoplfiamlaaDoor.who
open Go.RowKit Go.Lib Go.Proofs.YtmdffoplfiamlaaDoorW.PrintWords Go.Proofs.YtmdffoplfiamlaaDoorW.PrintLast Go.Proofs.YtmdffoplfiamlaaDoorW.PrintMore Go.Proofs.YtmdffoplfiamlaaDoor.PFnWhoRead
set_option linter.unusedVariables false
set_option linter.unusedSimpArgs false
set_option maxHeartbeats 2000000
set_option maxRecDepth 100000
theorem encode_digit (d : Nat) (hd : d < 10) : Utf8.encode ((48 : Int) + (d : Int)) = ⟨#[UInt8.ofNat (48 + d)]⟩ := by
  match d, hd with
  | 0, _ => rfl
  | 1, _ => rfl
  | 2, _ => rfl
  | 3, _ => rfl
  | 4, _ => rfl
  | 5, _ => rfl
  | 6, _ => rfl
  | 7, _ => rfl
  | 8, _ => rfl
  | 9, _ => rfl
/-- The text of digits. -/
def txt (l : List UInt8) : ByteArray := ⟨l.toArray⟩
theorem txt_list (l : List UInt8) : (txt l).data.toList = l := rfl
theorem txt_size (l : List UInt8) : (txt l).size = l.length := by unfold txt; show (l.toArray).size = _; simp
theorem txt_append (a b : List UInt8) : txt a ++ txt b = txt (a ++ b) := by
  apply ByteArray.ext; rw [ByteArray.data_append]; unfold txt; simp
theorem decDigits_len (k : Nat) : ∀ n : Nat, n < 10 ^ (k + 1) → (decDigits n).length ≤ k + 1 := by
  induction k with
  | zero => intro n h; rw [decDigits, dif_pos (by simpa using h)]; simp
  | succ k ih =>
    intro n h
    by_cases h10 : n < 10
    · rw [decDigits, dif_pos h10]; simp
    · rw [decDigits, dif_neg h10, List.length_append]
      have := ih (n / 10) (by rw [Nat.pow_succ] at h; omega)
      simp only [List.length_singleton]
      omega
theorem dec_len {n : Nat} (h : n < 4611686018427387904) : (txt (decDigits n)).size ≤ 19 := by
  rw [txt_size]; exact decDigits_len 18 n (by omega)
theorem decimal_any : ∀ (n : Nat), n < 4611686018427387904 → ∀ w : World, Calls Tryd.prog 31 #[.int .i64 (n : Int)] w fun e w' => e = .returned (.string (txt (decDigits n))) ∧ w = w' := by
  intro n
  induction n using Nat.strongRecOn with
  | _ n ih =>
    intro hn w
    have n0 : (0 : Int) ≤ (n : Int) := by omega
    by_cases h : n < 10
    · have hen := encode_digit n h
      obtain ⟨s, hs⟩ : ∃ s : ByteArray, (⟨#[UInt8.ofNat (48 + n)]⟩ : ByteArray) = s := ⟨_, rfl⟩
      have HS := Aside0.mk (show txt (decDigits n) = s from by rw [decDigits, dif_pos h, ← hs]; rfl)
      rw [hs] at hen
      have c0 : decide ((n : Int) < 10) = true := decide_eq_true (by omega)
      have c1 : decide (n < 10) = true := decide_eq_true h
      have n1 : (n : Int) < 10 := by omega
      clear hs ih
      go_enter Tryd.func31, Tryd.ntmps31
      go_wp2_with fail
      go_ret
      exact ⟨by rw [HS.out]; rfl, rfl⟩
    · obtain ⟨r, hr⟩ : ∃ r, n % 10 = r := ⟨_, rfl⟩
      obtain ⟨q, hq⟩ : ∃ q, n / 10 = q := ⟨_, rfl⟩
      have hr8 : r < 10 := by omega
      have em : (n : Int) % 10 = (r : Int) := by omega
      have eq : (n : Int) / 10 = (q : Int) := by omega
      have m0 : (0 : Int) ≤ (r : Int) := by omega
      have m1 : (r : Int) < 10 := by omega
      have IH := Aside0.mk (ih q (by omega) (by omega))
      have hen := encode_digit r hr8
      have hlq := dec_len (n := q) (by omega)
      obtain ⟨t, ht⟩ : ∃ t : ByteArray, txt (decDigits q) = t := ⟨_, rfl⟩
      obtain ⟨s, hs⟩ : ∃ s : ByteArray, (⟨#[UInt8.ofNat (48 + r)]⟩ : ByteArray) = s := ⟨_, rfl⟩
      have HS := Aside0.mk (show txt (decDigits n) = t ++ s from by
        rw [← ht, ← hs, decDigits, dif_neg h, hr, hq]
        exact (txt_append _ [UInt8.ofNat (48 + r)]).symm)
      have hsz : s.size = 1 := by rw [← hs]; rfl
      have s1 : s.size ≤ 1 := by omega
      rw [hs] at hen
      rw [ht] at hlq IH
      have c0 : decide ((n : Int) < 10) = false := decide_eq_false (by omega)
      have c1 : decide (n < 10) = false := decide_eq_false h
      clear hs ht ih hr hq hsz
      go_enter Tryd.func31, Tryd.ntmps31
      go_wp2_with fail
      refine (IH.out _).mono ?_
      rintro e w1 ⟨rfl, rfl⟩
      go_wp2_with fail
      go_ret
      exact ⟨by rw [HS.out]; rfl, rfl⟩
theorem strOf_two {a b : Nat} (ha : a < 10) (hb : b < 10) : strOfNums [((48 + a : Nat) : Int), ((48 + b : Nat) : Int)] = txt [UInt8.ofNat (48 + a), UInt8.ofNat (48 + b)] := by
  rfl
theorem w64_id {x : Int} (h : -9223372036854775808 ≤ x) (h2 : x ≤ 9223372036854775807) : wrap64 x = x := by unfold wrap64; omega
theorem two_any (x : Int) (h0 : 0 ≤ x) (h1 : x < 100) (w : World) : Calls Tryd.prog 50 #[.int .i64 x] w fun e w' => e = .returned (.string (txt (twoD x.toNat))) ∧ Below w.heap.size w w' := by
  obtain ⟨n, rfl⟩ : ∃ n : Nat, x = (n : Int) := ⟨x.toNat, by omega⟩
  refine spec_two.calls _ _ w ?_
  unfold spec_two.f
  rw [Int.toNat_natCast]
  have e1 : (wrap64 (48 + (Int.tmod (wrap64 (Int.tdiv (n : Int) 10)) 10))) % 256 = ((48 + n / 10 % 10 : Nat) : Int) := by
    rw [Int.tdiv_eq_ediv_of_nonneg h0, w64_id (x := (n : Int) / 10) (by omega) (by omega), Int.tmod_eq_emod_of_nonneg (by omega), w64_id (by omega) (by omega)]
    omega
  have e2 : (wrap64 (48 + (Int.tmod (n : Int) 10))) % 256 = ((48 + n % 10 : Nat) : Int) := by
    rw [Int.tmod_eq_emod_of_nonneg h0, w64_id (by omega) (by omega)]
    omega
  rw [e1, e2, strOf_two (by omega) (by omega)]
  rfl
/-- A zone as the format tells it. -/
def zoneD (neg : Bool) (a : Nat) : List UInt8 := (if neg then 45 else 43) :: (twoD (a / 3600) ++ twoD (a / 60 % 60))
theorem zone_size (neg : Bool) (a : Nat) : (zoneD neg a).length = 5 := rfl
theorem zone_neg (a : Nat) (h0 : 0 < a) (h1 : a < 360000) (w : World) : Calls Tryd.prog 32 #[.int .i64 (-(a : Int))] w fun e w' => e = .returned (.string (txt (zoneD true a))) ∧ Below w.heap.size w w' := by
  have a0 : (0 : Int) ≤ (a : Int) := by omega
  have a1 : (a : Int) < 360000 := by omega
  have b0 : (0 : Int) ≤ (a : Int) / 3600 := by omega
  have b1 : (a : Int) / 3600 < 100 := by omega
  have b2 : (0 : Int) ≤ (a : Int) / 60 % 60 := by omega
  have b3 : (a : Int) / 60 % 60 < 100 := by omega
  have b4 : (0 : Int) ≤ (a : Int) / 60 := by omega
  have H1 := Aside0.mk (two_any ((a : Int) / 3600) b0 b1)
  have H2 := Aside0.mk (two_any ((a : Int) / 60 % 60) b2 b3)
  have e1 : ((a : Int) / 3600).toNat = a / 3600 := by omega
  have e2 : ((a : Int) / 60 % 60).toNat = a / 60 % 60 := by omega
  rw [e1] at H1
  rw [e2] at H2
  obtain ⟨s1, hs1⟩ : ∃ s1 : ByteArray, txt (twoD (a / 3600)) = s1 := ⟨_, rfl⟩
  obtain ⟨s2, hs2⟩ : ∃ s2 : ByteArray, txt (twoD (a / 60 % 60)) = s2 := ⟨_, rfl⟩
  have z1 : s1.size ≤ 2 := by rw [← hs1]; exact Nat.le_refl _
  have z2 : s2.size ≤ 2 := by rw [← hs2]; exact Nat.le_refl _
  have z3 : ((⟨#[45]⟩ : ByteArray) ++ s1).size ≤ 3 := by rw [ByteArray.size_append]; show 1 + _ ≤ _; omega
  have HZ := Aside0.mk (show txt (zoneD true a) = ((⟨#[45]⟩ : ByteArray) ++ s1) ++ s2 from by
    rw [← hs1, ← hs2]
    show _ = (txt [45] ++ txt _) ++ txt _
    rw [txt_append, txt_append]
    rfl)
  rw [hs1] at H1
  rw [hs2] at H2
  have c0 : decide ((-(a : Int)) < (0 : Int)) = true := by first | exact decide_eq_true (by omega) | exact decide_eq_false (by omega)
  clear hs1 hs2 e1 e2
  go_enter Tryd.func32, Tryd.ntmps32
  go_wp2_with fail
  refine (H1.out _).mono ?_
  rintro e w1 ⟨rfl, hb1⟩
  have HB1 := Aside0.mk hb1
  clear hb1
  go_wp2_with fail
  refine (H2.out _).mono ?_
  rintro e w2 ⟨rfl, hb2⟩
  have HB2 := Aside0.mk (below_step HB1.out hb2)
  clear hb2
  go_wp2_with fail
  go_ret
  exact ⟨by rw [HZ.out]; rfl, HB2.out⟩
theorem zone_pos (a : Nat) (h0 : 0 ≤ a) (h1 : a < 360000) (w : World) : Calls Tryd.prog 32 #[.int .i64 ((a : Int))] w fun e w' => e = .returned (.string (txt (zoneD false a))) ∧ Below w.heap.size w w' := by
  have a0 : (0 : Int) ≤ (a : Int) := by omega
  have a1 : (a : Int) < 360000 := by omega
  have b0 : (0 : Int) ≤ (a : Int) / 3600 := by omega
  have b1 : (a : Int) / 3600 < 100 := by omega
  have b2 : (0 : Int) ≤ (a : Int) / 60 % 60 := by omega
  have b3 : (a : Int) / 60 % 60 < 100 := by omega
  have b4 : (0 : Int) ≤ (a : Int) / 60 := by omega
  have H1 := Aside0.mk (two_any ((a : Int) / 3600) b0 b1)
  have H2 := Aside0.mk (two_any ((a : Int) / 60 % 60) b2 b3)
  have e1 : ((a : Int) / 3600).toNat = a / 3600 := by omega
  have e2 : ((a : Int) / 60 % 60).toNat = a / 60 % 60 := by omega
  rw [e1] at H1
  rw [e2] at H2
  obtain ⟨s1, hs1⟩ : ∃ s1 : ByteArray, txt (twoD (a / 3600)) = s1 := ⟨_, rfl⟩
  obtain ⟨s2, hs2⟩ : ∃ s2 : ByteArray, txt (twoD (a / 60 % 60)) = s2 := ⟨_, rfl⟩
  have z1 : s1.size ≤ 2 := by rw [← hs1]; exact Nat.le_refl _
  have z2 : s2.size ≤ 2 := by rw [← hs2]; exact Nat.le_refl _
  have z3 : ((⟨#[43]⟩ : ByteArray) ++ s1).size ≤ 3 := by rw [ByteArray.size_append]; show 1 + _ ≤ _; omega
  have HZ := Aside0.mk (show txt (zoneD false a) = ((⟨#[43]⟩ : ByteArray) ++ s1) ++ s2 from by
    rw [← hs1, ← hs2]
    show _ = (txt [43] ++ txt _) ++ txt _
    rw [txt_append, txt_append]
    rfl)
  rw [hs1] at H1
  rw [hs2] at H2
  have c0 : decide (((a : Int)) < (0 : Int)) = false := by first | exact decide_eq_true (by omega) | exact decide_eq_false (by omega)
  clear hs1 hs2 e1 e2
  go_enter Tryd.func32, Tryd.ntmps32
  go_wp2_with fail
  refine (H1.out _).mono ?_
  rintro e w1 ⟨rfl, hb1⟩
  have HB1 := Aside0.mk hb1
  clear hb1
  go_wp2_with fail
  refine (H2.out _).mono ?_
  rintro e w2 ⟨rfl, hb2⟩
  have HB2 := Aside0.mk (below_step HB1.out hb2)
  clear hb2
  go_wp2_with fail
  go_ret
  exact ⟨by rw [HZ.out]; rfl, HB2.out⟩
end Go.Proofs.YtmdffoplfiamlaaDoor.who
