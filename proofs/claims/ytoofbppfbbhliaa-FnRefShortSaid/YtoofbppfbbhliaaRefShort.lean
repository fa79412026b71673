/- Without its folder, a name is that of the branch or of the tag: for all texts s and remote FnRefShort answers true. Conditions: both texts are no longer than Go's texts can be (the row's own bound). -/
import Derived.Test.YtoofbppfbbhliaaRows
import Derived.WalkKit
import Derived.WalkSpells
import Derived.WalkLawsBesides
import Derived.Deep.QuietTactic
import Derived.BigQuiet
import Derived.Lib.Hide
import Derived.Lib.SmallJoins
import Derived.Lib.IndexBytes
import Derived.ProofKit
import Derived.OpenShut
import Derived.ChangeOld
import Derived.SizedLaws
namespace Go.Proofs.Ytoofbppfbbhliaa.fnRefShort
open Go.ChangeShapes Go.WideShapes Go.ChangeAt Go.RowKit
set_option linter.unusedVariables false
set_option maxHeartbeats 400000
set_option maxRecDepth 100000

/-- Where no text of the format stands in front: nothing is stored. -/
theorem scan_short (s f : ByteArray) (a : Addr) (K : Nat) (w : World) (hs : s.size ≤ 3000) (hf : K + 1 < f.size) (hK : K < 100)
    (hne : ∀ k, k < K → (!(f.extract k (k + 2)).toList == [37, 115]) = true) (heq : (!(f.extract K (K + 2)).toList == [37, 115]) = false) (hlt : (s.size : Int) < K) :
    Calls Try.prog 14 #[.string s, .string f, .pointer (some a)] w fun e w' => e = .returned (.tuple #[]) ∧ ∃ n, w' = w.drewN n := by
  go_enter Try.func14, Try.ntmps14
  go_wp2
  go_loop [6] (fun i => ∃ k : Nat, k ≤ K ∧ i = .int .i64 k) (fun i => K - (intOf i).toNat)
  case atStart => exact ⟨0, Nat.zero_le _, rfl⟩
  case round =>
    obtain ⟨k, hk, rfl⟩ := hrel
    by_cases h : k < K
    · have h1 : (k : Int) + 1 < f.size := by omega
      have h2 := hne k h
      go_wp2
      go_round
      case rel => exact ⟨k + 1, by omega, by go_num⟩
      case measure => simp [intOf]; omega
    · obtain rfl : k = K := by omega
      have h1 : (k : Int) + 1 < f.size := by omega
      go_wp2
      have h3 : decide (s.size < k) = true := by simp; omega
      go_quiet (fail)
      go_wp2
      refine bodyPost_ret (results_none rfl _ _ _) rfl ?_
      exact ⟨rfl, _, rfl⟩
theorem scan_other (s f : ByteArray) (a : Addr) (K : Nat) (w : World) (hs : s.size ≤ 3000) (hf : K + 1 < f.size) (hK : K < 100)
    (hne : ∀ k, k < K → (!(f.extract k (k + 2)).toList == [37, 115]) = true) (heq : (!(f.extract K (K + 2)).toList == [37, 115]) = false) (hlt : (K : Int) ≤ s.size) 
    (hd : (!(s.extract 0 K).toList == (f.extract 0 K).toList) = true) :
    Calls Try.prog 14 #[.string s, .string f, .pointer (some a)] w fun e w' => e = .returned (.tuple #[]) ∧ ∃ n, w' = w.drewN n := by
  go_enter Try.func14, Try.ntmps14
  go_wp2
  go_loop [6] (fun i => ∃ k : Nat, k ≤ K ∧ i = .int .i64 k) (fun i => K - (intOf i).toNat)
  case atStart => exact ⟨0, Nat.zero_le _, rfl⟩
  case round =>
    obtain ⟨k, hk, rfl⟩ := hrel
    by_cases h : k < K
    · have h1 : (k : Int) + 1 < f.size := by omega
      have h2 := hne k h
      go_wp2
      go_round
      case rel => exact ⟨k + 1, by omega, by go_num⟩
      case measure => simp [intOf]; omega
    · obtain rfl : k = K := by omega
      have h1 : (k : Int) + 1 < f.size := by omega
      have h5 : (k : Int) ≤ f.size := by omega
      have h6 : (0 : Int) ≤ k := by omega
      go_wp2
      have h3 : decide (s.size < k) = false := by simp; omega
      go_quiet (fail)
      go_wp2
      refine bodyPost_ret (results_none rfl _ _ _) rfl ?_
      exact ⟨rfl, _, rfl⟩
theorem scan_yes (s f r : ByteArray) (a : Addr) (K : Nat) (w : World) (v0 : Value) (hc : w.cell? a = some v0) (hfz : w.frozen? a = false) (hs : s.size ≤ 3000) (hf : K + 1 < f.size) (hK : K < 100)
    (hne : ∀ k, k < K → (!(f.extract k (k + 2)).toList == [37, 115]) = true) (heq : (!(f.extract K (K + 2)).toList == [37, 115]) = false) (hlt : (K : Int) < s.size) 
    (hd : (!(s.extract 0 K).toList == (f.extract 0 K).toList) = false) (hr : s.extract K s.size = r) (hr0 : 0 < r.size) (hr1 : r.size ≤ 3000) (hB : ∀ n (h : n < r.size), 47 ≤ ((r[n]'h).toNat : Int)) :
    Calls Try.prog 14 #[.string s, .string f, .pointer (some a)] w fun e w' => e = .returned (.tuple #[]) ∧ ∃ n, w' = (w.setCell a (.string r)).drewN n := by
  go_enter Try.func14, Try.ntmps14
  go_wp2
  go_loop [6] (fun i => ∃ k : Nat, k ≤ K ∧ i = .int .i64 k) (fun i => K - (intOf i).toNat)
  case atStart => exact ⟨0, Nat.zero_le _, rfl⟩
  case round =>
    obtain ⟨k, hk, rfl⟩ := hrel
    by_cases h : k < K
    · have h1 : (k : Int) + 1 < f.size := by omega
      have h2 := hne k h
      go_wp2
      go_round
      case rel => exact ⟨k + 1, by omega, by go_num⟩
      case measure => simp [intOf]; omega
    · obtain rfl : k = K := by omega
      have h1 : (k : Int) + 1 < f.size := by omega
      have h5 : (k : Int) ≤ f.size := by omega
      have h6 : (0 : Int) ≤ k := by omega
      go_wp2
      have h3 : decide (s.size < k) = false := by simp; omega
      have h7 : (k : Int) ≤ s.size := by omega
      go_quiet (fail)
      go_wp2
      have b0 := hB 0 hr0
      have b1 : (((r[0]'hr0).toNat : Int) == 32) = false := by rw [beq_eq_false_iff_ne]; omega
      have b2 : (((r[0]'hr0).toNat : Int) == 9) = false := by rw [beq_eq_false_iff_ne]; omega
      have b3 : (((r[0]'hr0).toNat : Int) == 13) = false := by rw [beq_eq_false_iff_ne]; omega
      refine wp_loop_rounds 1 ?_
      rw [rounds_succ]
      go_wp2
      clear b0 b1 b2 b3
      go_loop [7] (fun i => ∃ n : Nat, n ≤ r.size ∧ i = .int .i64 n) (fun i => r.size - (intOf i).toNat)
      case atStart => exact ⟨0, Nat.zero_le _, rfl⟩
      case round =>
        obtain ⟨n, hn, rfl⟩ := hrel
        by_cases h : n < r.size
        · have c0 := hB n h
          have c1 : (!(((r[n]'h).toNat : Int) == 32)) = true := by simp; omega
          have c2 : decide (((r[n]'h).toNat : Int) < 9) = false := by simp; omega
          have c3 : decide ((13 : Int) < (r[n]'h).toNat) = true := by simp; omega
          have c4 : (n : Int) < r.size := by omega
          go_wp2
          go_round
          case rel => exact ⟨n + 1, by omega, by go_num⟩
          case measure => simp [intOf]; omega
        · obtain rfl : n = r.size := by omega
          go_wp2
          go_end0
          exact ⟨rfl, _, rfl⟩

/-- The formats of the rules, one behind the other (the first one is not looked at). -/
def fmts : Nat → ByteArray
  | 0 => ⟨#[114, 101, 102, 115, 47, 37, 115]⟩
  | 1 => ⟨#[114, 101, 102, 115, 47, 116, 97, 103, 115, 47, 37, 115]⟩
  | 2 => ⟨#[114, 101, 102, 115, 47, 104, 101, 97, 100, 115, 47, 37, 115]⟩
  | 3 => ⟨#[114, 101, 102, 115, 47, 114, 101, 109, 111, 116, 101, 115, 47, 37, 115]⟩
  | _ => ⟨#[114, 101, 102, 115, 47, 114, 101, 109, 111, 116, 101, 115, 47, 37, 115, 47, 72, 69, 65, 68]⟩
/-- What stands in front of %s. -/
def pres : Nat → List UInt8
  | 0 => [114, 101, 102, 115, 47]
  | 1 => [114, 101, 102, 115, 47, 116, 97, 103, 115, 47]
  | 2 => [114, 101, 102, 115, 47, 104, 101, 97, 100, 115, 47]
  | _ => [114, 101, 102, 115, 47, 114, 101, 109, 111, 116, 101, 115, 47]
/-- A format is its front and %s. -/
structure Fits (f : ByteArray) (p : List UInt8) : Prop where
  lt : p.length + 1 < f.size
  small : p.length < 100
  ne : ∀ k, k < p.length → (!(f.extract k (k + 2)).toList == [37, 115]) = true
  eq : (!(f.extract p.length (p.length + 2)).toList == [37, 115]) = false
  front : (f.extract 0 p.length).toList = p
theorem fits : ∀ j, j < 5 → Fits (fmts j) (pres j)
  | 0, _ => ⟨by decide +kernel, by decide +kernel, by decide +kernel, by decide +kernel, by decide +kernel⟩
  | 1, _ => ⟨by decide +kernel, by decide +kernel, by decide +kernel, by decide +kernel, by decide +kernel⟩
  | 2, _ => ⟨by decide +kernel, by decide +kernel, by decide +kernel, by decide +kernel, by decide +kernel⟩
  | 3, _ => ⟨by decide +kernel, by decide +kernel, by decide +kernel, by decide +kernel, by decide +kernel⟩
  | 4, _ => ⟨by decide +kernel, by decide +kernel, by decide +kernel, by decide +kernel, by decide +kernel⟩
/-- What a scan by one format does to a text: nothing, or a word is found. -/
inductive Step (s : ByteArray) (p : List UInt8) : Option ByteArray → Prop where
  | no (h : ¬ p <+: s.data.toList) : Step s p none
  | yes (r : ByteArray) (h : s.data.toList = p ++ r.data.toList) (h0 : 0 < r.size) (hB : ∀ c ∈ r.data.toList, 47 ≤ c.toNat) : Step s p (some r)
/-- The variable at a holds v; all else is as it was. -/
structure Put (a : Addr) (v : ByteArray) (w w' : World) : Prop where
  cell : w'.cell? a = some (.string v)
  fr : w'.frozen? a = false
  other : ∀ p : Addr, p.block ≠ a.block → w'.cell? p = w.cell? p
  bel : Below a.block w w'
theorem size_data (s : ByteArray) : s.data.toList.length = s.size := rfl
theorem scan_any (s f : ByteArray) (p : List UInt8) (x : Option ByteArray) (a : Addr) (v0 : ByteArray) (w : World) (hc : w.cell? a = some (.string v0)) (hfz : w.frozen? a = false) (hs : s.size ≤ 3000) (hf : Fits f p) (hx : Step s p x) :
    Calls Try.prog 14 #[.string s, .string f, .pointer (some a)] w fun e w' => e = .returned (.tuple #[]) ∧ Put a (x.getD v0) w w' := by
  have key : ∀ n, Put a v0 w (w.drewN n) := fun n => ⟨hc, hfz, fun _ _ => rfl, ⟨rfl, rfl, rfl, Nat.le_refl _, fun _ _ => rfl⟩⟩
  cases hx with
  | no h =>
    by_cases hl : s.size < p.length
    · exact (scan_short s f a p.length w hs hf.lt hf.small hf.ne hf.eq (by omega)).mono fun e w' ⟨he, n, hw⟩ => ⟨he, by rw [hw]; exact key n⟩
    · refine (scan_other s f a p.length w hs hf.lt hf.small hf.ne hf.eq (by omega) ?_).mono fun e w' ⟨he, n, hw⟩ => ⟨he, by rw [hw]; exact key n⟩
      rw [hf.front, Bool.not_eq_true', beq_eq_false_iff_ne, ByteArray.toList_eq, Lib.extract_data]
      intro e
      exact h ⟨_, by rw [← e]; exact List.take_append_drop _ _⟩
  | yes r h h0 hB =>
    have hlen : s.size = p.length + r.size := by have := congrArg List.length h; simpa [size_data] using this
    refine (scan_yes s f r a p.length w _ hc hfz hs hf.lt hf.small hf.ne hf.eq (by omega) ?_ ?_ h0 (by omega) ?_).mono fun e w' ⟨he, n, hw⟩ => ⟨he, ?_⟩
    · rw [hf.front, Bool.not_eq_false', beq_iff_eq, ByteArray.toList_eq, Lib.extract_data, h]
      simp
    · refine Go.WideShapes.bytes_inj ?_
      rw [Lib.extract_to_end, h]
      simp
    · intro n hn
      have := hB (r[n]'hn) (by rw [ByteArray.getElem_eq_getElem_data]; exact Array.getElem_mem_toList _)
      omega
    · subst hw
      refine ⟨?_, ?_, ?_, ?_⟩
      · show (w.setCell a (.string r)).cell? a = _
        exact World.cell?_setCell_same' w a _ (by rw [hc]; rfl)
      · show (w.setCell a (.string r)).frozen? a = false
        simpa using hfz
      · intro q hq
        show (w.setCell a (.string r)).cell? q = _
        exact World.cell?_of_block (Below.heap_setCell _ _ _ _ hq)
      · exact ⟨rfl, rfl, rfl, by simp [World.setCell], fun k hk => Below.heap_setCell _ _ _ _ (by omega)⟩
/-- What the variable holds behind so many formats. -/
def acc (s : ByteArray) (T : Nat → Option ByteArray) : Nat → ByteArray
  | 0 => s
  | k + 1 => (T k).getD (acc s T k)
/-- The rules' own block. -/
def ruleCells : Array Value := #[.string ⟨#[37, 115]⟩, .string (fmts 0), .string (fmts 1), .string (fmts 2), .string (fmts 3), .string (fmts 4)]
theorem rules_any (w : World) :
    Calls Try.prog 13 #[] w fun e w' => e = .returned (.slice (some ⟨w.heap.size, 0, none⟩) 6 6) ∧ w.alloc (.cells ruleCells 9) = w' := by
  go_enter Try.func13, Try.ntmps13
  go_wp2
  go_ret
  exact ⟨rfl, rfl⟩
theorem short_any (s : ByteArray) (T : Nat → Option ByteArray) (w : World) (hs : s.size ≤ 3000) (hT : ∀ j, j < 5 → Step s (pres j) (T j)) :
    Calls Try.prog 12 #[.string s] w fun e w' => e = .returned (.string (acc s T 5)) ∧ Below w.heap.size w w' := by
  go_enter Try.func12, Try.ntmps12
  go_wp2_with (go_at_call 13; refine (rules_any _).mono ?_; rintro e w' ⟨rfl, rfl⟩)
  go_loopw [6, 12] (fun f i wr => ∃ k : Nat, k ≤ 5 ∧ i = .int .i64 k ∧ wr.cell? ⟨w.heap.size, 0, none⟩ = some (.string (acc s T k)) ∧ wr.frozen? ⟨w.heap.size, 0, none⟩ = false ∧ (∀ j, j < 5 → wr.cell? ⟨w.heap.size + 1, 1 + j, none⟩ = some (.string (fmts j))) ∧ Below w.heap.size w wr) (fun _ i _ => 5 - (intOf i).toNat)
  case atStart =>
    refine ⟨0, by omega, rfl, ?_, ?_, ?_, ?_⟩
    · go_simp
      rfl
    · go_simp
    · intro j hj
      match j, hj with
      | 0, _ => go_simp; rfl
      | 1, _ => go_simp; rfl
      | 2, _ => go_simp; rfl
      | 3, _ => go_simp; rfl
      | 4, _ => go_simp; rfl
    · exact (((Below.refl _ _).alloc (Nat.le_refl _) _).alloc (by simp) _)
  case round =>
    obtain ⟨k, hk, rfl, hc, hf, hr, hb⟩ := hrel
    by_cases h : k < 5
    · have hcell := hr k h
      have hF := fits k h
      have hTk := hT k h
      clear hT
      go_wp2_with (go_at_call 14; refine (scan_any _ _ (pres k) (T k) _ _ _ hc hf hs hF hTk).mono ?_; rintro e w' ⟨rfl, hp⟩)
      go_roundw
      case rel =>
        refine ⟨k + 1, by omega, by go_num, hp.cell, hp.fr, fun j hj => ?_, hb.trans hp.bel⟩
        rw [hp.other _ (by simp)]
        exact hr j hj
      case measure => simp [intOf]; omega
    · obtain rfl : k = 5 := by omega
      go_wp2
      go_ret
      exact ⟨rfl, hb⟩
/-- Letters and digits. -/
def okc (c : UInt8) : Bool := (97 ≤ c.toNat && c.toNat ≤ 122) || (65 ≤ c.toNat && c.toNat ≤ 90) || (48 ≤ c.toNat && c.toNat ≤ 57)
/-- What spec.Small tells. -/
def smallB (s : ByteArray) : Bool := decide (0 < s.size ∧ ∀ (k : Nat) (h : k < s.size), okc (s[k]'h) = true)
theorem okc_yes {c : UInt8} (h : okc c = true) : (97 ≤ (c.toNat : Int) ∧ (c.toNat : Int) ≤ 122) ∨ (65 ≤ (c.toNat : Int) ∧ (c.toNat : Int) ≤ 90) ∨ (48 ≤ (c.toNat : Int) ∧ (c.toNat : Int) ≤ 57) := by
  simp [okc] at h; omega
theorem okc_no {c : UInt8} (h : okc c = false) : (c.toNat : Int) < 48 ∨ (57 < (c.toNat : Int) ∧ (c.toNat : Int) < 65) ∨ (90 < (c.toNat : Int) ∧ (c.toNat : Int) < 97) ∨ 122 < (c.toNat : Int) := by
  simp [okc] at h; omega
theorem small_any (s : ByteArray) (w : World) (hs : s.size ≤ 3000) :
    Calls Try.prog 7 #[.string s] w fun e w' => e = .returned (.bool (smallB s)) ∧ w = w' := by
  obtain ⟨b, hb⟩ : ∃ b, smallB s = b := ⟨_, rfl⟩
  rw [hb]
  have HB := Lib.hid hb
  clear hb
  go_enter Try.func7, Try.ntmps7
  go_wp2
  go_loop [7] (fun i => ∃ k : Nat, k ≤ s.size ∧ i = .int .i64 k ∧ ∀ (j : Nat) (h : j < s.size), j < k → okc (s[j]'h) = true) (fun i => s.size - (intOf i).toNat)
  case atStart => exact ⟨0, Nat.zero_le _, rfl, fun _ _ h => by omega⟩
  case round =>
    obtain ⟨k, hk, rfl, hall⟩ := hrel
    by_cases h : k < s.size
    · have h4 : (k : Int) < s.size := by omega
      cases ho : okc (s[k]'h) with
      | true =>
        have hall' : ∀ (j : Nat) (h : j < s.size), j < k + 1 → okc (s[j]'h) = true := by
          intro j hj hlt
          by_cases e : j = k
          · subst e; exact ho
          · exact hall j hj (by omega)
        have HA := Lib.hid hall'
        have h3 := okc_yes ho
        clear hall hall' ho
        rcases h3 with ⟨h5, h6⟩ | ⟨h5, h6⟩ | ⟨h5, h6⟩
        all_goals
          go_wp2
          go_round
          case rel => exact ⟨k + 1, by omega, by go_num, HA.out⟩
          case measure => simp [intOf]; omega
      | false =>
        have hb : b = false := by
          rw [← HB.out]
          simp only [smallB, decide_eq_false_iff_not]
          rintro ⟨_, h⟩
          rw [h k ‹_›] at ho
          cases ho
        subst hb
        have h3 := okc_no ho
        clear hall ho HB
        rcases h3 with h5 | ⟨h5, h6⟩ | ⟨h5, h6⟩ | h5
        all_goals
          try have d1 : decide (((s[k]'h).toNat : Int) ≤ 57) = false := decide_eq_false (by omega)
          try have d2 : decide (((s[k]'h).toNat : Int) ≤ 90) = false := decide_eq_false (by omega)
          try have d3 : decide (((s[k]'h).toNat : Int) ≤ 122) = false := decide_eq_false (by omega)
          go_wp2
          go_ret
          exact ⟨rfl, rfl⟩
    · obtain rfl : k = s.size := by omega
      have hb : b = decide (0 < s.size) := by
        rw [← HB.out, smallB]
        by_cases e : 0 < s.size <;> simp [e]
        exact fun j hj => hall j hj hj
      clear hall HB
      by_cases e : 0 < s.size
      · have hb2 : b = true := by rw [hb]; simpa using e
        clear hb
        subst hb2
        have he : s.toList.isEmpty = false := by
          rw [List.isEmpty_eq_false_iff, ByteArray.toList_eq]
          intro h0
          have h1 : s.data.toList.length = 0 := by rw [h0]; rfl
          have h2 : s.data.toList.length = s.size := rfl
          omega
        go_wp2
        go_ret
        exact ⟨rfl, rfl⟩
      · have hb2 : b = false := by rw [hb]; simpa using e
        clear hb
        subst hb2
        have he : s.toList.isEmpty = true := by
          rw [List.isEmpty_iff, ByteArray.toList_eq]
          exact List.eq_nil_of_length_eq_zero (show s.size = 0 by omega)
        go_wp2
        go_ret
        exact ⟨rfl, rfl⟩
/-- impl.Short, where it is known what the formats find. -/
theorem impl_any (s y : ByteArray) (T : Nat → Option ByteArray) (w : World) (hs : s.size ≤ 3000) (hT : ∀ j, j < 5 → Step s (pres j) (T j)) (hy : acc s T 5 = y) :
    Calls Try.prog 8 #[.string s] w fun e w' => e = .returned (.string y) ∧ Below w.heap.size w w' := by
  subst hy
  have HT := Lib.hid hT
  clear hT
  go_enter Try.func8, Try.ntmps8
  go_wp2_with (go_at_call 12; refine (short_any _ T _ hs HT.out).mono ?_; rintro e w' ⟨rfl, hb⟩)
  go_ret
  exact ⟨rfl, hb⟩
theorem small_bytes {s : ByteArray} (h : smallB s = true) : 0 < s.size ∧ ∀ c ∈ s.data.toList, okc c = true := by
  simp only [smallB, decide_eq_true_eq] at h
  refine ⟨h.1, fun c hc => ?_⟩
  obtain ⟨i, hi, rfl⟩ := List.getElem_of_mem hc
  exact h.2 i hi
theorem okc_ge {c : UInt8} (h : okc c = true) : 48 ≤ c.toNat := by
  rcases okc_yes h with h | h | h <;> omega
def heads : ByteArray := ⟨#[114, 101, 102, 115, 47, 104, 101, 97, 100, 115, 47]⟩
def tags : ByteArray := ⟨#[114, 101, 102, 115, 47, 116, 97, 103, 115, 47]⟩
def remotes : ByteArray := ⟨#[114, 101, 102, 115, 47, 114, 101, 109, 111, 116, 101, 115, 47]⟩
def slash : ByteArray := ⟨#[47]⟩
theorem plain_no (s : ByteArray) (h : smallB s = true) (j : Nat) : Step s (pres j) none := by
  refine .no ?_
  rintro ⟨t, ht⟩
  obtain ⟨_, hb⟩ := small_bytes h
  have h47 : (47 : UInt8) ∈ s.data.toList := by
    rw [← ht]
    refine List.mem_append_left _ ?_
    match j with
    | 0 => decide
    | 1 => decide
    | 2 => decide
    | j + 3 => exact (by decide : (47 : UInt8) ∈ [114, 101, 102, 115, 47, 114, 101, 109, 111, 116, 101, 115, 47])
  have := hb _ h47
  revert this
  decide
theorem plain_any (s : ByteArray) (w : World) (hs : s.size ≤ 1000) (h : smallB s = true) :
    Calls Try.prog 8 #[.string s] w fun e w' => e = .returned (.string s) ∧ Below w.heap.size w w' :=
  impl_any s s (fun _ => none) w (by omega) (fun j _ => plain_no s h j) rfl
theorem low (l : List UInt8) (h : l.all (fun c => decide (47 ≤ c.toNat)) = true) (c : UInt8) (hc : c ∈ l) : 47 ≤ c.toNat := by
  simpa using List.all_eq_true.1 h c hc
theorem heads_any (s : ByteArray) (w : World) (hs : s.size ≤ 1000) (h : smallB s = true) :
    Calls Try.prog 8 #[.string (⟨#[114, 101, 102, 115, 47, 104, 101, 97, 100, 115, 47]⟩ ++ s)] w fun e w' => e = .returned (.string s) ∧ Below w.heap.size w w' := by
  obtain ⟨h0, hb⟩ := small_bytes h
  refine impl_any _ s (fun | 0 => some (⟨#[104, 101, 97, 100, 115, 47]⟩ ++ s) | 2 => some s | _ => none) w (by rw [ByteArray.size_append]; exact Nat.le_trans (Nat.add_le_add (by decide : (⟨#[114, 101, 102, 115, 47, 104, 101, 97, 100, 115, 47]⟩ : ByteArray).size ≤ 20) hs) (by omega)) ?_ rfl
  intro j hj
  match j, hj with
  | 0, _ =>
    refine .yes _ (by rw [Joins.data_append, Joins.data_append]; rfl) (by simp [ByteArray.size_append]; omega) ?_
    intro c hc
    rw [Joins.data_append] at hc
    rcases List.mem_append.1 hc with hc | hc
    · exact low _ (by decide) c hc
    · have := okc_ge (hb c hc); omega
  | 1, _ => exact .no (by rw [Joins.data_append]; simp [pres, List.cons_prefix_cons])
  | 2, _ => exact .yes _ (by rw [Joins.data_append]; rfl) h0 (fun c hc => by have := okc_ge (hb c hc); omega)
  | 3, _ => exact .no (by rw [Joins.data_append]; simp [pres, List.cons_prefix_cons])
  | 4, _ => exact .no (by rw [Joins.data_append]; simp [pres, List.cons_prefix_cons])
theorem tags_any (s : ByteArray) (w : World) (hs : s.size ≤ 1000) (h : smallB s = true) :
    Calls Try.prog 8 #[.string (⟨#[114, 101, 102, 115, 47, 116, 97, 103, 115, 47]⟩ ++ s)] w fun e w' => e = .returned (.string s) ∧ Below w.heap.size w w' := by
  obtain ⟨h0, hb⟩ := small_bytes h
  refine impl_any _ s (fun | 0 => some (⟨#[116, 97, 103, 115, 47]⟩ ++ s) | 1 => some s | _ => none) w (by rw [ByteArray.size_append]; exact Nat.le_trans (Nat.add_le_add (by decide : (⟨#[114, 101, 102, 115, 47, 116, 97, 103, 115, 47]⟩ : ByteArray).size ≤ 20) hs) (by omega)) ?_ rfl
  intro j hj
  match j, hj with
  | 0, _ =>
    refine .yes _ (by rw [Joins.data_append, Joins.data_append]; rfl) (by simp [ByteArray.size_append]; omega) ?_
    intro c hc
    rw [Joins.data_append] at hc
    rcases List.mem_append.1 hc with hc | hc
    · exact low _ (by decide) c hc
    · have := okc_ge (hb c hc); omega
  | 1, _ => exact .yes _ (by rw [Joins.data_append]; rfl) h0 (fun c hc => by have := okc_ge (hb c hc); omega)
  | 2, _ => exact .no (by rw [Joins.data_append]; simp [pres, List.cons_prefix_cons])
  | 3, _ => exact .no (by rw [Joins.data_append]; simp [pres, List.cons_prefix_cons])
  | 4, _ => exact .no (by rw [Joins.data_append]; simp [pres, List.cons_prefix_cons])
theorem remotes_any (s r : ByteArray) (w : World) (hs : s.size + r.size ≤ 1000) (h : smallB s = true) (h' : smallB r = true) :
    Calls Try.prog 8 #[.string (⟨#[114, 101, 102, 115, 47, 114, 101, 109, 111, 116, 101, 115, 47]⟩ ++ r ++ ⟨#[47]⟩ ++ s)] w fun e w' => e = .returned (.string (r ++ ⟨#[47]⟩ ++ s)) ∧ Below w.heap.size w w' := by
  obtain ⟨h0, hb⟩ := small_bytes h
  obtain ⟨h0', hb'⟩ := small_bytes h'
  refine impl_any _ (r ++ ⟨#[47]⟩ ++ s) (fun | 0 => some (⟨#[114, 101, 109, 111, 116, 101, 115, 47]⟩ ++ r ++ ⟨#[47]⟩ ++ s) | 3 => some (r ++ ⟨#[47]⟩ ++ s) | 4 => some (r ++ ⟨#[47]⟩ ++ s) | _ => none) w ?_ ?_ rfl
  · rw [ByteArray.size_append, ByteArray.size_append, ByteArray.size_append]
    have e1 : (⟨#[114, 101, 102, 115, 47, 114, 101, 109, 111, 116, 101, 115, 47]⟩ : ByteArray).size ≤ 20 := by decide
    have e2 : (⟨#[47]⟩ : ByteArray).size ≤ 20 := by decide
    omega
  have hall : ∀ c ∈ (r ++ ⟨#[47]⟩ ++ s).data.toList, 47 ≤ c.toNat := by
    intro c hc
    rw [Joins.data_append, Joins.data_append] at hc
    rcases List.mem_append.1 hc with hc | hc
    · rcases List.mem_append.1 hc with hc | hc
      · have := okc_ge (hb' c hc); omega
      · exact low _ (by decide) c hc
    · have := okc_ge (hb c hc); omega
  have hsz : 0 < (r ++ ⟨#[47]⟩ ++ s).size := by rw [ByteArray.size_append]; omega
  intro j hj
  match j, hj with
  | 0, _ =>
    refine .yes _ (by simp only [Joins.data_append]; simp [pres]) (by rw [ByteArray.size_append]; omega) ?_
    intro c hc
    rw [Joins.data_append, Joins.data_append, Joins.data_append, List.append_assoc, List.append_assoc, ← List.append_assoc r.data.toList] at hc
    rcases List.mem_append.1 hc with hc | hc
    · exact low _ (by decide) c hc
    · exact hall c (by rw [Joins.data_append, Joins.data_append]; exact hc)
  | 1, _ => exact .no (by simp only [Joins.data_append]; simp [pres, List.cons_prefix_cons])
  | 2, _ => exact .no (by simp only [Joins.data_append]; simp [pres, List.cons_prefix_cons])
  | 3, _ => exact .yes _ (by simp only [Joins.data_append]; simp [pres]) hsz hall
  | 4, _ => exact .yes _ (by simp only [Joins.data_append]; simp [pres]) hsz hall
/-- The law where both texts are of letters and digits. -/
theorem law_yes (s r : ByteArray) (w : World) (hs : s.size + r.size ≤ 1000) (hs1 : smallB s = true) (hr1 : smallB r = true) (hh : (s.toList == [72, 69, 65, 68]) = false) :
    Calls Try.prog 4 #[.string s, .string r] w fun e w' => e = .returned (.bool true) ∧ Below w.heap.size w w' := by
  go_enter Try.func4, Try.ntmps4
  go_wp2_with (first | (go_at_call 7; refine (small_any _ _ (by omega)).mono ?_; rintro e w' ⟨rfl, rfl⟩))
  refine (heads_any s _ (by omega) hs1).mono ?_
  rintro e w1 ⟨rfl, b1⟩
  go_wp2_with fail
  refine (tags_any s _ (by omega) hs1).mono ?_
  rintro e w2 ⟨rfl, b2⟩
  go_wp2_with fail
  refine (remotes_any s r _ hs hs1 hr1).mono ?_
  rintro e w3 ⟨rfl, b3⟩
  go_wp2_with fail
  refine (plain_any s _ (by omega) hs1).mono ?_
  rintro e w4 ⟨rfl, b4⟩
  go_wp2_with fail
  go_ret
  exact ⟨rfl, (b1.trans (b2.mono b1.size)).trans ((b3.mono (Nat.le_trans b1.size b2.size)).trans (b4.mono (Nat.le_trans b1.size (Nat.le_trans b2.size b3.size))))⟩
theorem law_head (s r : ByteArray) (w : World) (hs : s.size + r.size ≤ 1000) (hs1 : smallB s = true) (hr1 : smallB r = true) (hh : (s.toList == [72, 69, 65, 68]) = true) :
    Calls Try.prog 4 #[.string s, .string r] w fun e w' => e = .returned (.bool true) ∧ Below w.heap.size w w' := by
  go_enter Try.func4, Try.ntmps4
  go_wp2_with (first | (go_at_call 7; refine (small_any _ _ (by omega)).mono ?_; rintro e w' ⟨rfl, rfl⟩))
  go_ret
  exact ⟨rfl, Below.refl _ _⟩
theorem law_no (s r : ByteArray) (w : World) (hs : s.size + r.size ≤ 1000) (hs1 : smallB s = false) :
    Calls Try.prog 4 #[.string s, .string r] w fun e w' => e = .returned (.bool true) ∧ Below w.heap.size w w' := by
  go_enter Try.func4, Try.ntmps4
  go_wp2_with (first | (go_at_call 7; refine (small_any _ _ (by omega)).mono ?_; rintro e w' ⟨rfl, rfl⟩))
  go_ret
  exact ⟨rfl, Below.refl _ _⟩
theorem law_no2 (s r : ByteArray) (w : World) (hs : s.size + r.size ≤ 1000) (hs1 : smallB s = true) (hr1 : smallB r = false) :
    Calls Try.prog 4 #[.string s, .string r] w fun e w' => e = .returned (.bool true) ∧ Below w.heap.size w w' := by
  go_enter Try.func4, Try.ntmps4
  go_wp2_with (first | (go_at_call 7; refine (small_any _ _ (by omega)).mono ?_; rintro e w' ⟨rfl, rfl⟩))
  go_ret
  exact ⟨rfl, Below.refl _ _⟩
theorem law_long (s r : ByteArray) (w : World) (hs : 1000 < s.size + r.size) (b1 : s.size ≤ 9223372036854775807) (b2 : r.size ≤ 9223372036854775807) :
    Calls Try.prog 4 #[.string s, .string r] w fun e w' => e = .returned (.bool true) ∧ Below w.heap.size w w' := by
  by_cases h1 : s.size ≤ 2147483647
  · by_cases h2 : r.size ≤ 2147483647
    · have h3 : decide (2147483647 < s.size) = false := by simpa using h1
      have h4 : decide (2147483647 < r.size) = false := by simpa using h2
      go_enter Try.func4, Try.ntmps4
      go_wp2_with fail
      go_ret
      exact ⟨rfl, Below.refl _ _⟩
    · have h3 : decide (2147483647 < (s.size : Int)) = false := by simp; omega
      have h4 : decide (2147483647 < (r.size : Int)) = true := by simp; omega
      clear h1 h2 hs
      go_enter Try.func4, Try.ntmps4
      go_wp2_with fail
      go_ret
      exact ⟨rfl, Below.refl _ _⟩
  · have h3 : decide (2147483647 < (s.size : Int)) = true := by simp; omega
    clear h1 hs
    go_enter Try.func4, Try.ntmps4
    go_wp2_with fail
    go_ret
    exact ⟨rfl, Below.refl _ _⟩
theorem law (s r : ByteArray) (w : World) (b1 : s.size ≤ 9223372036854775807) (b2 : r.size ≤ 9223372036854775807) :
    Calls Try.prog 4 #[.string s, .string r] w fun e w' => e = .returned (.bool true) ∧ Below w.heap.size w w' := by
  by_cases hs : s.size + r.size ≤ 1000
  · cases h1 : smallB s with
    | false => exact law_no s r w hs h1
    | true =>
      cases h2 : smallB r with
      | false => exact law_no2 s r w hs h1 h2
      | true =>
        cases h3 : s.toList == [72, 69, 65, 68] with
        | true => exact law_head s r w hs h1 h2 h3
        | false => exact law_yes s r w hs h1 h2 h3
  · exact law_long s r w (by omega) b1 b2

open Go.ChangeMaps (open_string shut_string)
theorem own : ownKnob Try.prog.godebug = none := by kernel_rfl
theorem lifted (os : Os) (started : os.Started) (H : Type) (enc : TypeId × Value → H) :
    ReturnsInHanded {} Try.checked os 4 .any (Rows.fnRefShortSpec.pre6 enc Try.prog Try.f4 Rows.fnRefShortRow.domain false) (Rows.fnRefShortSpec.post enc Try.prog Try.f4 false true false false) := by
  refine returnsInHanded_of_change_sized (C := Try.checked) own started (by kernel_rfl) Try.func4
    (ChangeSpec.witness6 (enc := enc) (C := Try.checked) false ⟨#[], #[.string ⟨#[]⟩, .string ⟨#[]⟩], []⟩ 8 (by kernel_rfl) (by kernel_rfl) (by kernel_rfl) (by kernel_rfl)) ?_
  intro W base args ds gs before hval0 hW hcnd hsz0 _
  have hval : ∀ (j : Nat) t v, Try.f4.params[j]? = some t → args[j]? = some v → Value.okWide Try.prog W .any base t v := hval0
  have hW' := hW
  obtain ⟨p, q, hA0, hV, rfl, hfz, hnd⟩ := hW
  have hA : DataW.TrodAll enc Try.prog W 0 (fun _ => true) true Try.f4.params.toList args.toList ds p := hA0
  rw [Try.params4] at hA hval
  obtain ⟨v0, vs0, d0, ds0, p0, q0, hargs, rfl, rfl, h0, r0⟩ := trodAll_cons hA
  obtain ⟨v1, vs1, d1, ds1, p1, q1, rfl, rfl, rfl, h1, r1⟩ := trodAll_cons r0
  obtain ⟨rfl, rfl, rfl⟩ := trodAll_nil r1
  obtain rfl : args = #[v0, v1] := by cases args; simp_all
  obtain ⟨rfl, rfl⟩ := trodVars_none hV
  obtain ⟨a0, rfl, rfl, rfl, w0⟩ := open_string Try.underlying9 (hval 0 9 v0 rfl rfl) h0
  obtain ⟨a1, rfl, rfl, rfl, w1⟩ := open_string Try.underlying9 (hval 1 9 v1 rfl rfl) h1
  clear hA0 hval0 hsz0
  refine (law a0 a1 W (by unfold maxLen at w0; omega) (by unfold maxLen at w1; omega)).mono fun e W' ⟨he, bel⟩ => ?_
  subst he
  exact ⟨_, rfl, _, _, _, [], _, [], hW', trodAll_mk1 (shut_bool Try.underlying4 _), (trodAll_cons_mk (shut_string Try.underlying9 w0) (trodAll_cons_mk (shut_string Try.underlying9 w1) trodAll_mk0)), rfl, bel.frame _, fun h => by cases h⟩
theorem proved : Rows.FnRefShortSaid :=
  OpenClaim.holds_of_wide 4 Try.f4 rfl rfl rfl rfl rfl rfl rfl ⟨rfl, rfl, rfl, rfl, rfl⟩ rfl rfl rfl rfl rfl (by kernel_rfl) Try.func4 (by kernel_rfl)
    (of_decide_eq_true (by kernel_rfl)) (by unfold Func.isWrapper; first | (rw [if_pos (by decide +kernel)]; kernel_rfl) | (rw [if_neg (by decide +kernel)]; exact ⟨rfl, rfl⟩))
    (fun os started H enc _ => lifted os started H enc)
#print axioms proved
end Go.Proofs.Ytoofbppfbbhliaa.fnRefShort
