/- Revisions: package unicode at letters, digits and signs; runes as a text; tokenizeExpression. -/
import Derived.Test.YtiibeefadgmicaaDoorRevG
import Derived.Test.YtiibeefadgmicaaDoorRevH
import Derived.Laws.Cover4
import Derived.OwnWalk
namespace Go.Proofs.YtiibeefadgmicaaDoor.rev
open Go.RowKit Go.Proofs.YtiibeefadgmicaaDoorW.PrintWords Go.Proofs.YtiibeefadgmicaaDoorW.PrintLast Go.Proofs.YtiibeefadgmicaaDoorW.PrintMore Go.Proofs.YtiibeefadgmicaaDoor.PFnRevSteps
set_option linter.unusedVariables false
set_option linter.unusedSimpArgs false
set_option maxHeartbeats 2000000
set_option maxRecDepth 100000
def txt (l : List UInt8) : ByteArray := ⟨l.toArray⟩
theorem txt_append (a b : List UInt8) : txt a ++ txt b = txt (a ++ b) := by
  unfold txt
  apply ByteArray.ext
  rw [ByteArray.data_append]
  simp
def OkC (c : UInt8) : Prop := isA c = true ∨ isS c = true
theorem okC_lt {c : UInt8} (h : OkC c) : 48 ≤ c.toNat ∧ c.toNat < 128 := by
  unfold OkC isA isL isD isS at h
  simp only [Bool.or_eq_true, Bool.and_eq_true, decide_eq_true_eq, beq_iff_eq] at h
  rcases h with (h | h) | (((h | h) | h) | h) | h
  · omega
  · omega
  all_goals rw [h]; decide
theorem encode_one {c : UInt8} (h : c.toNat < 128) : Utf8.encode (c.toNat : Int) = txt [c] := by
  unfold Utf8.encode
  have hv : Utf8.valid (c.toNat : Int) = true := by unfold Utf8.valid; simp; omega
  simp only [hv, if_true, Int.toNat_natCast, if_pos h]
  unfold txt
  simp
def rn (l : List UInt8) : List Int := l.map fun b => (b.toNat : Int)
theorem foldl_runes : ∀ (l : List UInt8) (a : List UInt8), (∀ c ∈ l, c.toNat < 128) → (rn l).foldl (fun r n => r ++ Utf8.encode n) (txt a) = txt (a ++ l)
  | [], a, _ => by rw [List.append_nil]; rfl
  | c :: l, a, h => by
    show (rn l).foldl _ (txt a ++ Utf8.encode (c.toNat : Int)) = _
    rw [encode_one (h c (.head _)), txt_append, foldl_runes l (a ++ [c]) (fun x hx => h x (.tail _ hx)), List.append_assoc]
    rfl
theorem runes_txt (l : List UInt8) (h : ∀ c ∈ l, c.toNat < 128) : runesBytes (rn l) = txt l := by
  have := foldl_runes l [] h
  rw [List.nil_append] at this
  exact this
theorem pv_facts {c : UInt8} (h : OkC c) : 0 ≤ pv c ∧ pv c < 256 ∧ bits .and .u8 (pv c) 96 = (if isL c = true then 64 else 0) ∧ bits .and .u8 (pv c) 4 = (if isD c = true then 4 else 0) ∧ bits .and .u8 (pv c) 1 = 0 := by
  unfold pv
  by_cases h1 : isL c = true
  · have h2 : isD c = false := by cases h2 : isD c with
      | false => rfl
      | true => have := isD_not c h2; rw [h1] at this; cases this
    rw [if_pos h1, if_pos h1, h2]
    decide
  · rw [if_neg h1, if_neg h1]
    by_cases h2 : isD c = true
    · rw [if_pos h2, if_pos h2]
      decide
    · rw [if_neg h2, if_neg h2]
      by_cases h3 : c = 126 ∨ c = 94
      · rw [if_pos h3]; decide
      · rw [if_neg h3]; decide
section
variable (w : World) (ea : Addr) (hT : Tabs w ea) (c : UInt8) (h : OkC c)
include hT h
theorem isLetter_any : Calls Tryd.prog 48 #[.int .i32 (c.toNat : Int)] w fun e w' => e = .returned (.bool (isL c)) ∧ w' = w := by
  have hp := hT.prop c h
  obtain ⟨p0, p1, p2, _, _⟩ := pv_facts h
  obtain ⟨l0, l1⟩ := okC_lt h
  obtain ⟨k, hk⟩ : ∃ k, c.toNat = k := ⟨_, rfl⟩
  obtain ⟨v, hv⟩ : ∃ v, pv c = v := ⟨_, rfl⟩
  rw [hv] at hp p0 p1 p2
  rw [hk] at hp l0 l1 ⊢
  have e1 : IntKind.u32.wrap (k : Int) = (k : Int) := by rw [IntKind.wrap_u32]; omega
  have e2 : IntKind.u8.wrap (k : Int) = (k : Int) := by rw [IntKind.wrap_u8]; omega
  have c1 : decide ((k : Int) ≤ 255) = true := decide_eq_true (by omega)
  have c2 : decide (k ≤ 255) = true := decide_eq_true (by omega)
  have b1 : (0 : Int) ≤ (k : Int) := by omega
  have b2 : (k : Int) < 256 := by omega
  have b3 : k < 256 := by omega
  clear hT hk hv
  cases hL : isL c with
  | true =>
    rw [hL, if_pos rfl] at p2
    clear hL h
    go_enter Tryd.func48, Tryd.ntmps48
    go_wp2
    go_ret
    exact ⟨rfl, rfl⟩
  | false =>
    rw [hL, if_neg (by simp)] at p2
    clear hL h
    go_enter Tryd.func48, Tryd.ntmps48
    go_wp2
    go_ret
    exact ⟨rfl, rfl⟩
theorem isNumber_any : Calls Tryd.prog 50 #[.int .i32 (c.toNat : Int)] w fun e w' => e = .returned (.bool (isD c)) ∧ w' = w := by
  have hp := hT.prop c h
  obtain ⟨p0, p1, _, p2, _⟩ := pv_facts h
  obtain ⟨l0, l1⟩ := okC_lt h
  obtain ⟨k, hk⟩ : ∃ k, c.toNat = k := ⟨_, rfl⟩
  obtain ⟨v, hv⟩ : ∃ v, pv c = v := ⟨_, rfl⟩
  rw [hv] at hp p0 p1 p2
  rw [hk] at hp l0 l1 ⊢
  have e1 : IntKind.u32.wrap (k : Int) = (k : Int) := by rw [IntKind.wrap_u32]; omega
  have e2 : IntKind.u8.wrap (k : Int) = (k : Int) := by rw [IntKind.wrap_u8]; omega
  have c1 : decide ((k : Int) ≤ 255) = true := decide_eq_true (by omega)
  have c2 : decide (k ≤ 255) = true := decide_eq_true (by omega)
  have b1 : (0 : Int) ≤ (k : Int) := by omega
  have b2 : (k : Int) < 256 := by omega
  have b3 : k < 256 := by omega
  clear hT hk hv
  cases hL : isD c with
  | true =>
    rw [hL, if_pos rfl] at p2
    clear hL h
    go_enter Tryd.func50, Tryd.ntmps50
    go_wp2
    go_ret
    exact ⟨rfl, rfl⟩
  | false =>
    rw [hL, if_neg (by simp)] at p2
    clear hL h
    go_enter Tryd.func50, Tryd.ntmps50
    go_wp2
    go_ret
    exact ⟨rfl, rfl⟩
theorem isControl_any : Calls Tryd.prog 47 #[.int .i32 (c.toNat : Int)] w fun e w' => e = .returned (.bool false) ∧ w' = w := by
  have hp := hT.prop c h
  obtain ⟨p0, p1, _, _, p2⟩ := pv_facts h
  obtain ⟨l0, l1⟩ := okC_lt h
  obtain ⟨k, hk⟩ : ∃ k, c.toNat = k := ⟨_, rfl⟩
  obtain ⟨v, hv⟩ : ∃ v, pv c = v := ⟨_, rfl⟩
  rw [hv] at hp p0 p1 p2
  rw [hk] at hp l0 l1 ⊢
  have e1 : IntKind.u32.wrap (k : Int) = (k : Int) := by rw [IntKind.wrap_u32]; omega
  have e2 : IntKind.u8.wrap (k : Int) = (k : Int) := by rw [IntKind.wrap_u8]; omega
  have c1 : decide ((k : Int) ≤ 255) = true := decide_eq_true (by omega)
  have c2 : decide (k ≤ 255) = true := decide_eq_true (by omega)
  have b1 : (0 : Int) ≤ (k : Int) := by omega
  have b2 : (k : Int) < 256 := by omega
  have b3 : k < 256 := by omega
  clear hT hk hv h
  go_enter Tryd.func47, Tryd.ntmps47
  go_wp2
  go_ret
  exact ⟨rfl, rfl⟩
end
theorem isSpace_any (w : World) (c : UInt8) (h : OkC c) : Calls Tryd.prog 46 #[.int .i32 (c.toNat : Int)] w fun e w' => e = .returned (.bool false) ∧ w' = w := by
  obtain ⟨l0, l1⟩ := okC_lt h
  obtain ⟨k, hk⟩ : ∃ k, c.toNat = k := ⟨_, rfl⟩
  rw [hk] at l0 l1 ⊢
  have e1 : IntKind.u32.wrap (k : Int) = (k : Int) := by rw [IntKind.wrap_u32]; omega
  have c1 : decide ((k : Int) ≤ 255) = true := decide_eq_true (by omega)
  have c2 : decide (k ≤ 255) = true := decide_eq_true (by omega)
  have d1 : ((k : Int) == 9) = false := beq_eq_false_iff_ne.2 (by omega)
  have d2 : ((k : Int) == 10) = false := beq_eq_false_iff_ne.2 (by omega)
  have d3 : ((k : Int) == 11) = false := beq_eq_false_iff_ne.2 (by omega)
  have d4 : ((k : Int) == 12) = false := beq_eq_false_iff_ne.2 (by omega)
  have d5 : ((k : Int) == 13) = false := beq_eq_false_iff_ne.2 (by omega)
  have d6 : ((k : Int) == 32) = false := beq_eq_false_iff_ne.2 (by omega)
  have d7 : ((k : Int) == 133) = false := beq_eq_false_iff_ne.2 (by omega)
  have d8 : ((k : Int) == 160) = false := beq_eq_false_iff_ne.2 (by omega)
  have f1 : (k == 9) = false := beq_eq_false_iff_ne.2 (by omega)
  have f2 : (k == 10) = false := beq_eq_false_iff_ne.2 (by omega)
  have f3 : (k == 11) = false := beq_eq_false_iff_ne.2 (by omega)
  have f4 : (k == 12) = false := beq_eq_false_iff_ne.2 (by omega)
  have f5 : (k == 13) = false := beq_eq_false_iff_ne.2 (by omega)
  have f6 : (k == 32) = false := beq_eq_false_iff_ne.2 (by omega)
  have f7 : (k == 133) = false := beq_eq_false_iff_ne.2 (by omega)
  have f8 : (k == 160) = false := beq_eq_false_iff_ne.2 (by omega)
  clear hk h
  go_enter Tryd.func46, Tryd.ntmps46
  go_wp2
  go_ret
  exact ⟨rfl, rfl⟩
end Go.Proofs.YtiibeefadgmicaaDoor.rev
