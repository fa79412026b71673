/- A reference to another one has its name behind ref:, and one to an object the name of this: FnRefStrings answers true for all texts. Conditions: the texts are no longer than the row lets them be; the variable encoding/hex.ErrLength holds what the program's text lays in it (the card ties it). -/
import Derived.Test.YtoofbppfbbhliaaDoorRef
import Derived.Test.YtoofbppfbbhliaaDoorSmall
namespace Go.Proofs.YtoofbppfbbhliaaDoor.fnRefStrings
open Go.RowKit
set_option linter.unusedVariables false
set_option maxHeartbeats 1000000
set_option maxRecDepth 100000
/-- '==' of two pairs of texts that are the same. -/
theorem eq_pair_d (d : Nat) (a b : ByteArray) (w : World) : (Op.equalIn (d + 2) 40 (.agg #[.string a, .string b]) (.agg #[.string a, .string b])).run Tryd.prog w = .ok true w := by
  have h1 : (Op.equalIn (d + 1) 9 (.string a) (.string a)).run Tryd.prog w = .ok (a.toList == a.toList) w := run_equalIn_string w d 9 a a Tryd.underlying9
  have h2 : (Op.equalIn (d + 1) 9 (.string b) (.string b)).run Tryd.prog w = .ok (b.toList == b.toList) w := run_equalIn_string w d 9 b b Tryd.underlying9
  rw [beq_self_eq_true] at h1 h2
  obtain ⟨i, hi⟩ : ∃ i, Tryd.prog.info? 9 = some i := Option.isSome_iff_exists.1 (by kernel_rfl)
  have hc : Tryd.prog.cellsOf 9 = 1 := by kernel_rfl
  have p0 : (part 9 #[Value.string a, Value.string b] 0).run Tryd.prog w = .ok (.string a) w := by kernel_rfl
  have p1 : (part 9 #[Value.string a, Value.string b] 1).run Tryd.prog w = .ok (.string b) w := by kernel_rfl
  rw [run_equalIn_array w (d + 1) _ _ Tryd.underlying40 hi, hc]
  simp [List.range, List.range.loop, Op.eqItems, Sem.run_bind, p0, p1, h1, h2]
theorem eq_pair (a b : ByteArray) (w : World) : (Op.equalIn 10000 40 (.agg #[.string a, .string b]) (.agg #[.string a, .string b])).run Tryd.prog w = .ok true w := eq_pair_d 9998 a b w
theorem law_yes (n t h : ByteArray) (w : World) (ev : Value) (hE : w.cell? ⟨4, 0, none⟩ = some ev) (hn : small.smallB n = true) (ht : small.smallB t = true) (hh : hash.name40 h = true) (hs : n.size + t.size ≤ 1000) :
    Calls Tryd.prog 6 #[.string n, .string t, .string h] w fun e w' => e = .returned (.bool true) ∧ Below w.heap.size w w' := by
  have h40 := (hash.name40_bytes hh).1
  have hh2 : h.size ≤ 100 := by omega
  have e1 : (⟨#[114, 101, 102, 115, 47, 104, 101, 97, 100, 115, 47]⟩ ++ t : ByteArray).size ≤ 2000 := by rw [ByteArray.size_append]; exact Nat.le_trans (Nat.add_le_add (by decide : (⟨#[114, 101, 102, 115, 47, 104, 101, 97, 100, 115, 47]⟩ : ByteArray).size ≤ 20) (Nat.le_refl _)) (by omega)
  have e2 : (⟨#[114, 101, 102, 58, 32, 114, 101, 102, 115, 47, 104, 101, 97, 100, 115, 47]⟩ ++ t : ByteArray).size ≤ 3000 := by rw [ByteArray.size_append]; exact Nat.le_trans (Nat.add_le_add (by decide : (⟨#[114, 101, 102, 58, 32, 114, 101, 102, 115, 47, 104, 101, 97, 100, 115, 47]⟩ : ByteArray).size ≤ 20) (Nat.le_refl _)) (by omega)
  obtain ⟨d, hd⟩ := ref.ref_sym (⟨#[114, 101, 102, 115, 47, 104, 101, 97, 100, 115, 47]⟩ ++ n) (⟨#[114, 101, 102, 115, 47, 104, 101, 97, 100, 115, 47]⟩ ++ t) (⟨#[114, 101, 102, 58, 32, 114, 101, 102, 115, 47, 104, 101, 97, 100, 115, 47]⟩ ++ t) w e2 e1 (by rw [Joins.data_append, Joins.data_append]; rfl)
  have HD := Lib.hid hd
  have HH : ∀ w', Below w.heap.size w w' → Calls Tryd.prog 25 #[.string (⟨#[114, 101, 102, 115, 47, 104, 101, 97, 100, 115, 47]⟩ ++ n), .string h] w' (ref.Told 1 h ⟨#[]⟩ (⟨#[114, 101, 102, 115, 47, 104, 101, 97, 100, 115, 47]⟩ ++ n) h w') :=
    fun w' hb => ref.ref_hash _ h w' ev ((hb.cell (World.block_lt_of_cell? _ _ hE)).trans hE) hh
  have HH' := Lib.hid HH
  have HE := Lib.hid hE
  clear hd HH e1 e2 h40 hE
  have heq := eq_pair
  go_enter Tryd.func6, Tryd.ntmps6
  go_wp2_with (first | (go_at_call 24; refine (small.small_any _ _ (by omega)).mono ?_; rintro e w' ⟨rfl, rfl⟩) | (go_at_call 17; refine (hash.name40_any _ _ (by omega)).mono ?_; rintro e w' ⟨rfl, rfl⟩))
  refine HD.out.mono ?_
  rintro e w1 ⟨rfl, b1⟩
  go_wp2_with fail
  refine (HH'.out _ (b1.alloc b1.size _)).mono ?_
  rintro e w2 ⟨rfl, b2⟩
  have hA := b2.block w1.heap.size (by simp)
  rw [heap_alloc_new] at hA
  have hz := b2.size
  simp at hz
  have hlt : w1.heap.size < w2.heap.size := by omega
  have hz1 := b1.size
  have HB := Lib.hid ((b1.alloc b1.size _).trans (b2.mono (by simp; omega)))
  have c0 : w2.cell? ⟨w1.heap.size, 0, none⟩ = some (.string (⟨#[114, 101, 102, 115, 47, 104, 101, 97, 100, 115, 47]⟩ ++ n)) := by rw [cell_of_row w2 w1.heap.size 0 _ _ _ hA]; rfl
  have c1 : w2.cell? ⟨w1.heap.size, 1, none⟩ = some (.string (⟨#[114, 101, 102, 58, 32, 114, 101, 102, 115, 47, 104, 101, 97, 100, 115, 47]⟩ ++ t)) := by rw [cell_of_row w2 w1.heap.size 1 _ _ _ hA]; rfl
  clear b1 b2 hA
  go_wp2_with fail
  go_ret
  exact ⟨rfl, HB.out.alloc (by omega) _⟩
theorem law_no1 (n t h : ByteArray) (w : World) (hs1 : n.size ≤ 2147483647) (hs2 : t.size ≤ 2147483647) (hs3 : h.size ≤ 2147483647) (hn : small.smallB n = false) :
    Calls Tryd.prog 6 #[.string n, .string t, .string h] w fun e w' => e = .returned (.bool true) ∧ Below w.heap.size w w' := by
  have d1 : decide (2147483647 < (n.size : Int)) = false := by simp; omega
  have d2 : decide (2147483647 < (t.size : Int)) = false := by simp; omega
  have d3 : decide (2147483647 < (h.size : Int)) = false := by simp; omega
  go_enter Tryd.func6, Tryd.ntmps6
  go_wp2_with (first | (go_at_call 24; refine (small.small_any _ _ (by omega)).mono ?_; rintro e w' ⟨rfl, rfl⟩) | (go_at_call 17; refine (hash.name40_any _ _ (by omega)).mono ?_; rintro e w' ⟨rfl, rfl⟩))
  go_ret
  exact ⟨rfl, Below.refl _ _⟩
theorem law_no2 (n t h : ByteArray) (w : World) (hs1 : n.size ≤ 2147483647) (hs2 : t.size ≤ 2147483647) (hs3 : h.size ≤ 2147483647) (hn : small.smallB n = true) (ht : small.smallB t = false) :
    Calls Tryd.prog 6 #[.string n, .string t, .string h] w fun e w' => e = .returned (.bool true) ∧ Below w.heap.size w w' := by
  have d1 : decide (2147483647 < (n.size : Int)) = false := by simp; omega
  have d2 : decide (2147483647 < (t.size : Int)) = false := by simp; omega
  have d3 : decide (2147483647 < (h.size : Int)) = false := by simp; omega
  go_enter Tryd.func6, Tryd.ntmps6
  go_wp2_with (first | (go_at_call 24; refine (small.small_any _ _ (by omega)).mono ?_; rintro e w' ⟨rfl, rfl⟩) | (go_at_call 17; refine (hash.name40_any _ _ (by omega)).mono ?_; rintro e w' ⟨rfl, rfl⟩))
  go_ret
  exact ⟨rfl, Below.refl _ _⟩
theorem law_no3 (n t h : ByteArray) (w : World) (hs1 : n.size ≤ 2147483647) (hs2 : t.size ≤ 2147483647) (hs3 : h.size ≤ 2147483647) (hn : small.smallB n = true) (ht : small.smallB t = true) (hh : hash.name40 h = false) :
    Calls Tryd.prog 6 #[.string n, .string t, .string h] w fun e w' => e = .returned (.bool true) ∧ Below w.heap.size w w' := by
  have d1 : decide (2147483647 < (n.size : Int)) = false := by simp; omega
  have d2 : decide (2147483647 < (t.size : Int)) = false := by simp; omega
  have d3 : decide (2147483647 < (h.size : Int)) = false := by simp; omega
  go_enter Tryd.func6, Tryd.ntmps6
  go_wp2_with (first | (go_at_call 24; refine (small.small_any _ _ (by omega)).mono ?_; rintro e w' ⟨rfl, rfl⟩) | (go_at_call 17; refine (hash.name40_any _ _ (by omega)).mono ?_; rintro e w' ⟨rfl, rfl⟩))
  go_ret
  exact ⟨rfl, Below.refl _ _⟩
theorem law_no4 (n t h : ByteArray) (w : World) (hs1 : n.size ≤ 2147483647) (hs2 : t.size ≤ 2147483647) (hs3 : h.size ≤ 2147483647) (hn : small.smallB n = true) (ht : small.smallB t = true) (hh : hash.name40 h = true) (hs : 1000 < n.size + t.size) :
    Calls Tryd.prog 6 #[.string n, .string t, .string h] w fun e w' => e = .returned (.bool true) ∧ Below w.heap.size w w' := by
  have d1 : decide (2147483647 < (n.size : Int)) = false := by simp; omega
  have d2 : decide (2147483647 < (t.size : Int)) = false := by simp; omega
  have d3 : decide (2147483647 < (h.size : Int)) = false := by simp; omega
  have d4 : decide (1000 < (n.size : Int) + t.size) = true := by simp; omega
  go_enter Tryd.func6, Tryd.ntmps6
  go_wp2_with (first | (go_at_call 24; refine (small.small_any _ _ (by omega)).mono ?_; rintro e w' ⟨rfl, rfl⟩) | (go_at_call 17; refine (hash.name40_any _ _ (by omega)).mono ?_; rintro e w' ⟨rfl, rfl⟩))
  go_ret
  exact ⟨rfl, Below.refl _ _⟩
theorem law_long (n t h : ByteArray) (w : World) (b : Bool × Bool) (d1 : decide (2147483647 < (n.size : Int)) = b.1) (d2 : decide (2147483647 < (t.size : Int)) = b.2) (d3 : b.1 = true ∨ b.2 = true ∨ decide (2147483647 < (h.size : Int)) = true) :
    Calls Tryd.prog 6 #[.string n, .string t, .string h] w fun e w' => e = .returned (.bool true) ∧ Below w.heap.size w w' := by
  obtain ⟨b1, b2⟩ := b
  cases b1 <;> cases b2 <;> simp only [Bool.false_eq_true, false_or, true_or, or_self] at d3 d1 d2
  all_goals
    go_enter Tryd.func6, Tryd.ntmps6
    go_wp2_with fail
    go_ret
    exact ⟨rfl, Below.refl _ _⟩
theorem law (n t h : ByteArray) (w : World) (hE : ∃ ev, w.cell? ⟨4, 0, none⟩ = some ev) :
    Calls Tryd.prog 6 #[.string n, .string t, .string h] w fun e w' => e = .returned (.bool true) ∧ Below w.heap.size w w' := by
  obtain ⟨ev, hE⟩ := hE
  by_cases h1 : n.size ≤ 2147483647
  · by_cases h2 : t.size ≤ 2147483647
    · by_cases h3 : h.size ≤ 2147483647
      · cases hn : small.smallB n with
        | false => exact law_no1 n t h w h1 h2 h3 hn
        | true =>
          cases ht : small.smallB t with
          | false => exact law_no2 n t h w h1 h2 h3 hn ht
          | true =>
            cases hh : hash.name40 h with
            | false => exact law_no3 n t h w h1 h2 h3 hn ht hh
            | true =>
              by_cases hs : n.size + t.size ≤ 1000
              · exact law_yes n t h w ev hE hn ht hh hs
              · exact law_no4 n t h w h1 h2 h3 hn ht hh (by omega)
      · exact law_long n t h w (decide (2147483647 < (n.size : Int)), decide (2147483647 < (t.size : Int))) rfl rfl (Or.inr (Or.inr (decide_eq_true (by omega))))
    · exact law_long n t h w (decide (2147483647 < (n.size : Int)), decide (2147483647 < (t.size : Int))) rfl rfl (Or.inr (Or.inl (decide_eq_true (by omega))))
  · exact law_long n t h w (decide (2147483647 < (n.size : Int)), decide (2147483647 < (t.size : Int))) rfl rfl (Or.inl (decide_eq_true (by omega)))
end Go.Proofs.YtoofbppfbbhliaaDoor.fnRefStrings
