/- sort.Sort over hashes that rise: nothing is moved. sort.choosePivot, partialInsertionSort, insertionSort over hashes that rise. sort.pdqsort, sort.Sort, plumbing.HashesSort over hashes that rise. bytes.Compare of two rows of bytes; HashSlice.Less. -/
import Derived.Test.YtdobblddnfalcaaGreatDoorProg
import Derived.Test.YtdobblddnfalcaaGreatDoorWWords
import Derived.Test.YtdobblddnfalcaaGreatDoorWLast
import Derived.Test.YtdobblddnfalcaaGreatDoorWMore
import Derived.Lib.BitFns
import Derived.Lib.Bytealg
import Derived.Lib.BytesEntry
import Derived.Deep.QuietTactic
import Derived.BigQuiet
namespace Go.Proofs.YtdobblddnfalcaaGreatDoor.hv
section
open Go.RowKit Go.Proofs.YtdobblddnfalcaaGreatDoorW.PrintWords Go.Proofs.YtdobblddnfalcaaGreatDoorW.PrintLast Go.Proofs.YtdobblddnfalcaaGreatDoorW.PrintMore
set_option linter.unusedVariables false
set_option linter.unusedSimpArgs false
set_option maxHeartbeats 2000000
set_option maxRecDepth 100000
abbrev DV (A : Option Addr) (n c : Nat) : Value := .iface 176 (.slice A n c)
/-- No element is less than one ahead of it, in every world from w on. -/
def Srt (w : World) (A : Option Addr) (n c : Nat) : Prop := ∀ W, Below w.heap.size w W → ∀ i j : Nat, j < i → i < n →
  Calls Tryz.prog 264 #[.slice A n c, .int .i64 (i : Int), .int .i64 (j : Int)] W fun e W' => e = .returned (.bool false) ∧ Below W.heap.size W W'
theorem srt_nil (A : Option Addr) (n c : Nat) (m : String) (hm : m = "Len" ∨ m = "Less") (w : World) : (nilAhead 422 176 (.slice A n c) m).run Tryz.prog w = .ok (some false) w := by
  rcases hm with rfl | rfl <;> kernel_rfl
theorem srt_len (A : Option Addr) (n c : Nat) (w : World) : (method 422 176 (.slice A n c) "Len").run Tryz.prog w = .ok (263, .slice A n c) w := by kernel_rfl
theorem srt_less (A : Option Addr) (n c : Nat) (w : World) : (method 422 176 (.slice A n c) "Less").run Tryz.prog w = .ok (264, .slice A n c) w := by kernel_rfl
theorem len_any (A : Option Addr) (n c : Nat) (w : World) : Calls Tryz.prog 263 #[.slice A n c] w fun e w' => e = .returned (.int .i64 (n : Int)) ∧ w = w' := by
  go_enter Tryz.func263, Tryz.ntmps263
  go_wp2_with fail
  go_ret
  exact ⟨rfl, rfl⟩
theorem order2_any {w : World} {A : Option Addr} {n c : Nat} (hs : Srt w A n c) (W : World) (hb : Below w.heap.size w W) (a b : Nat) (hab : a < b) (hbn : b < n) (p : Value) :
    Calls Tryz.prog 187 #[DV A n c, .int .i64 (a : Int), .int .i64 (b : Int), p] W fun e W' => e = .returned (.tuple #[.int .i64 (a : Int), .int .i64 (b : Int)]) ∧ Below W.heap.size W W' := by
  have HLE := Aside0.mk (hs W hb b a hab hbn)
  have hn2 := srt_nil A n c "Less" (.inr rfl)
  have hm2 := srt_less A n c
  clear hs hb
  go_enter Tryz.func187, Tryz.ntmps187
  go_wp2_with fail
  refine HLE.out.mono ?_
  rintro e w1 ⟨rfl, hb⟩
  have HB := Aside0.mk hb
  clear hb
  go_wp2_with fail
  go_ret2
  exact ⟨rfl, HB.out⟩
theorem median_any {w : World} {A : Option Addr} {n c : Nat} (hs : Srt w A n c) (W : World) (hb : Below w.heap.size w W) (a b d : Nat) (hab : a < b) (hbd : b < d) (hdn : d < n) (p : Value) :
    Calls Tryz.prog 178 #[DV A n c, .int .i64 (a : Int), .int .i64 (b : Int), .int .i64 (d : Int), p] W fun e W' => e = .returned (.int .i64 (b : Int)) ∧ Below W.heap.size W W' := by
  have HO := Aside0.mk (fun W (hb : Below w.heap.size w W) => order2_any hs W hb)
  have HB := Aside0.mk hb
  clear hs hb
  go_enter Tryz.func178, Tryz.ntmps178
  go_wp2_with fail
  refine (HO.out _ HB.out a b hab (by omega) p).mono ?_
  rintro e w1 ⟨rfl, hb⟩
  have HB1 := Aside0.mk hb
  clear hb
  go_wp2_with fail
  refine (HO.out _ (below_step HB.out HB1.out) b d hbd hdn p).mono ?_
  rintro e w2 ⟨rfl, hb⟩
  have HB2 := Aside0.mk (below_step HB1.out hb)
  clear hb
  go_wp2_with fail
  refine (HO.out _ (below_step HB.out HB2.out) a b hab (by omega) p).mono ?_
  rintro e w3 ⟨rfl, hb⟩
  have HB3 := Aside0.mk (below_step HB2.out hb)
  clear hb
  go_wp2_with fail
  go_ret
  exact ⟨rfl, HB3.out⟩
theorem adjacent_any {w : World} {A : Option Addr} {n c : Nat} (hs : Srt w A n c) (W : World) (hb : Below w.heap.size w W) (a : Nat) (ha : 0 < a) (han : a + 1 < n) (hn : n ≤ 1000) (p : Value) :
    Calls Tryz.prog 177 #[DV A n c, .int .i64 (a : Int), p] W fun e W' => e = .returned (.int .i64 (a : Int)) ∧ Below W.heap.size W W' := by
  obtain ⟨x, hx⟩ : ∃ x, a - 1 = x := ⟨_, rfl⟩
  obtain ⟨y, hy⟩ : ∃ y, a + 1 = y := ⟨_, rfl⟩
  have HM := Aside0.mk (median_any hs W hb x a y (by omega) (by omega) (by omega) p)
  have w0 : wrap64 ((a : Int) - 1) = (x : Int) := by unfold wrap64; omega
  have w1 : wrap64 ((a : Int) + 1) = (y : Int) := by unfold wrap64; omega
  clear hs hb hx hy ha han hn
  go_enter Tryz.func177, Tryz.ntmps177
  go_wp2_with fail
  refine HM.out.mono ?_
  rintro e w2 ⟨rfl, hb⟩
  have HB1 := Aside0.mk hb
  clear hb
  go_wp2_with fail
  go_ret
  exact ⟨rfl, HB1.out⟩
end
section
open Go.RowKit Go.Proofs.YtdobblddnfalcaaGreatDoorW.PrintWords Go.Proofs.YtdobblddnfalcaaGreatDoorW.PrintLast Go.Proofs.YtdobblddnfalcaaGreatDoorW.PrintMore
set_option linter.unusedVariables false
set_option linter.unusedSimpArgs false
set_option maxHeartbeats 2000000
set_option maxRecDepth 100000
theorem insertion_any {w : World} {A : Option Addr} {n c : Nat} (hs : Srt w A n c) (W : World) (hb : Below w.heap.size w W) (hn : n ≤ 1000) (h0 : 0 < n) :
    Calls Tryz.prog 150 #[DV A n c, .int .i64 0, .int .i64 (n : Int)] W fun e W' => (∃ v, e = .returned v) ∧ Below W.heap.size W W' := by
  have HS := Aside0.mk hs
  have HB0 := Aside0.mk hb
  have hn2 := srt_nil A n c "Less" (.inr rfl)
  have hm2 := srt_less A n c
  clear hs hb
  go_enter Tryz.func150, Tryz.ntmps150
  go_wp2_with fail
  go_loopg [6] n (fun kq v6 w' => ∃ (i : Nat), v6 = .int .i64 (i : Int) ∧ 1 ≤ i ∧ i ≤ n ∧ Aside0 (kq + i = n + 1) ∧ Aside0 (Below W.heap.size W w'))
  case atStart => exact ⟨1, rfl, Nat.le_refl _, h0, ⟨by omega⟩, ⟨Below.refl _ _⟩⟩
  case round =>
    obtain ⟨i, rfl, h1, hj, HK, HB⟩ := hrel
    cases gk with
    | zero => exact absurd HK.out (by omega)
    | succ k1 =>
      by_cases hlt : i < n
      · have c0 : decide ((i : Int) < (n : Int)) = true := decide_eq_true (by omega)
        have c1 : decide (i < n) = true := decide_eq_true hlt
        have c2 : decide ((0 : Int) < (i : Int)) = true := decide_eq_true (by omega)
        have c3 : decide (0 < i) = true := decide_eq_true (by omega)
        obtain ⟨x, hx⟩ : ∃ x, i - 1 = x := ⟨_, rfl⟩
        have w1 : wrap64 ((i : Int) + 1) = (i : Int) + 1 := by unfold wrap64; omega
        have HX := Aside0.mk hx
        have HE := Aside0.mk (show (x : Int) = (i : Int) - 1 by omega)
        clear hx
        go_wp2_with fail
        go_loopg [7] 1 (fun kq v7 w' => v7 = .int .i64 (i : Int) ∧ Aside0 (kq = 1) ∧ Aside0 (Below W.heap.size W w'))
        case atStart => exact ⟨rfl, ⟨rfl⟩, HB⟩
        case round =>
          clear HB
          obtain ⟨rfl, HK2, HB2⟩ := hrel
          have HLE := Aside0.mk (HS.out _ (below_step HB0.out HB2.out) i x (by have := HX.out; omega) hlt)
          rw [HE.out] at HLE
          go_wp2_with fail
          refine HLE.out.mono ?_
          rintro e w7 ⟨rfl, hb⟩
          have HB3 := Aside0.mk (below_step HB2.out hb)
          clear hb HLE
          go_wp2_with fail
          go_roundg k1
          case measure => have := HK.out; omega
          case rel => exact ⟨i + 1, by go_num, by omega, hlt, ⟨by have := HK.out; omega⟩, HB3⟩
      · have c0 : decide ((i : Int) < (n : Int)) = false := decide_eq_false (by omega)
        have c1 : decide (i < n) = false := decide_eq_false hlt
        go_wp2_with fail
        refine bodyPost_end (results_none rfl _ _ _) rfl ?_
        exact ⟨⟨_, rfl⟩, HB.out⟩
theorem pivot_any {w : World} {A : Option Addr} {n c : Nat} (hs : Srt w A n c) (W : World) (hb : Below w.heap.size w W) (hn : n ≤ 1000) (h13 : 13 ≤ n) :
    Calls Tryz.prog 153 #[DV A n c, .int .i64 0, .int .i64 (n : Int)] W fun e W' => (∃ j : Int, e = .returned (.tuple #[.int .i64 j, .int .i64 1])) ∧ Below W.heap.size W W' := by
  obtain ⟨q, hq⟩ : ∃ q, n / 4 = q := ⟨_, rfl⟩
  obtain ⟨q2, hq2⟩ : ∃ q2, q * 2 = q2 := ⟨_, rfl⟩
  obtain ⟨q3, hq3⟩ : ∃ q3, q * 3 = q3 := ⟨_, rfl⟩
  have e1 : (n : Int) / 4 = (q : Int) := by omega
  have e2 : (n : Int) / 4 * 2 = (q2 : Int) := by omega
  have e3 : (n : Int) / 4 * 3 = (q3 : Int) := by omega
  obtain ⟨W1, hW1⟩ : ∃ W1, W.alloc (.cells #[.int .i64 0] 3 (0, 0)) = W1 := ⟨_, rfl⟩
  have hbx : W1.heap[W.heap.size]? = some (.cells #[.int .i64 0] 3 (0, 0)) := by rw [← hW1]; exact blk_new _ _
  have hb1 : Below W.heap.size W W1 := by rw [← hW1]; exact below_alloc (Below.refl _ _) _
  have HB1 := Aside0.mk hb1
  have BX := Aside0.mk hbx
  have HM := Aside0.mk (fun W' (hb' : Below W1.heap.size W1 W') p => median_any hs W' (below_step hb (below_step hb1 hb')) q q2 q3 (by omega) (by omega) (by omega) p)
  have HA1 := Aside0.mk (fun W' (hb' : Below W1.heap.size W1 W') (h50 : 50 ≤ n) p => adjacent_any hs W' (below_step hb (below_step hb1 hb')) q (by omega) (by omega) hn p)
  have HA2 := Aside0.mk (fun W' (hb' : Below W1.heap.size W1 W') (h50 : 50 ≤ n) p => adjacent_any hs W' (below_step hb (below_step hb1 hb')) q2 (by omega) (by omega) hn p)
  have HA3 := Aside0.mk (fun W' (hb' : Below W1.heap.size W1 W') (h50 : 50 ≤ n) p => adjacent_any hs W' (below_step hb (below_step hb1 hb')) q3 (by omega) (by omega) hn p)
  rw [← e3, ← e2, ← e1] at HM
  rw [← e1] at HA1
  rw [← e2] at HA2
  rw [← e3] at HA3
  have c8 : decide (8 ≤ (n : Int)) = true := decide_eq_true (by omega)
  have c8' : decide (8 ≤ n) = true := decide_eq_true (by omega)
  clear hs hb hb1 hbx hq hq2 hq3 e1 e2 e3
  by_cases h50 : 50 ≤ n
  · have c50 : decide (50 ≤ (n : Int)) = true := decide_eq_true (by omega)
    have c50' : decide (50 ≤ n) = true := decide_eq_true h50
    have H50 := Aside0.mk h50
    clear h50
    go_enter Tryz.func153, Tryz.ntmps153
    go_wp2_with fail
    refine (HA1.out _ (Below.refl _ _) H50.out _).mono ?_
    rintro e w1 ⟨rfl, hb⟩
    have HB2 := Aside0.mk hb
    clear hb
    go_wp2_with fail
    refine (HA2.out _ HB2.out H50.out _).mono ?_
    rintro e w1 ⟨rfl, hb⟩
    have HB3 := Aside0.mk (below_step HB2.out hb)
    clear hb
    go_wp2_with fail
    refine (HA3.out _ HB3.out H50.out _).mono ?_
    rintro e w1 ⟨rfl, hb⟩
    have HB4 := Aside0.mk (below_step HB3.out hb)
    clear hb
    go_wp2_with fail
    refine (HM.out _ HB4.out _).mono ?_
    rintro e w5 ⟨rfl, hb⟩
    have HB5 := Aside0.mk (below_step HB4.out hb)
    have q0 := (blk_cell (blk_below BX.out HB5.out) 0).trans (show _ = some (Value.int .i64 0) from rfl)
    clear hb
    go_wp2_with fail
    go_ret2
    exact ⟨⟨_, rfl⟩, below_step HB1.out HB5.out⟩
  · have c50 : decide (50 ≤ (n : Int)) = false := decide_eq_false (by omega)
    have c50' : decide (50 ≤ n) = false := decide_eq_false h50
    clear h50
    go_enter Tryz.func153, Tryz.ntmps153
    go_wp2_with fail
    refine (HM.out _ (Below.refl _ _) _).mono ?_
    rintro e w5 ⟨rfl, hb⟩
    have HB5 := Aside0.mk hb
    have q0 := (blk_cell (blk_below BX.out HB5.out) 0).trans (show _ = some (Value.int .i64 0) from rfl)
    clear hb
    go_wp2_with fail
    go_ret2
    exact ⟨⟨_, rfl⟩, below_step HB1.out HB5.out⟩
theorem partial_any {w : World} {A : Option Addr} {n c : Nat} (hs : Srt w A n c) (W : World) (hb : Below w.heap.size w W) (hn : n ≤ 1000) (h13 : 13 ≤ n) :
    Calls Tryz.prog 155 #[DV A n c, .int .i64 0, .int .i64 (n : Int)] W fun e W' => e = .returned (.bool true) ∧ Below W.heap.size W W' := by
  have HS := Aside0.mk hs
  have HB0 := Aside0.mk hb
  have hn2 := srt_nil A n c "Less" (.inr rfl)
  have hm2 := srt_less A n c
  clear hs hb
  go_enter Tryz.func155, Tryz.ntmps155
  go_wp2_with fail
  go_loopg [7, 8] 1 (fun kq v7 v8 w' => v7 = .int .i64 1 ∧ v8 = .int .i64 0 ∧ Aside0 (Below W.heap.size W w'))
  case atStart => exact ⟨rfl, rfl, ⟨Below.refl _ _⟩⟩
  case round =>
    obtain ⟨rfl, rfl, HB⟩ := hrel
    go_wp2_with fail
    go_loopg [7] n (fun kq v7 w' => ∃ i : Nat, v7 = .int .i64 (i : Int) ∧ 1 ≤ i ∧ i ≤ n ∧ Aside0 (kq + i = n + 1) ∧ Aside0 (Below W.heap.size W w'))
    case atStart => exact ⟨1, rfl, Nat.le_refl _, by omega, ⟨by omega⟩, HB⟩
    case round =>
      clear HB
      obtain ⟨i, rfl, h1, hj, HK, HB⟩ := hrel
      by_cases hlt : i < n
      · cases gk with
        | zero => exact absurd HK.out (by omega)
        | succ k1 =>
          have c0 : decide ((i : Int) < (n : Int)) = true := decide_eq_true (by omega)
          have c1 : decide (i < n) = true := decide_eq_true hlt
          obtain ⟨x, hx⟩ : ∃ x, i - 1 = x := ⟨_, rfl⟩
          have w1 : wrap64 ((i : Int) + 1) = (i : Int) + 1 := by unfold wrap64; omega
          have HX := Aside0.mk hx
          have HE := Aside0.mk (show (x : Int) = (i : Int) - 1 by omega)
          have HLE := Aside0.mk (HS.out _ (below_step HB0.out HB.out) i x (by have := HX.out; omega) hlt)
          rw [HE.out] at HLE
          clear hx
          go_wp2_with fail
          refine HLE.out.mono ?_
          rintro e w7 ⟨rfl, hb⟩
          have HB3 := Aside0.mk (below_step HB.out hb)
          clear hb HLE
          go_wp2_with fail
          go_roundg k1
          case measure => have := HK.out; omega
          case rel => exact ⟨i + 1, by go_num, by omega, hlt, ⟨by have := HK.out; omega⟩, HB3⟩
      · obtain rfl : i = n := by omega
        have c0 : decide ((i : Int) < (i : Int)) = false := decide_eq_false (by omega)
        have c1 : decide (i < i) = false := decide_eq_false hlt
        go_wp2_with fail
        go_ret
        exact ⟨rfl, HB.out⟩
end
section
open Go.RowKit Go.Proofs.YtdobblddnfalcaaGreatDoorW.PrintWords Go.Proofs.YtdobblddnfalcaaGreatDoorW.PrintLast Go.Proofs.YtdobblddnfalcaaGreatDoorW.PrintMore
set_option linter.unusedVariables false
set_option linter.unusedSimpArgs false
set_option maxHeartbeats 1000000
set_option maxRecDepth 100000
theorem pdq_any {w : World} {A : Option Addr} {n c : Nat} (hs : Srt w A n c) (W : World) (hb : Below w.heap.size w W) (hn : n ≤ 1000) (h2 : 2 ≤ n) (L : Nat) (hL : 0 < L) (hL2 : L ≤ 64) :
    Calls Tryz.prog 126 #[DV A n c, .int .i64 0, .int .i64 (n : Int), .int .i64 (L : Int)] W fun e W' => (∃ v, e = .returned v) ∧ Below W.heap.size W W' := by
  have HB0 := Aside0.mk hb
  have HI := Aside0.mk (fun W (hb : Below w.heap.size w W) => insertion_any hs W hb hn (by omega))
  have HP := Aside0.mk (fun W (hb : Below w.heap.size w W) (h : 13 ≤ n) => pivot_any hs W hb hn h)
  have HQ := Aside0.mk (fun W (hb : Below w.heap.size w W) (h : 13 ≤ n) => partial_any hs W hb hn h)
  clear hs hb
  go_enter Tryz.func126, Tryz.ntmps126
  go_wp2_with fail
  go_loopg [1, 2, 3, 8, 9] 1 (fun kq v1 v2 v3 v8 v9 w' => v1 = .int .i64 0 ∧ v2 = .int .i64 (n : Int) ∧ v3 = .int .i64 (L : Int) ∧ v8 = .bool true ∧ v9 = .bool true ∧ Aside0 (w' = W))
  case atStart => exact ⟨rfl, rfl, rfl, rfl, rfl, ⟨rfl⟩⟩
  case round =>
    obtain ⟨rfl, rfl, rfl, rfl, rfl, HW⟩ := hrel
    have hw := HW.out
    subst hw
    by_cases h13 : 13 ≤ n
    · have c0 : decide ((n : Int) ≤ 12) = false := decide_eq_false (by omega)
      have c1 : decide (n ≤ 12) = false := decide_eq_false (by omega)
      have c2 : decide ((L : Int) = 0) = false := decide_eq_false (by omega)
      have c3 : ((L : Int) == 0) = false := by rw [beq_eq_false_iff_ne]; omega
      have H13 := Aside0.mk h13
      clear h13
      go_wp2_with fail
      refine (HP.out _ HB0.out H13.out).mono ?_
      rintro e w1 ⟨⟨j, rfl⟩, hb⟩
      have HB1 := Aside0.mk hb
      clear hb
      go_wp2_with fail
      refine (HQ.out _ (below_step HB0.out HB1.out) H13.out).mono ?_
      rintro e w2 ⟨rfl, hb⟩
      have HB2 := Aside0.mk (below_step HB1.out hb)
      clear hb
      go_wp2_with fail
      first | refine bodyPost_ret (results_none rfl _ _ _) rfl ?_ | refine bodyPost_end (results_none rfl _ _ _) rfl ?_
      exact ⟨⟨_, rfl⟩, HB2.out⟩
    · have c0 : decide ((n : Int) ≤ 12) = true := decide_eq_true (by omega)
      have c1 : decide (n ≤ 12) = true := decide_eq_true (by omega)
      clear h13
      go_wp2_with fail
      refine (HI.out _ HB0.out).mono ?_
      rintro e w1 ⟨⟨v, rfl⟩, hb⟩
      have HB1 := Aside0.mk hb
      clear hb
      go_wp2_with fail
      first | refine bodyPost_ret (results_none rfl _ _ _) rfl ?_ | refine bodyPost_end (results_none rfl _ _ _) rfl ?_
      exact ⟨⟨_, rfl⟩, HB1.out⟩
theorem sort_any {w : World} {A : Option Addr} {n c : Nat} (hs : Srt w A n c) (W : World) (hb : Below w.heap.size w W) (hn : n ≤ 1000)
    (hlen : ∀ W, Calls Tryz.prog 91 #[.int .u64 (n : Int)] W fun e w' => e = .returned (.int .i64 (Lib.bitLen n)) ∧ w' = W) (h0 : 2 ≤ n → 0 < Lib.bitLen n) (h1 : Lib.bitLen n ≤ 64) :
    Calls Tryz.prog 93 #[DV A n c] W fun e W' => (∃ v, e = .returned v) ∧ Below W.heap.size W W' := by
  have HL := Aside0.mk hlen
  have hn2 := srt_nil A n c "Len" (.inl rfl)
  have hm1 := srt_len A n c
  by_cases h2 : 2 ≤ n
  · have HP := Aside0.mk (pdq_any hs W hb hn h2 (Lib.bitLen n) (h0 h2) h1)
    have c0 : decide ((n : Int) ≤ 1) = false := decide_eq_false (by omega)
    have c1 : decide (n ≤ 1) = false := decide_eq_false (by omega)
    clear hs hb hlen h2 h0 h1
    go_enter Tryz.func93, Tryz.ntmps93
    go_wp2_with fail
    refine (len_any _ _ _ _).mono ?_
    rintro e w1 ⟨rfl, rfl⟩
    go_wp2_with fail
    refine (HL.out _).mono ?_
    rintro e w2 ⟨rfl, rfl⟩
    go_wp2_with fail
    refine HP.out.mono ?_
    rintro e w3 ⟨⟨v, rfl⟩, hb⟩
    have HB := Aside0.mk hb
    clear hb
    go_wp2_with fail
    first | refine bodyPost_ret (results_none rfl _ _ _) rfl ?_ | refine bodyPost_end (results_none rfl _ _ _) rfl ?_
    exact ⟨⟨_, rfl⟩, HB.out⟩
  · have c0 : decide ((n : Int) ≤ 1) = true := decide_eq_true (by omega)
    have c1 : decide (n ≤ 1) = true := decide_eq_true (by omega)
    clear hs hb hlen h2 h0 h1
    go_enter Tryz.func93, Tryz.ntmps93
    go_wp2_with fail
    refine (len_any _ _ _ _).mono ?_
    rintro e w1 ⟨rfl, rfl⟩
    go_wp2_with fail
    first | refine bodyPost_ret (results_none rfl _ _ _) rfl ?_ | refine bodyPost_end (results_none rfl _ _ _) rfl ?_
    exact ⟨⟨_, rfl⟩, Below.refl _ _⟩
theorem hashesSort_any {w : World} {A : Option Addr} {n c : Nat} (hs : Srt w A n c) (hn : n ≤ 1000)
    (hlen : ∀ W, Calls Tryz.prog 91 #[.int .u64 (n : Int)] W fun e w' => e = .returned (.int .i64 (Lib.bitLen n)) ∧ w' = W) (h0 : 2 ≤ n → 0 < Lib.bitLen n) (h1 : Lib.bitLen n ≤ 64) :
    Calls Tryz.prog 74 #[.slice A n c] w fun e W' => (∃ v, e = .returned v) ∧ Below w.heap.size w W' := by
  have HS := Aside0.mk (sort_any hs w (Below.refl _ _) hn hlen h0 h1)
  clear hs hlen h0 h1
  go_enter Tryz.func74, Tryz.ntmps74
  go_wp2_with fail
  refine HS.out.mono ?_
  rintro e w3 ⟨⟨v, rfl⟩, hb⟩
  have HB := Aside0.mk hb
  clear hb
  go_wp2_with fail
  first | refine bodyPost_ret (results_none rfl _ _ _) rfl ?_ | refine bodyPost_end (results_none rfl _ _ _) rfl ?_
  exact ⟨⟨_, rfl⟩, HB.out⟩
end
section
open Go.RowKit Go.Proofs.YtdobblddnfalcaaGreatDoorW.PrintWords Go.Proofs.YtdobblddnfalcaaGreatDoorW.PrintLast Go.Proofs.YtdobblddnfalcaaGreatDoorW.PrintMore
set_option linter.unusedVariables false
set_option linter.unusedSimpArgs false
set_option maxHeartbeats 1000000
set_option maxRecDepth 100000
/-- Bytes lie from an address on. -/
def Lie (W : World) (p : Addr) (D : List UInt8) : Prop := ∀ j x, D[j]? = some x → W.cell? (p.add j) = some (.int .u8 (x.toNat : Int))
theorem ofNats (D : List UInt8) : Lib.bytesOf (D.map fun b => (b.toNat : Int)) = D := by
  induction D with
  | nil => rfl
  | cons a r ih =>
    unfold Lib.bytesOf at ih ⊢
    rw [List.map_cons, List.map_cons, ih]
    simp
theorem Lie.loads {W : World} {p : Addr} {D : List UInt8} {n : Nat} (h : Lie W p D) (hn : D.length = n) : (Extern.Bytes.loadBytes p n .empty).run Tryz.prog W = .ok ⟨D.toArray⟩ W := by
  have := Lib.run_loadBytesX (P := Tryz.prog) (w := W) (D.map fun b => (b.toNat : Int)) p .empty (fun j x hj => by
    rw [List.getElem?_map] at hj
    cases hd : D[j]? with
    | none => rw [hd] at hj; cases hj
    | some y =>
      rw [hd] at hj
      cases hj
      exact h j y hd)
  rw [List.length_map, hn, ofNats] at this
  rw [this]
  congr 2
  show (#[] : Array UInt8) ++ D.toArray = D.toArray
  simp
theorem run_compare {W : World} {p q : Addr} {D E : List UInt8} {n m c d : Nat} (h1 : Lie W p D) (h2 : Lie W q E) (hn : D.length = n) (hm : E.length = m) :
    (Extern.BytealgCompare.compare #[.slice (some p) n c, .slice (some q) m d]).run Tryz.prog W = .ok (.int .i64 (Lib.compareBytes D E)) W := by
  have hs := Lib.run_compareString (P := Tryz.prog) ⟨D.toArray⟩ ⟨E.toArray⟩ W
  change Sem.run Tryz.prog (do pure (goInt (Extern.BytealgCompare.cmp (← Extern.Bytes.bytesOf (.slice (some p) n c)) (← Extern.Bytes.bytesOf (.slice (some q) m d))))) W = _
  change Sem.run Tryz.prog (do pure (goInt (Extern.BytealgCompare.cmp (← Extern.Bytes.bytesOf (.string ⟨D.toArray⟩)) (← Extern.Bytes.bytesOf (.string ⟨E.toArray⟩))))) W = _ at hs
  simp only [Extern.Bytes.bytesOf, Sem.run_bind, Sem.run_pure, h1.loads hn, h2.loads hm, Result.andThen] at hs ⊢
  simpa using hs
theorem compare_any {W : World} {p q : Addr} {D E : List UInt8} {n m c d : Nat} (h1 : Lie W p D) (h2 : Lie W q E) (hn : D.length = n) (hm : E.length = m) :
    Calls Tryz.prog 266 #[.slice (some p) n c, .slice (some q) m d] W fun e W' => e = .returned (.int .i64 (Lib.compareBytes D E)) ∧ W = W' := by
  have hr := run_compare (c := c) (d := d) h1 h2 hn hm
  go_enter Tryz.func266, Tryz.ntmps266
  go_wp2_with fail
  rw [run_callFunc_extern Tryz.func267 (by kernel_rfl) (by kernel_rfl) (by kernel_rfl) (e := Extern.BytealgCompare.compare) (by kernel_rfl), hr]
  simp only [Result.andThen]
  rw [Oper.upon_value]
  go_wp2_with fail
  go_ret
  exact ⟨rfl, rfl⟩
theorem less_any (W : World) (ad : Addr) (n c i j : Nat) (hi : i < n) (hj : j < n) (D E : List UInt8) (hD : Lie W (ad.add (i * 20)) D) (hE : Lie W (ad.add (j * 20)) E) (lD : D.length = 20) (lE : E.length = 20) (b : Bool) (hb : decide (Lib.compareBytes D E < 0) = b) :
    Calls Tryz.prog 264 #[.slice (some ad) n c, .int .i64 (i : Int), .int .i64 (j : Int)] W fun e W' => e = .returned (.bool b) ∧ ∃ m, W' = W.drewN m := by
  have p1 : (0 : Int) ≤ (i : Int) := by omega
  have p2 : (i : Int) < (n : Int) := by omega
  have p3 : (0 : Int) ≤ (j : Int) := by omega
  have p4 : (j : Int) < (n : Int) := by omega
  have HC := Aside0.mk (fun (W' : World) (h1 : Lie W' (ad.add (i * 20)) D) (h2 : Lie W' (ad.add (j * 20)) E) (c d : Nat) => compare_any (c := c) (d := d) h1 h2 lD lE)
  obtain ⟨p, hp⟩ : ∃ p, ad.add (i * 20) = p := ⟨_, rfl⟩
  obtain ⟨q, hq⟩ : ∃ q, ad.add (j * 20) = q := ⟨_, rfl⟩
  rw [hp] at hD HC
  rw [hq] at hE HC
  have HD := Aside0.mk hD
  have HE := Aside0.mk hE
  have HB := Aside0.mk hb
  obtain ⟨z, hz⟩ : ∃ z, Lib.compareBytes D E = z := ⟨_, rfl⟩
  rw [hz] at HB HC
  have hsz : ∀ W : World, (sizeOf 129).run Tryz.prog W = .ok 20 W := fun W => by kernel_rfl
  have hu := Tryz.underlying176
  clear hD hE lD lE hb hz
  go_enter Tryz.func264, Tryz.ntmps264
  go_wp2_with fail
  refine wp_region_quiet_lit (by kernel_rfl) (by kernel_rfl) ?_
  quiet_step (fail)
  quiet_step (fail)
  quiet_step (fail)
  quiet_step (fail)
  quiet_step (fail)
  quiet_step (fail)
  quiet_step (fail)
  quiet_step (fail)
  quiet_step ((go_at_call 266; exact Calls.quiet_of_same ((HC.out _ (by exact HD.out) (by exact HE.out) _ _).mono fun _ _ h => ⟨h.1, h.2.symm⟩)))
  quiet_step (fail)
  quiet_step (fail)
  refine wpQuiet_nil ?_
  intro _ hw'
  obtain ⟨nq, hw''⟩ := hw'
  subst hw''
  go_wp2_with fail
  go_ret
  exact ⟨by rw [← HB.out]; rfl, _, rfl⟩
end
end Go.Proofs.YtdobblddnfalcaaGreatDoor.hv
