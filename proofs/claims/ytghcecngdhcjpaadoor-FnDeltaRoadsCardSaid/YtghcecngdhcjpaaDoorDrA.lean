/- The specification's reading of a delta's numbers: readSize7, readCopy. -/
import Derived.Test.YtghcecngdhcjpaaDoorPatch
import Derived.Laws.Bits64b
namespace Go.Proofs.YtghcecngdhcjpaaDoor.dr
open Go.RowKit Go.Proofs.YtghcecngdhcjpaaDoorW.PrintWords Go.Proofs.YtghcecngdhcjpaaDoorW.PrintLast Go.Proofs.YtghcecngdhcjpaaDoorW.PrintMore Go.Proofs.YtghcecngdhcjpaaDoor.leb
set_option linter.unusedVariables false
set_option linter.unusedSimpArgs false
set_option maxHeartbeats 2000000
set_option maxRecDepth 100000
/-- Digits that are followed by others. -/
def highs (ds : List Nat) : List Int := ds.map fun d => ((d + 128 : Nat) : Int)
theorem sevens_snoc : ∀ (ds : List Nat) (d : Nat), sevens (ds ++ [d]) = highs ds ++ [(d : Int)]
  | [], d => rfl
  | [x], d => rfl
  | x :: y :: r, d => by
    have := sevens_snoc (y :: r) d
    show ((x + 128 : Nat) : Int) :: sevens (y :: (r ++ [d])) = _
    rw [show y :: (r ++ [d]) = (y :: r) ++ [d] from rfl, this]
    rfl
theorem sevVal_snoc : ∀ (ds : List Nat) (d : Nat), sevVal (ds ++ [d]) = sevVal ds + d * 128 ^ ds.length
  | [], d => by simp [sevVal]
  | x :: r, d => by
    show x + 128 * sevVal (r ++ [d]) = x + 128 * sevVal r + _
    rw [sevVal_snoc r d, List.length_cons, Nat.pow_succ, Nat.mul_add]
    rw [show 128 * (d * 128 ^ r.length) = d * (128 ^ r.length * 128) by rw [Nat.mul_comm (128 ^ r.length) 128, Nat.mul_left_comm]]
    omega
theorem size7_step (v y k : Nat) (hk : k ≤ 3) (hv : v < 128 ^ k) : wrap64 ((v : Int) + wrap64 (((y : Int) % 128) * 2 ^ (7 * k))) = ((v + y % 128 * 128 ^ k : Nat) : Int) := by
  have h : k = 0 ∨ k = 1 ∨ k = 2 ∨ k = 3 := by omega
  rcases h with rfl | rfl | rfl | rfl
  · have e1 : (2 : Int) ^ (7 * 0) = 1 := by decide
    have e2 : (128 : Nat) ^ 0 = 1 := by decide
    rw [e1, e2] at *
    unfold wrap64; omega
  · have e1 : (2 : Int) ^ (7 * 1) = 128 := by decide
    have e2 : (128 : Nat) ^ 1 = 128 := by decide
    rw [e1, e2] at *
    unfold wrap64; omega
  · have e1 : (2 : Int) ^ (7 * 2) = 16384 := by decide
    have e2 : (128 : Nat) ^ 2 = 16384 := by decide
    rw [e1, e2] at *
    unfold wrap64; omega
  · have e1 : (2 : Int) ^ (7 * 3) = 2097152 := by decide
    have e2 : (128 : Nat) ^ 3 = 2097152 := by decide
    rw [e1, e2] at *
    unfold wrap64; omega
/-- What readSize7 answers. -/
def Size7 (A : Option Addr) (c : Nat) (xs : List Int) (e : Ending) : Prop :=
  (∃ (ds : List Nat) (A' : Option Addr) (c' : Nat) (rest : List Int), e = .returned (.tuple #[.int .i64 (sevVal ds), .slice A' rest.length c', .int .i64 0]) ∧ xs = sevens ds ++ rest ∧ 0 < ds.length ∧ ds.length ≤ 4 ∧ (∀ d ∈ ds, d < 128) ∧ Tail A xs A' rest ∧ rest.length ≤ c' ∧ c' ≤ maxLen) ∨
  (∃ s : Int, s ≠ 0 ∧ e = .returned (.tuple #[.int .i64 0, .slice none 0 0, .int .i64 s]))
theorem size7_any (A : Option Addr) (c : Nat) (xs : List Int) (w : World) (hr : Kd.C (Kd.int .u8) w A xs.length xs) (hc : xs.length ≤ c) (hcm : c ≤ maxLen) (hb : Bytes xs) :
    Calls Tryd.prog 28 #[.slice A xs.length c] w fun e w' => Size7 A c xs e ∧ Below w.heap.size w w' := by
  have HR := Aside0.mk hr
  have HY := Aside0.mk hb
  clear hr hb
  go_enter Tryd.func28, Tryd.ntmps28
  go_wp2
  go_loopw [5, 10] (fun n i wr => ∃ (k : Nat) (ds : List Nat), k ≤ xs.length ∧ k ≤ 4 ∧ n = .int .i64 (sevVal ds) ∧ i = .int .i64 k ∧ Aside0 (ds.length = k) ∧ Aside0 (∀ d ∈ ds, d < 128) ∧ Aside0 (xs.take k = highs ds) ∧ Aside0 (Below w.heap.size w wr)) (fun _ i _ => xs.length - (intOf i).toNat)
  case atStart => exact ⟨0, [], by omega, by omega, rfl, rfl, ⟨rfl⟩, ⟨by simp⟩, ⟨rfl⟩, ⟨Below.refl _ _⟩⟩
  case round =>
    obtain ⟨k, ds, hk, hk4, rfl, rfl, HL, HD, HT, HW⟩ := hrel
    by_cases hlt : k < xs.length
    · have c0 : decide ((k : Int) < (xs.length : Int)) = true := decide_eq_true (by omega)
      obtain ⟨x, hx⟩ : ∃ x, xs[k]? = some x := ⟨_, List.getElem?_eq_getElem hlt⟩
      obtain ⟨hx0, hx1⟩ := HY.out x (List.mem_of_getElem? hx)
      obtain ⟨ad, e, hcell⟩ := byte_at HR.out k hlt hx
      subst e
      have hcw : wr.cell? (ad.add k) = some (.int .u8 x) := (HW.out.cell (World.block_lt_of_cell? w _ hcell)).trans hcell
      have HX := Aside0.mk hx
      clear hx hcell
      by_cases h4 : k = 4
      · have c1 : ((k : Int) == 4) = true := by rw [beq_iff_eq]; omega
        have c2 : (k == 4) = true := by rw [beq_iff_eq]; omega
        clear h4
        go_wp2
        go_ret3
        exact ⟨.inr ⟨2, by decide, rfl⟩, HW.out⟩
      · have c1 : ((k : Int) == 4) = false := by rw [beq_eq_false_iff_ne]; omega
        have c2 : (k == 4) = false := by rw [beq_eq_false_iff_ne]; omega
        have hv : sevVal ds < 128 ^ k := by have := sevVal_lt ds HD.out; rwa [HL.out] at this
        obtain ⟨y, rfl⟩ := Int.eq_ofNat_of_zero_le hx0
        have hq := size7_step (sevVal ds) y k (by omega) hv
        rw [← HL.out, ← sevVal_snoc, HL.out] at hq
        have hxk : xs.drop k = (y : Int) :: xs.drop (k + 1) := by
          obtain ⟨h1, h2⟩ := List.getElem?_eq_some_iff.1 HX.out
          rw [List.drop_eq_getElem_cons h1, h2]
        have HXK := Aside0.mk hxk
        clear hxk
        by_cases hy : y < 128
        · have c3 : decide ((y : Int) < 128) = true := decide_eq_true (by omega)
          have c4 : decide (y < 128) = true := decide_eq_true hy
          have hym : y % 128 = y := Nat.mod_eq_of_lt hy
          rw [hym] at hq
          clear hym
          have hk1 : k + 1 ≤ xs.length := by omega
          have hk2 : k + 1 ≤ c := by omega
          have HCC := Aside0.mk (fun w1 (h1 : Kd.C (Kd.int .u8) w1 (some ad) xs.length xs) => Kd.C_drop h1 hk1 hc)
          have hwk : wrap64 ((k : Int) + 1) = (k : Int) + 1 := by unfold wrap64; omega
          go_wp2
          go_quiet (fail)
          all_goals go_wp2
          all_goals go_ret3
          all_goals (
            rw [show xs.length - (k + 1) = (xs.drop (k + 1)).length by rw [List.length_drop]]
            refine ⟨.inl ⟨ds ++ [y], _, _, xs.drop (k + 1), rfl, ?_, by simp, by simp [HL.out]; omega, ?_, ?_, ?_, ?_⟩, ?_⟩
            · rw [sevens_snoc, ← HT.out, List.append_assoc]
              show xs = xs.take k ++ ((y : Int) :: xs.drop (k + 1))
              rw [← HXK.out, List.take_append_drop]
            · intro d hd
              rcases List.mem_append.1 hd with h | h
              · exact HD.out d h
              · rw [List.mem_singleton.1 h]; exact hy
            · intro w1 h1
              have hC := HCC.out w1 h1
              split at hC
              all_goals first | exact hC | (exfalso; omega) | (simpa [Addr.add, Kd.int, Kd.scalar, *] using hC)
            · rw [List.length_drop]; omega
            · omega
            · exact pw_below_drewN HW.out _)
        · have c3 : decide ((y : Int) < 128) = false := decide_eq_false (by omega)
          have c4 : decide (y < 128) = false := decide_eq_false hy
          go_wp2
          go_roundw
          case rel =>
            refine ⟨k + 1, ds ++ [y % 128], by omega, by omega, by rw [hq], by simp, ⟨by simp [HL.out]⟩, ⟨?_⟩, ⟨?_⟩, HW⟩
            · intro d hd
              rcases List.mem_append.1 hd with h | h
              · exact HD.out d h
              · rw [List.mem_singleton.1 h]; exact Nat.mod_lt _ (by decide)
            · rw [List.take_add_one, HT.out, HX.out, highs, highs, List.map_append]
              congr 1
              simp
              omega
          case measure => simp [intOf]; omega
    · have c0 : decide ((k : Int) < (xs.length : Int)) = false := decide_eq_false (by omega)
      go_wp2
      go_ret3
      exact ⟨.inr ⟨1, by decide, rfl⟩, HW.out⟩
theorem results_tmp4 {fn : Func} {t u v x : Tmp} (h : fn.results = #[.tmp t, .tmp u, .tmp v, .tmp x]) (tmps : Array Value) (P : Program) (w : World) :
    (results fn tmps).run P w = .ok (.tuple #[tmps.getD t undef, tmps.getD u undef, tmps.getD v undef, tmps.getD x undef]) w := by
  simp [results, h]
theorem bit_mask : ∀ (c : Fin 256) (k : Fin 7), (c.val &&& 2 ^ k.val = 0 ↔ c.val / 2 ^ k.val % 2 = 0) := by decide +kernel
theorem and_one (c k : Nat) (hc : c < 256) : bits .and .u8 ((c : Int) / 2 ^ k) 1 = ((c / 2 ^ k % 2 : Nat) : Int) := by
  have h1 : ((c : Int) / 2 ^ k) = ((c / 2 ^ k : Nat) : Int) := by push_cast; rfl
  rw [h1]
  have h2 := bits_and_u8 (c / 2 ^ k) 1 (Nat.lt_of_le_of_lt (Nat.div_le_self _ _) hc) (by decide)
  rw [Nat.and_one_is_mod] at h2
  exact h2
theorem copy_step (acc y k : Nat) (hk : k ≤ 3) (ha : acc < 2 ^ (8 * k)) (hy : y < 256) : wrap64 ((acc : Int) + wrap64 ((y : Int) * 2 ^ (8 * k))) = ((acc + y * 2 ^ (8 * k) : Nat) : Int) := by
  have h : k = 0 ∨ k = 1 ∨ k = 2 ∨ k = 3 := by omega
  rcases h with rfl | rfl | rfl | rfl
  · have e1 : (2 : Int) ^ (8 * 0) = 1 := by decide
    have e2 : (2 : Nat) ^ (8 * 0) = 1 := by decide
    rw [e1, e2] at *
    unfold wrap64; omega
  · have e1 : (2 : Int) ^ (8 * 1) = 256 := by decide
    have e2 : (2 : Nat) ^ (8 * 1) = 256 := by decide
    rw [e1, e2] at *
    unfold wrap64; omega
  · have e1 : (2 : Int) ^ (8 * 2) = 65536 := by decide
    have e2 : (2 : Nat) ^ (8 * 2) = 65536 := by decide
    rw [e1, e2] at *
    unfold wrap64; omega
  · have e1 : (2 : Int) ^ (8 * 3) = 16777216 := by decide
    have e2 : (2 : Nat) ^ (8 * 3) = 16777216 := by decide
    rw [e1, e2] at *
    unfold wrap64; omega
/-- What a copy's code asks for: the place, the size, what follows. -/
def both (cmd : Nat) (xs : List Int) : Option (Nat × Nat × List Int) := (fields [1, 2, 4, 8] 0 cmd 0 xs).bind fun p => (fields [16, 32, 64] 0 cmd 0 p.2).map fun q => (p.1, q.1, q.2)
/-- What readCopy answers. -/
def Copied (A : Option Addr) (xs : List Int) (r : Option (Nat × Nat × List Int)) (e : Ending) : Prop := match r with
  | some (o, s, d) => ∃ A' c', e = .returned (.tuple #[.int .i64 o, .int .i64 (Go.Proofs.YtghcecngdhcjpaaDoor.leb.sizeOf s : Nat), .slice A' d.length c', .int .i64 0]) ∧ Tail A xs A' d ∧ d.length ≤ c' ∧ c' ≤ maxLen
  | none => e = .returned (.tuple #[.int .i64 0, .int .i64 0, .slice none 0 0, .int .i64 1])
/-- Where the reading of a copy's fields stands. -/
def At (cmd k o s : Nat) (ys : List Int) (r : Option (Nat × Nat × List Int)) : Prop :=
  (k < 4 ∧ s = 0 ∧ o < 2 ^ (8 * k) ∧ ((fields ([1, 2, 4, 8].drop k) (8 * k) cmd o ys).bind fun p => (fields [16, 32, 64] 0 cmd 0 p.2).map fun q => (p.1, q.1, q.2)) = r) ∨
  (∃ j, k = j + 4 ∧ j ≤ 3 ∧ s < 2 ^ (8 * j) ∧ ((fields ([16, 32, 64].drop j) (8 * j) cmd s ys).map fun q => (o, q.1, q.2)) = r)
theorem drop_mask {k : Nat} (hk : k < 4) : [1, 2, 4, 8].drop k = 2 ^ k :: [1, 2, 4, 8].drop (k + 1) := by
  have h : k = 0 ∨ k = 1 ∨ k = 2 ∨ k = 3 := by omega
  rcases h with rfl | rfl | rfl | rfl <;> rfl
theorem drop_mask2 {k : Nat} (hk : k < 3) : [16, 32, 64].drop k = 2 ^ (k + 4) :: [16, 32, 64].drop (k + 1) := by
  have h : k = 0 ∨ k = 1 ∨ k = 2 := by omega
  rcases h with rfl | rfl | rfl <;> rfl
/-- A field that is not asked for. -/
theorem At.skip {cmd k o s : Nat} {ys : List Int} {r : Option (Nat × Nat × List Int)} (h : At cmd k o s ys r) (hk : k < 7) (h0 : cmd &&& 2 ^ k = 0) : At cmd (k + 1) o s ys r := by
  rcases h with ⟨h4, rfl, ho, hr⟩ | ⟨j, rfl, hj, hs, hr⟩
  · rw [drop_mask h4, fields_cons, if_pos h0] at hr
    by_cases h3 : k = 3
    · subst h3
      exact .inr ⟨0, rfl, by omega, by decide, by simpa [fields] using hr⟩
    · exact .inl ⟨by omega, rfl, Nat.lt_of_lt_of_le ho (Nat.pow_le_pow_right (by decide) (by omega)), by rw [Nat.mul_add, Nat.mul_one]; exact hr⟩
  · rw [drop_mask2 (by omega), fields_cons, if_pos h0] at hr
    exact .inr ⟨j + 1, by omega, by omega, Nat.lt_of_lt_of_le hs (Nat.pow_le_pow_right (by decide) (by omega)), by rw [Nat.mul_add, Nat.mul_one]; exact hr⟩
theorem At.none_ {cmd k o s : Nat} {r : Option (Nat × Nat × List Int)} (h : At cmd k o s [] r) (hk : k < 7) (h0 : ¬ cmd &&& 2 ^ k = 0) : r = none := by
  rcases h with ⟨h4, rfl, ho, hr⟩ | ⟨j, rfl, hj, hs, hr⟩
  · rw [drop_mask h4, fields_cons, if_neg h0] at hr
    exact hr.symm
  · rw [drop_mask2 (by omega), fields_cons, if_neg h0] at hr
    exact hr.symm
theorem At.lo {cmd k o s y : Nat} {t : List Int} {r : Option (Nat × Nat × List Int)} (h : At cmd k o s ((y : Int) :: t) r) (hk : k < 4) (h0 : ¬ cmd &&& 2 ^ k = 0) (hy : y < 256) : At cmd (k + 1) (o + y * 2 ^ (8 * k)) s t r := by
  rcases h with ⟨h4, rfl, ho, hr⟩ | ⟨j, rfl, hj, hs, hr⟩
  · rw [drop_mask h4, fields_cons, if_neg h0] at hr
    have hl := field_lt o y k ho hy
    by_cases h3 : k = 3
    · subst h3
      exact .inr ⟨0, rfl, by omega, by decide, by simpa [fields] using hr⟩
    · exact .inl ⟨by omega, rfl, hl, by rw [Nat.mul_add, Nat.mul_one]; exact hr⟩
  · omega
theorem At.hi {cmd j o s y : Nat} {t : List Int} {r : Option (Nat × Nat × List Int)} (h : At cmd (j + 4) o s ((y : Int) :: t) r) (hk : j < 3) (h0 : ¬ cmd &&& 2 ^ (j + 4) = 0) (hy : y < 256) : At cmd (j + 1 + 4) o (s + y * 2 ^ (8 * j)) t r := by
  rcases h with ⟨h4, rfl, ho, hr⟩ | ⟨j', hj, hj3, hs, hr⟩
  · omega
  · obtain rfl : j' = j := by omega
    rw [drop_mask2 (by omega), fields_cons, if_neg h0] at hr
    exact .inr ⟨j' + 1, rfl, by omega, field_lt s y j' hs hy, by rw [Nat.mul_add, Nat.mul_one]; exact hr⟩
theorem At.end_ {cmd o s : Nat} {ys : List Int} {r : Option (Nat × Nat × List Int)} (h : At cmd 7 o s ys r) : r = some (o, s, ys) := by
  rcases h with ⟨h4, _⟩ | ⟨j, hj, hj3, hs, hr⟩
  · omega
  · obtain rfl : j = 3 := by omega
    exact hr.symm
theorem copy_any (cmd : Nat) (A : Option Addr) (c : Nat) (xs : List Int) (w : World) (hr : Kd.C (Kd.int .u8) w A xs.length xs) (hc : xs.length ≤ c) (hcm : c ≤ maxLen) (hb : Bytes xs) (hcmd : cmd < 256) :
    Calls Tryd.prog 29 #[.int .u8 cmd, .slice A xs.length c] w fun e w' => Copied A xs (both cmd xs) e ∧ Below w.heap.size w w' := by
  obtain ⟨r, hres⟩ : ∃ r, both cmd xs = r := ⟨_, rfl⟩
  rw [hres]
  have HX := Aside0.mk (show At cmd 0 0 0 xs r from .inl ⟨by omega, rfl, by decide, hres⟩)
  have HR := Aside0.mk hr
  have HD := Aside0.mk hb
  clear hres hr hb
  go_enter Tryd.func29, Tryd.ntmps29
  go_wp2
  go_loopw [1, 8, 9, 11] (fun b fr sz i wr => ∃ (k : Nat) (A1 : Option Addr) (c1 : Nat) (ys : List Int) (o s : Nat), k ≤ 7 ∧ b = .slice A1 ys.length c1 ∧ fr = .int .i64 o ∧ sz = .int .i64 s ∧ i = .int .i64 k ∧ ys.length ≤ c1 ∧ c1 ≤ maxLen ∧
    Aside0 (At cmd k o s ys r) ∧ Aside0 (Tail A xs A1 ys) ∧ Aside0 (Bytes ys) ∧ Aside0 (Below w.heap.size w wr)) (fun _ _ _ i _ => 7 - (intOf i).toNat)
  case atStart => exact ⟨0, A, c, xs, 0, 0, by omega, rfl, rfl, rfl, rfl, hc, hcm, HX, ⟨fun _ h => h⟩, HD, ⟨Below.refl _ _⟩⟩
  case round =>
    obtain ⟨k, A1, c1, ys, o, s, hk, rfl, rfl, rfl, rfl, hc1, hcm1, HA, HTL, HY, HB⟩ := hrel
    have HC := Aside0.mk (Kd.C_below (HTL.out w HR.out) HB.out)
    by_cases h7 : k < 7
    · have c0 : decide ((k : Int) < 7) = true := decide_eq_true (by omega)
      have hand := and_one cmd k hcmd
      have hmask := bit_mask ⟨cmd, hcmd⟩ ⟨k, h7⟩
      simp only at hmask
      obtain ⟨q, hq⟩ : ∃ q, cmd / 2 ^ k % 2 = q := ⟨_, rfl⟩
      rw [hq] at hand hmask
      have HMK := Aside0.mk hmask
      clear hq hmask
      by_cases hq0 : q = 0
      · have HS := Aside0.mk (HA.out.skip h7 (HMK.out.2 hq0))
        subst hq0
        go_wp2
        go_roundw
        case rel => exact ⟨k + 1, A1, c1, ys, o, s, by omega, rfl, rfl, rfl, by simp, hc1, hcm1, HS, HTL, HY, HB⟩
        case measure => simp [intOf]; omega
      · have hn0 : ¬ cmd &&& 2 ^ k = 0 := fun h => hq0 (HMK.out.1 h)
        have HN0 := Aside0.mk hn0
        have c1q : ((q : Int) == 0) = false := by rw [beq_eq_false_iff_ne]; omega
        clear hn0
        cases ys with
        | nil =>
          obtain rfl := HA.out.none_ h7 HN0.out
          go_wp2
          refine bodyPost_ret (results_tmp4 rfl _ _ _) rfl ?_
          exact ⟨rfl, HB.out⟩
        | cons x t =>
          obtain ⟨ad, e, hx0⟩ := byte_at HC.out 0 (by simp) (x := x) rfl
          cases e
          rw [Addr.add_zero'] at hx0
          obtain ⟨hxa, hxb⟩ := HY.out x (by simp)
          obtain ⟨y, rfl⟩ := Int.eq_ofNat_of_zero_le hxa
          have hyb : y < 256 := by omega
          have HYB := Aside0.mk hyb
          have HCT := Aside0.mk (fun w1 h1 => tail_C (HTL.out w1 h1) hc1)
          clear hxa hxb
          by_cases h4 : k < 4
          · have c4 : decide ((k : Int) < 4) = true := decide_eq_true (by omega)
            have c4' : decide (k < 4) = true := decide_eq_true h4
            have HS := Aside0.mk (HA.out.lo h4 HN0.out hyb)
            have ho : o < 2 ^ (8 * k) := by
              rcases HA.out with ⟨_, _, h, _⟩ | ⟨j, h, _⟩
              · exact h
              · omega
            have hq2 := copy_step o y k (by omega) ho hyb
            clear ho
            go_wp2
            go_roundw
            case rel => exact ⟨k + 1, _, c1 - 1, t, o + y * 2 ^ (8 * k), s, by omega, rfl, by first | rfl | rw [hq2], rfl, by simp, by simp at hc1; omega, by omega, HS, HCT, ⟨fun z hz => HY.out z (by simp [hz])⟩, HB⟩
            case measure => simp [intOf]; omega
          · have c4 : decide ((k : Int) < 4) = false := decide_eq_false (by omega)
            have c4' : decide (k < 4) = false := decide_eq_false h4
            obtain ⟨j, rfl⟩ : ∃ j, k = j + 4 := ⟨k - 4, by omega⟩
            have HS := Aside0.mk (HA.out.hi (by omega) HN0.out hyb)
            have ho : s < 2 ^ (8 * j) := by
              rcases HA.out with ⟨h, _⟩ | ⟨j', hj, _, h, _⟩
              · omega
              · obtain rfl : j' = j := by omega
                exact h
            have hq2 := copy_step s y j (by omega) ho hyb
            clear ho
            go_wp2
            go_roundw
            case rel => exact ⟨j + 1 + 4, _, c1 - 1, t, o, s + y * 2 ^ (8 * j), by omega, rfl, rfl, by first | rfl | rw [hq2], by first | rfl | (simp; omega), by simp at hc1; omega, by omega, HS, HCT, ⟨fun z hz => HY.out z (by simp [hz])⟩, HB⟩
            case measure => simp [intOf]; omega
    · have c0 : decide ((k : Int) < 7) = false := decide_eq_false (by omega)
      obtain rfl : k = 7 := by omega
      obtain rfl := HA.out.end_
      by_cases hs0 : s = 0
      · subst hs0
        go_wp2
        refine bodyPost_ret (results_tmp4 rfl _ _ _) rfl ?_
        exact ⟨⟨_, _, rfl, HTL.out, hc1, hcm1⟩, HB.out⟩
      · have c1 : ((s : Int) == 0) = false := by rw [beq_eq_false_iff_ne]; omega
        go_wp2
        refine bodyPost_ret (results_tmp4 rfl _ _ _) rfl ?_
        refine ⟨⟨_, _, ?_, HTL.out, hc1, hcm1⟩, HB.out⟩
        rw [leb.sizeOf, if_neg hs0]
        rfl
end Go.Proofs.YtghcecngdhcjpaaDoor.dr
