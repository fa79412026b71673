/- The place and the size of a copy, read: contracts of decodeOffset and decodeSize. -/
import Derived.Test.YtghcecngdhcjpaaDoorLeb
namespace Go.Proofs.YtghcecngdhcjpaaDoor.leb
open Go.RowKit Go.Proofs.YtghcecngdhcjpaaDoorW.PrintWords Go.Proofs.YtghcecngdhcjpaaDoorW.PrintLast Go.Proofs.YtghcecngdhcjpaaDoorW.PrintMore
set_option linter.unusedVariables false
set_option maxHeartbeats 1000000
set_option maxRecDepth 100000
/-- The bytes that a code asks for, one by one. -/
def fields : List Nat → Nat → Nat → Nat → List Int → Option (Nat × List Int)
  | [], _, _, acc, xs => some (acc, xs)
  | m :: r, s, cmd, acc, xs =>
    if cmd &&& m = 0 then fields r (s + 8) cmd acc xs
    else match xs with
      | [] => none
      | x :: t => fields r (s + 8) cmd (acc + x.toNat * 2 ^ s) t
theorem fields_cons (m : Nat) (r : List Nat) (s cmd acc : Nat) (xs : List Int) : fields (m :: r) s cmd acc xs = if cmd &&& m = 0 then fields r (s + 8) cmd acc xs
    else match xs with
      | [] => none
      | x :: t => fields r (s + 8) cmd (acc + x.toNat * 2 ^ s) t := by
  cases xs <;> rfl
/-- A table of masks and shifts: behind an address, n rows of two cells. -/
def Tab (w : World) (a : Addr) (ms : List Nat) : Prop := ∀ (k m : Nat), ms[k]? = some m → w.cell? (a.add (k * 2)) = some (.int .u8 m) ∧ w.cell? ⟨(a.add (k * 2)).block, (a.add (k * 2)).off + 1, none⟩ = some (.int .u64 (8 * k : Nat))
/-- What a reading of fields answers. -/
def Answers (e0 : Value) (A : Option Addr) (xs : List Int) (r : Option (Nat × List Int)) (e : Ending) : Prop := match r with
  | some (v, rest) => ∃ A' c', e = .returned (.tuple #[.int .u64 v, .slice A' rest.length c', .nilIface]) ∧ Tail A xs A' rest ∧ rest.length ≤ c' ∧ c' ≤ maxLen
  | none => e = .returned (.tuple #[.int .u64 0, .slice none 0 0, e0])
theorem bits_and_u8 (a b : Nat) (ha : a < 256) (hb : b < 256) : bits .and .u8 (a : Int) (b : Int) = ((a &&& b : Nat) : Int) := (bits_nat .u8 8 (by decide) wraps_u8 a b ha hb).1
theorem cellA {w wr : World} {a : Addr} {v : Value} (h : w.cell? a = some v) (hb : Below w.heap.size w wr) : ∀ o, (wr.alloc o).cell? a = some v := fun o => ((below_alloc hb o).cell (World.block_lt_of_cell? w _ h)).trans h
theorem field_lt (acc y k : Nat) (ha : acc < 2 ^ (8 * k)) (hy : y < 256) : acc + y * 2 ^ (8 * k) < 2 ^ (8 * (k + 1)) := by
  have e : (2 : Nat) ^ (8 * (k + 1)) = 256 * 2 ^ (8 * k) := by rw [Nat.mul_add, Nat.pow_add, Nat.mul_comm]
  have : y * 2 ^ (8 * k) ≤ 255 * 2 ^ (8 * k) := Nat.mul_le_mul_right _ (by omega)
  omega
theorem field_or (acc y k : Nat) (ha : acc < 2 ^ (8 * k)) (hy : y < 256) (hk : k ≤ 3) :
    bits .or .u64 (acc : Int) (IntKind.u64.wrap (IntKind.u64.wrap (y : Int) * 2 ^ (8 * k))) = ((acc + y * 2 ^ (8 * k) : Nat) : Int) := by
  have h1 := field_lt acc y k ha hy
  have h2 : (2 : Nat) ^ (8 * (k + 1)) ≤ 2 ^ 32 := Nat.pow_le_pow_right (by decide) (by omega)
  have h3 : (y : Int) * 2 ^ (8 * k) = ((y * 2 ^ (8 * k) : Nat) : Int) := by push_cast; rfl
  rw [wrap64u y (by omega), h3, wrap64u _ (by omega), bits_or_u64_nat _ _ (by omega) (by omega)]
  congr 1
  rw [Nat.or_comm, Nat.mul_comm, ← Nat.two_pow_add_eq_or_of_lt ha, Nat.add_comm]
theorem tail_C {w : World} {ad : Addr} {x : Int} {t : List Int} {c : Nat} (h : Kd.C (Kd.int .u8) w (some ad) (x :: t).length (x :: t)) (hc : (x :: t).length ≤ c) :
    Kd.C (Kd.int .u8) w (if c = 1 then some ad else some { block := ad.block, off := ad.off + 1 }) t.length t := by
  have := Kd.C_drop (m := 1) h (by simp) hc
  simpa [Addr.add, Kd.int, Kd.scalar] using this
theorem mask_lt {k m : Nat} (h : [1, 2, 4, 8][k]? = some m) : m < 256 := by
  have := List.mem_of_getElem? h
  simp at this; omega
theorem drop_cons {l : List Nat} {k m : Nat} (h : l[k]? = some m) : l.drop k = m :: l.drop (k + 1) := by
  obtain ⟨hk, rfl⟩ := List.getElem?_eq_some_iff.1 h
  exact List.drop_eq_getElem_cons hk
theorem offset_any (cmd : Nat) (A : Option Addr) (c : Nat) (xs : List Int) (w : World) (ao : Addr) (co : Nat) (e0 : Value) (hr : Kd.C (Kd.int .u8) w A xs.length xs) (hc : xs.length ≤ c) (hcm : c ≤ maxLen)
    (hb : ∀ x ∈ xs, 0 ≤ x ∧ x < 256) (hcmd : cmd < 256) (he : w.cell? ⟨1, 0, none⟩ = some e0)
    (ho : w.cell? ⟨10, 0, none⟩ = some (.slice (some ao) 4 co)) (ht : Tab w ao [1, 2, 4, 8]) :
    Calls Tryd.prog 68 #[.int .u8 cmd, .slice A xs.length c] w fun e w' => Answers e0 A xs (fields [1, 2, 4, 8] 0 cmd 0 xs) e ∧ Below w.heap.size w w' := by
  obtain ⟨r, hres⟩ : ∃ r, fields [1, 2, 4, 8] 0 cmd 0 xs = r := ⟨_, rfl⟩
  rw [hres]
  have HX := Aside0.mk hres
  have HR := Aside0.mk hr
  have HD := Aside0.mk hb
  have HT := Aside0.mk ht
  clear hres hr hb ht
  go_enter Tryd.func68, Tryd.ntmps68
  go_wp2
  go_loopw [1, 7, 12] (fun d n i wr => ∃ (k : Nat) (A1 : Option Addr) (c1 : Nat) (ys : List Int) (acc : Nat), k ≤ 4 ∧ d = .slice A1 ys.length c1 ∧ n = .int .u64 acc ∧ i = .int .i64 k ∧ ys.length ≤ c1 ∧ c1 ≤ maxLen ∧ Aside0 (acc < 2 ^ (8 * k)) ∧
    Aside0 (fields ([1, 2, 4, 8].drop k) (8 * k) cmd acc ys = r) ∧ Aside0 (Tail A xs A1 ys) ∧ Aside0 (∀ x ∈ ys, 0 ≤ x ∧ x < 256) ∧ Aside0 (Below w.heap.size w wr)) (fun _ _ i _ => 4 - (intOf i).toNat)
  case atStart => exact ⟨0, A, c, xs, 0, by omega, rfl, rfl, rfl, hc, hcm, ⟨by simp⟩, HX, ⟨fun _ h => h⟩, HD, ⟨Below.refl _ _⟩⟩
  case round =>
    obtain ⟨k, A1, c1, ys, acc, hk, rfl, rfl, rfl, hc1, hcm1, HA, HF, HTL, HY, HB⟩ := hrel
    have HC := Aside0.mk (HTL.out w HR.out)
    by_cases h4 : k < 4
    · obtain ⟨m, hm⟩ : ∃ m, [1, 2, 4, 8][k]? = some m := ⟨_, List.getElem?_eq_getElem (by simpa using h4)⟩
      obtain ⟨t0, t1⟩ := HT.out k m hm
      have e0' := (HB.out.cell (World.block_lt_of_cell? w _ t0)).trans t0
      have e1' := (HB.out.cell (World.block_lt_of_cell? w _ t1)).trans t1
      have hm8 : m < 256 := mask_lt hm
      have hand : bits .and .u8 (cmd : Int) (m : Int) = ((cmd &&& m : Nat) : Int) := bits_and_u8 cmd m hcmd hm8
      obtain ⟨q, hq⟩ : ∃ q, cmd &&& m = q := ⟨_, rfl⟩
      rw [hq] at hand
      have HQ := Aside0.mk hq
      have HMM := Aside0.mk hm
      have hF := HF.out
      rw [drop_cons hm, fields_cons, hq] at hF
      clear hq hm HF
      by_cases hq0 : q = 0
      · rw [if_pos hq0] at hF
        have HF' := Aside0.mk hF
        clear hF
        subst hq0
        go_wp2
        go_roundw
        case rel => exact ⟨k + 1, A1, c1, ys, acc, by omega, rfl, rfl, by simp, hc1, hcm1, ⟨Nat.lt_of_lt_of_le HA.out (Nat.pow_le_pow_right (by decide) (by omega))⟩, by rw [Nat.mul_add, Nat.mul_one]; exact HF', HTL, HY, ⟨below_alloc HB.out _⟩⟩
        case measure => simp [intOf]; omega
      · rw [if_neg hq0] at hF
        cases ys with
        | nil =>
          obtain rfl : none = r := hF
          have heA := cellA he HB.out
          go_wp2
          go_quiet (fail)
          all_goals go_wp2
          all_goals go_ret3
          all_goals exact ⟨rfl, pw_below_drewN (below_alloc HB.out _) _⟩
        | cons x t =>
          have HF' := Aside0.mk hF
          clear hF
          obtain ⟨ad, e, hx0⟩ := byte_at HC.out 0 (by simp) (x := x) rfl
          cases e
          rw [Addr.add_zero'] at hx0
          have hxA := cellA hx0 HB.out
          go_wp2
          go_quiet (fail)
          all_goals go_wp2
          all_goals go_roundw
          case rel =>
            obtain ⟨hx1, hx2⟩ := HY.out x (by simp)
            obtain ⟨y, rfl⟩ := Int.eq_ofNat_of_zero_le hx1
            have hC := fun w1 h1 => tail_C (HTL.out w1 h1) hc1
            refine ⟨k + 1, _, c1 - 1, t, acc + y * 2 ^ (8 * k), by omega, rfl, by rw [field_or acc y k HA.out (by omega) (by omega)], by simp, by simp at hc1; omega, by omega, ⟨field_lt acc y k HA.out (by omega)⟩, ?_, ⟨hC⟩, ⟨fun z hz => HY.out z (by simp [hz])⟩, ⟨pw_below_drewN (below_alloc HB.out _) _⟩⟩
            rw [Nat.mul_add, Nat.mul_one]
            exact HF'
          case measure => simp [intOf]; omega
    · obtain rfl : k = 4 := by omega
      obtain rfl : some (acc, ys) = r := HF.out
      go_wp2
      go_ret3
      exact ⟨⟨_, _, rfl, HTL.out, hc1, hcm1⟩, HB.out⟩
theorem mask_lt3 {k m : Nat} (h : [16, 32, 64][k]? = some m) : m < 256 := by
  have := List.mem_of_getElem? h
  simp at this; omega
theorem size_any (cmd : Nat) (A : Option Addr) (c : Nat) (xs : List Int) (w : World) (ao : Addr) (co : Nat) (e0 : Value) (hr : Kd.C (Kd.int .u8) w A xs.length xs) (hc : xs.length ≤ c) (hcm : c ≤ maxLen)
    (hb : ∀ x ∈ xs, 0 ≤ x ∧ x < 256) (hcmd : cmd < 256) (he : w.cell? ⟨1, 0, none⟩ = some e0)
    (ho : w.cell? ⟨11, 0, none⟩ = some (.slice (some ao) 3 co)) (ht : Tab w ao [16, 32, 64]) :
    Calls Tryd.prog 69 #[.int .u8 cmd, .slice A xs.length c] w fun e w' => Answers e0 A xs ((fields [16, 32, 64] 0 cmd 0 xs).map fun p => (if p.1 = 0 then 65536 else p.1, p.2)) e ∧ Below w.heap.size w w' := by
  obtain ⟨r, hres⟩ : ∃ r, fields [16, 32, 64] 0 cmd 0 xs = r := ⟨_, rfl⟩
  rw [hres]
  have HX := Aside0.mk hres
  have HR := Aside0.mk hr
  have HD := Aside0.mk hb
  have HT := Aside0.mk ht
  clear hres hr hb ht
  go_enter Tryd.func69, Tryd.ntmps69
  go_wp2
  go_loopw [1, 7, 12] (fun d n i wr => ∃ (k : Nat) (A1 : Option Addr) (c1 : Nat) (ys : List Int) (acc : Nat), k ≤ 3 ∧ d = .slice A1 ys.length c1 ∧ n = .int .u64 acc ∧ i = .int .i64 k ∧ ys.length ≤ c1 ∧ c1 ≤ maxLen ∧ Aside0 (acc < 2 ^ (8 * k)) ∧
    Aside0 (fields ([16, 32, 64].drop k) (8 * k) cmd acc ys = r) ∧ Aside0 (Tail A xs A1 ys) ∧ Aside0 (∀ x ∈ ys, 0 ≤ x ∧ x < 256) ∧ Aside0 (Below w.heap.size w wr)) (fun _ _ i _ => 3 - (intOf i).toNat)
  case atStart => exact ⟨0, A, c, xs, 0, by omega, rfl, rfl, rfl, hc, hcm, ⟨by simp⟩, HX, ⟨fun _ h => h⟩, HD, ⟨Below.refl _ _⟩⟩
  case round =>
    obtain ⟨k, A1, c1, ys, acc, hk, rfl, rfl, rfl, hc1, hcm1, HA, HF, HTL, HY, HB⟩ := hrel
    have HC := Aside0.mk (HTL.out w HR.out)
    by_cases h4 : k < 3
    · obtain ⟨m, hm⟩ : ∃ m, [16, 32, 64][k]? = some m := ⟨_, List.getElem?_eq_getElem (by simpa using h4)⟩
      obtain ⟨t0, t1⟩ := HT.out k m hm
      have e0' := (HB.out.cell (World.block_lt_of_cell? w _ t0)).trans t0
      have e1' := (HB.out.cell (World.block_lt_of_cell? w _ t1)).trans t1
      have hm8 : m < 256 := mask_lt3 hm
      have hand : bits .and .u8 (cmd : Int) (m : Int) = ((cmd &&& m : Nat) : Int) := bits_and_u8 cmd m hcmd hm8
      obtain ⟨q, hq⟩ : ∃ q, cmd &&& m = q := ⟨_, rfl⟩
      rw [hq] at hand
      have HQ := Aside0.mk hq
      have HMM := Aside0.mk hm
      have hF := HF.out
      rw [drop_cons hm, fields_cons, hq] at hF
      clear hq hm HF
      by_cases hq0 : q = 0
      · rw [if_pos hq0] at hF
        have HF' := Aside0.mk hF
        clear hF
        subst hq0
        go_wp2
        go_roundw
        case rel => exact ⟨k + 1, A1, c1, ys, acc, by omega, rfl, rfl, by simp, hc1, hcm1, ⟨Nat.lt_of_lt_of_le HA.out (Nat.pow_le_pow_right (by decide) (by omega))⟩, by rw [Nat.mul_add, Nat.mul_one]; exact HF', HTL, HY, ⟨below_alloc HB.out _⟩⟩
        case measure => simp [intOf]; omega
      · rw [if_neg hq0] at hF
        cases ys with
        | nil =>
          obtain rfl : none = r := hF
          have heA := cellA he HB.out
          go_wp2
          go_quiet (fail)
          all_goals go_wp2
          all_goals go_ret3
          all_goals exact ⟨rfl, pw_below_drewN (below_alloc HB.out _) _⟩
        | cons x t =>
          have HF' := Aside0.mk hF
          clear hF
          obtain ⟨ad, e, hx0⟩ := byte_at HC.out 0 (by simp) (x := x) rfl
          cases e
          rw [Addr.add_zero'] at hx0
          have hxA := cellA hx0 HB.out
          go_wp2
          go_quiet (fail)
          all_goals go_wp2
          all_goals go_roundw
          case rel =>
            obtain ⟨hx1, hx2⟩ := HY.out x (by simp)
            obtain ⟨y, rfl⟩ := Int.eq_ofNat_of_zero_le hx1
            have hC := fun w1 h1 => tail_C (HTL.out w1 h1) hc1
            refine ⟨k + 1, _, c1 - 1, t, acc + y * 2 ^ (8 * k), by omega, rfl, by rw [field_or acc y k HA.out (by omega) (by omega)], by simp, by simp at hc1; omega, by omega, ⟨field_lt acc y k HA.out (by omega)⟩, ?_, ⟨hC⟩, ⟨fun z hz => HY.out z (by simp [hz])⟩, ⟨pw_below_drewN (below_alloc HB.out _) _⟩⟩
            rw [Nat.mul_add, Nat.mul_one]
            exact HF'
          case measure => simp [intOf]; omega
    · obtain rfl : k = 3 := by omega
      obtain rfl : some (acc, ys) = r := HF.out
      by_cases ha0 : acc = 0
      · subst ha0
        go_wp2
        go_ret3
        exact ⟨⟨_, _, rfl, HTL.out, hc1, hcm1⟩, HB.out⟩
      · go_wp2
        go_ret3
        refine ⟨⟨_, _, ?_, HTL.out, hc1, hcm1⟩, HB.out⟩
        show Ending.returned (.tuple #[.int .u64 (acc : Nat), _, _]) = .returned (.tuple #[.int .u64 ((if acc = 0 then 65536 else acc : Nat) : Int), _, _])
        rw [if_neg ha0]
        rfl
end Go.Proofs.YtghcecngdhcjpaaDoor.leb
