/- A mode told in base 8 and read again: filemode.zzOctal, strconv.ParseUint of digits in base 8, FnModeBoth. -/
import Derived.Test.YthlbcincajgieaaDoorPFnModeBothx0
import Derived.Laws.Runes
import Derived.Lib.AtoiErrMem
import Derived.WalkSpells
namespace Go.Proofs.YthlbcincajgieaaDoor.mode
open Go.RowKit Go.Proofs.YthlbcincajgieaaDoorW.PrintWords Go.Proofs.YthlbcincajgieaaDoorW.PrintLast Go.Proofs.YthlbcincajgieaaDoorW.PrintMore
set_option linter.unusedVariables false
set_option linter.unusedSimpArgs false
set_option maxHeartbeats 2000000
set_option maxRecDepth 100000
/-- What digits in base 8 say, behind a number. -/
def octV (a : Nat) (l : List UInt8) : Nat := l.foldl (fun a c => a * 8 + (c.toNat - 48)) a
theorem octV_nil (a : Nat) : octV a [] = a := by unfold octV; rw [List.foldl_nil]
theorem octV_cons (a : Nat) (c : UInt8) (r : List UInt8) : octV a (c :: r) = octV (a * 8 + (c.toNat - 48)) r := by unfold octV; rw [List.foldl_cons]
theorem octV_ge (l : List UInt8) : ∀ a : Nat, a ≤ octV a l := by
  induction l with
  | nil => exact fun a => Nat.le_refl a
  | cons c r ih =>
    intro a
    rw [octV_cons]
    have := ih (a * 8 + (c.toNat - 48))
    omega
theorem octV_add (l : List UInt8) : ∀ a : Nat, octV a l = a * 8 ^ l.length + octV 0 l := by
  induction l with
  | nil => intro a; rw [octV_nil, octV_nil, List.length_nil, Nat.pow_zero]; omega
  | cons c r ih =>
    intro a
    rw [octV_cons, octV_cons, ih (a * 8 + (c.toNat - 48)), ih (0 * 8 + (c.toNat - 48)), List.length_cons, Nat.pow_succ, Nat.add_mul, Nat.zero_mul, Nat.zero_add, Nat.add_assoc, Nat.mul_assoc, Nat.mul_comm 8 (8 ^ r.length)]
/-- Digits in base 8. -/
def Oct (l : List UInt8) : Prop := ∀ c ∈ l, 48 ≤ c.toNat ∧ c.toNat ≤ 55
theorem encode_digit (d : Nat) (hd : d < 8) : Utf8.encode ((48 : Int) + (d : Int)) = ⟨#[UInt8.ofNat (48 + d)]⟩ := by
  match d, hd with
  | 0, _ => rfl
  | 1, _ => rfl
  | 2, _ => rfl
  | 3, _ => rfl
  | 4, _ => rfl
  | 5, _ => rfl
  | 6, _ => rfl
  | 7, _ => rfl
theorem size_list (s : ByteArray) : s.data.toList.length = s.size := Array.length_toList
def OctPost (w : World) (x : Nat) (e : Ending) (w' : World) : Prop := ∃ t : ByteArray, e = .returned (.string t) ∧ w = w' ∧ Oct t.data.toList ∧ 7 ≤ t.size ∧ t.size ≤ 11 ∧ octV 0 t.data.toList = x
theorem octal_any (x : Nat) (hx : x < 4294967296) (w : World) : Calls Tryd.prog 39 #[.int .u32 (x : Int)] w (OctPost w x) := by
  go_enter Tryd.func39, Tryd.ntmps39
  go_wp2_with fail
  go_loopg [0, 3] 12 (fun kq v0 v3 w' => ∃ (y : Nat) (t : ByteArray), v0 = .int .u32 (y : Int) ∧ v3 = .string t ∧ Aside0 (kq + t.size = 12) ∧ Aside0 (t.size ≤ 11) ∧ Aside0 (x = y * 8 ^ t.size + octV 0 t.data.toList) ∧ Aside0 (Oct t.data.toList) ∧ y < 4294967296 ∧ Aside0 (w = w'))
  case atStart => exact ⟨x, ⟨#[]⟩, rfl, rfl, ⟨rfl⟩, ⟨by decide⟩, ⟨by show x = x * 1 + 0; omega⟩, ⟨fun c hc => by cases hc⟩, hx, ⟨rfl⟩⟩
  case round =>
    obtain ⟨y, t, rfl, rfl, HK, HT, HX, HO, hy, HW⟩ := hrel
    obtain rfl := HW.out
    have ht := HT.out
    by_cases hgo : 0 < y ∨ t.size < 7
    · have h11 : t.size < 11 := by
        rcases hgo with h | h
        · by_cases h11 : t.size = 11
          · exfalso
            have h1 := HX.out
            rw [h11] at h1
            have h2 : y * 8 ^ 11 = y * 8589934592 := rfl
            rw [h2] at h1
            omega
          · omega
        · omega
      have y0 : (0 : Int) ≤ (y : Int) := by omega
      obtain ⟨r, hr⟩ : ∃ r, y % 8 = r := ⟨_, rfl⟩
      obtain ⟨q, hq⟩ : ∃ q, y / 8 = q := ⟨_, rfl⟩
      have hr8 : r < 8 := by omega
      have hyq : y = q * 8 + r := by omega
      have HYQ := Aside0.mk hyq
      have em : (y : Int) % 8 = (r : Int) := by omega
      have eq : (y : Int) / 8 = (q : Int) := by omega
      have m0 : (0 : Int) ≤ (r : Int) := by omega
      have m1 : (r : Int) < 8 := by omega
      have hq2 : q < 4294967296 := by omega
      obtain ⟨b, hb⟩ : ∃ b : UInt8, UInt8.ofNat (48 + r) = b := ⟨_, rfl⟩
      have hen := encode_digit r hr8
      have hu : b.toNat = 48 + r := by
        rw [← hb, UInt8.toNat_ofNat']; omega
      rw [hb] at hen
      clear hb
      clear hr hq hyq
      have hz : ((⟨#[b]⟩ : ByteArray) ++ t).size = t.size + 1 := by rw [ByteArray.size_append]; show 1 + _ = _; omega
      have HZ := Aside0.mk hz
      have HL := Aside0.mk (show ((⟨#[b]⟩ : ByteArray) ++ t).data.toList = b :: t.data.toList from by rw [ByteArray.data_append, Array.toList_append]; rfl)
      have HU := Aside0.mk hu
      clear hz hu
      cases gk with
      | zero => exact absurd HK.out (by omega)
      | succ k1 =>
        rcases hgo with hp | hp
        · have c0 : decide ((0 : Int) < (y : Int)) = true := decide_eq_true (by omega)
          have c1 : decide (0 < y) = true := decide_eq_true hp
          go_wp2_with fail
          go_roundg k1
          case measure => omega
          case rel => exact ⟨q, _, by first | rfl | (simp [eq]; done), rfl, ⟨by rw [HZ.out]; have := HK.out; omega⟩, ⟨by rw [HZ.out]; omega⟩, ⟨by
            rw [HZ.out, HL.out, octV_cons, HU.out, octV_add, size_list, HX.out, Nat.pow_succ]
            have h1 : 0 * 8 + (48 + r - 48) = r := by omega
            rw [h1, Nat.mul_comm (8 ^ t.size) 8, ← Nat.mul_assoc, ← Nat.add_assoc, ← Nat.add_mul, ← HYQ.out]⟩, ⟨by
            intro c hc
            rw [HL.out] at hc
            rcases List.mem_cons.1 hc with rfl | hc
            · rw [HU.out]; omega
            · exact HO.out c hc⟩, hq2, ⟨rfl⟩⟩
        · by_cases hp0 : 0 < y
          · have c0 : decide ((0 : Int) < (y : Int)) = true := decide_eq_true (by omega)
            have c1 : decide (0 < y) = true := decide_eq_true hp0
            go_wp2_with fail
            go_roundg k1
            case measure => omega
            case rel => exact ⟨q, _, by first | rfl | (simp [eq]; done), rfl, ⟨by rw [HZ.out]; have := HK.out; omega⟩, ⟨by rw [HZ.out]; omega⟩, ⟨by
              rw [HZ.out, HL.out, octV_cons, HU.out, octV_add, size_list, HX.out, Nat.pow_succ]
              have h1 : 0 * 8 + (48 + r - 48) = r := by omega
              rw [h1, Nat.mul_comm (8 ^ t.size) 8, ← Nat.mul_assoc, ← Nat.add_assoc, ← Nat.add_mul, ← HYQ.out]⟩, ⟨by
              intro c hc
              rw [HL.out] at hc
              rcases List.mem_cons.1 hc with rfl | hc
              · rw [HU.out]; omega
              · exact HO.out c hc⟩, hq2, ⟨rfl⟩⟩
          · have c0 : decide ((0 : Int) < (y : Int)) = false := decide_eq_false (by omega)
            have c1 : decide (0 < y) = false := decide_eq_false hp0
            have c2 : decide ((t.size : Int) < 7) = true := decide_eq_true (by omega)
            have c3 : decide (t.size < 7) = true := decide_eq_true hp
            go_wp2_with fail
            go_roundg k1
            case measure => omega
            case rel => exact ⟨q, _, by first | rfl | (simp [eq]; done), rfl, ⟨by rw [HZ.out]; have := HK.out; omega⟩, ⟨by rw [HZ.out]; omega⟩, ⟨by
              rw [HZ.out, HL.out, octV_cons, HU.out, octV_add, size_list, HX.out, Nat.pow_succ]
              have h1 : 0 * 8 + (48 + r - 48) = r := by omega
              rw [h1, Nat.mul_comm (8 ^ t.size) 8, ← Nat.mul_assoc, ← Nat.add_assoc, ← Nat.add_mul, ← HYQ.out]⟩, ⟨by
              intro c hc
              rw [HL.out] at hc
              rcases List.mem_cons.1 hc with rfl | hc
              · rw [HU.out]; omega
              · exact HO.out c hc⟩, hq2, ⟨rfl⟩⟩
    · have c0 : decide ((0 : Int) < (y : Int)) = false := decide_eq_false (by omega)
      have c1 : decide (0 < y) = false := decide_eq_false (by omega)
      have c2 : decide ((t.size : Int) < 7) = false := decide_eq_false (by omega)
      have c3 : decide (t.size < 7) = false := decide_eq_false (by omega)
      have HF := Aside0.mk (show octV 0 t.data.toList = x from by
        have h1 := HX.out
        have hy0 : y = 0 := by omega
        rw [hy0, Nat.zero_mul, Nat.zero_add] at h1
        exact h1.symm)
      have HS := Aside0.mk (show 7 ≤ t.size by omega)
      go_wp2_with fail
      go_ret
      exact ⟨t, rfl, rfl, HO.out, HS.out, HT.out, HF.out⟩
theorem inner_any (t : ByteArray) (w : World) (ho : Oct t.data.toList) (hne : 0 < t.size) (hmax : t.size ≤ 100) (hv : octV 0 t.data.toList ≤ 4294967295) :
    Calls Tryd.prog 58 #[.string t, .int .i64 8, .int .i64 32] w fun e w' => e = .returned (.tuple #[.int .u64 (octV 0 t.data.toList : Int), .nilIface]) ∧ Below w.heap.size w w' := by
  have hemp : t.toList.isEmpty = false := by
    rw [ByteArray.toList_eq, List.isEmpty_eq_false_iff]
    intro h
    rw [← size_list, h] at hne
    exact absurd hne (by decide)
  have hcv := Lib.run_convert_string_bytes (P := Tryd.prog) w 9 31 5 t (u := .string) Tryd.underlying9 Tryd.underlying31 Tryd.underlying5
  have hB : ∀ j, j < t.size → (Lib.bytesWorld w 5 t).cell? ⟨w.heap.size, j, none⟩ = some (.int .u8 (t.data.toList.getD j 0).toNat) := fun j hj => Lib.bytesWorld_cell w 5 t j hj
  have hbw := Lib.bytesWorld_below w 5 t
  obtain ⟨W1, hW1⟩ : ∃ W1, Lib.bytesWorld w 5 t = W1 := ⟨_, rfl⟩
  rw [hW1] at hcv hB hbw
  have HB := Aside0.mk hB
  have HBW := Aside0.mk hbw
  obtain ⟨bs, hL⟩ : ∃ bs, t.data.toList = bs := ⟨_, rfl⟩
  have hLn : t.size = bs.length := by rw [← hL, size_list]
  have HLN := Aside0.mk hLn
  rw [hL] at ho hv ⊢
  have HB2 := Aside0.mk (show ∀ j (h : j < bs.length), W1.cell? ⟨w.heap.size, j, none⟩ = some (.int .u8 (bs[j].toNat : Int)) from fun j hj => by
    rw [HB.out j (by omega), hL]
    simp [List.getD, List.getElem?_eq_getElem hj])
  have HO := Aside0.mk ho
  have HV := Aside0.mk hv
  have hmv : IntKind.u64.wrap (IntKind.u64.wrap 4294967296 - 1) = 4294967295 := by
    rw [IntKind.wrap_u64, IntKind.wrap_u64]
    decide
  obtain ⟨V, hV⟩ : ∃ V, octV 0 bs = V := ⟨_, rfl⟩
  rw [hV]
  have HVV := Aside0.mk hV
  have VB := Aside0.mk (show V ≤ 4294967295 from by rw [← hV]; exact HV.out)
  clear hW1 hB hbw hL hLn ho hv hV HB
  go_enter Tryd.func58, Tryd.ntmps58
  go_wp2
  go_loopg [12, 13, 101] (t.size + 1) (fun kq v12 v13 v101 w' => ∃ (k acc : Nat) (a : Int), v12 = .bool false ∧ v13 = .int .u64 a ∧ v101 = .int .i64 (k : Int) ∧ k ≤ t.size ∧ Aside0 (kq + k = t.size + 1) ∧ Aside0 (octV acc (bs.drop k) = V) ∧ Aside0 (a = (acc : Int)) ∧ Aside0 (W1 = w'))
  case atStart => exact ⟨0, 0, 0, rfl, rfl, rfl, Nat.zero_le _, ⟨by omega⟩, ⟨by rw [List.drop_zero]; exact HVV.out⟩, ⟨rfl⟩, ⟨rfl⟩⟩
  case round =>
    clear HVV
    obtain ⟨k, acc, a, rfl, rfl, rfl, hk, HK, HA, HAC, HW⟩ := hrel
    obtain rfl := HW.out
    cases gk with
    | zero => exact absurd HK.out (by omega)
    | succ k1 =>
      by_cases hlt : k < t.size
      · have hkl : k < bs.length := by have := HLN.out; omega
        have hc := HB2.out k hkl
        have hdrop : bs.drop k = bs[k] :: bs.drop (k + 1) := List.drop_eq_getElem_cons hkl
        have hco := HO.out _ (List.getElem_mem hkl)
        have HA2 := HA.out
        rw [hdrop, octV_cons] at HA2
        have hle := octV_ge (bs.drop (k + 1)) (acc * 8 + (bs[k].toNat - 48))
        rw [HA2] at hle
        have hvv : octV 0 bs ≤ 4294967295 := HV.out
        generalize bs[k] = c at hc hco HA2 hle
        have hVb : V ≤ 4294967295 := VB.out
        have HA3 := Aside0.mk HA2
        obtain ⟨d, hd⟩ : ∃ d, c.toNat - 48 = d := ⟨_, rfl⟩
        obtain ⟨x, hx⟩ : ∃ x : Int, (d : Int) = x := ⟨_, rfl⟩
        have hcd : (c.toNat : Int) = 48 + x := by omega
        rw [hd] at hle HA3
        rw [hcd] at hc
        have hac := HAC.out
        have c0 : decide ((k : Int) < (t.size : Int)) = true := decide_eq_true (by omega)
        have c1 : decide (k < t.size) = true := decide_eq_true hlt
        have p1 : (0 : Int) ≤ (k : Int) := by omega
        have p2 : (k : Int) < (t.size : Int) := by omega
        have q1 : 0 ≤ a := by omega
        have q2 : a ≤ 536870911 := by omega
        have q3 : 0 ≤ x := by omega
        have q4 : x < 8 := by omega
        have q5 : a * 8 + x ≤ 4294967295 := by omega
        have HN := Aside0.mk (show a * 8 + x = ((acc * 8 + d : Nat) : Int) from by omega)
        clear hdrop hco HA2 hle HA hd hcd hvv hVb hx hac HAC
        go_wp2_with fail
        go_roundg k1
        case measure => omega
        case rel => exact ⟨k + 1, acc * 8 + d, a * 8 + x, rfl, by first | rfl | (congr 1; omega), by go_num, by omega, ⟨by have := HK.out; omega⟩, HA3, HN, ⟨rfl⟩⟩
      · have c0 : decide ((k : Int) < (t.size : Int)) = false := decide_eq_false (by omega)
        have c1 : decide (k < t.size) = false := decide_eq_false hlt
        have HF := Aside0.mk (show a = (V : Int) from HAC.out.trans (by
          congr 1
          have := HA.out; rwa [List.drop_of_length_le (by have := HLN.out; omega), octV_nil] at this))
        go_wp2
        go_ret2
        exact ⟨by rw [← HF.out]; first | rfl | (simp; done), HBW.out⟩
end Go.Proofs.YthlbcincajgieaaDoor.mode
