/- Packet lines: spec.Line, spec.PacketLines. -/
import Derived.Test.YtdobblddnfalcaaGreatDoorPktG
import Derived.Test.YtdobblddnfalcaaGreatDoorMFnProtoHavesx3
import Derived.Laws.Bits64b
namespace Go.Proofs.YtdobblddnfalcaaGreatDoor.pkt
open Go.RowKit Go.Proofs.YtdobblddnfalcaaGreatDoorW.PrintWords Go.Proofs.YtdobblddnfalcaaGreatDoorW.PrintLast Go.Proofs.YtdobblddnfalcaaGreatDoorW.PrintMore Go.Proofs.YtdobblddnfalcaaGreatDoor.PFnProtoHaves
set_option linter.unusedVariables false
set_option linter.unusedSimpArgs false
set_option maxHeartbeats 2000000
set_option maxRecDepth 100000
theorem and15 (n : Int) (h0 : 0 ≤ n) (h1 : n < 65536) : Go.bits .and .i64 n 15 = n % 16 := by
  obtain ⟨a, rfl⟩ := Int.eq_ofNat_of_zero_le h0
  have h2 : (BitVec.ofInt 64 (a : Int)).toNat = a := by
    rw [BitVec.ofInt_natCast, BitVec.toNat_ofNat]; exact Nat.mod_eq_of_lt (by omega)
  have h3 : (BitVec.ofInt 64 (15 : Int)).toNat = 15 := by rfl
  show IntKind.i64.wrap ((BitVec.ofInt 64 (a : Int) &&& BitVec.ofInt 64 (15 : Int)).toNat : Int) = _
  rw [BitVec.toNat_and, h2, h3, show a &&& 15 = a % 16 from Nat.and_two_pow_sub_one_eq_mod a 4]
  simp [IntKind.wrap, IntKind.bits, IntKind.signed]
  omega
theorem bt_digit (d : Int) (h0 : 0 ≤ d) (h1 : d < 16) : bt (⟨#[48, 49, 50, 51, 52, 53, 54, 55, 56, 57, 97, 98, 99, 100, 101, 102]⟩ : ByteArray) d = digit d := by
  obtain ⟨a, rfl⟩ := Int.eq_ofNat_of_zero_le h0
  have h : ∀ a : Fin 16, bt (⟨#[48, 49, 50, 51, 52, 53, 54, 55, 56, 57, 97, 98, 99, 100, 101, 102]⟩ : ByteArray) ((a.val : Nat) : Int) = digit ((a.val : Nat) : Int) := by decide +kernel
  exact h ⟨a, by omega⟩
theorem hex_step (n : Int) (h0 : 0 ≤ n) (h1 : n < 65536) (k : Nat) (xs : List Int) (x : Nat) (hx : x ≤ 12) (hl : xs.length < 100) : spec_Hex4.l0 (k + 1) n xs (x : Int) = spec_Hex4.l0 k n (xs ++ [digit (n / 2 ^ x % 16)]) ((x : Int) - 4) := by
  have hs : shr .i64 n (x : Int) = n / 2 ^ x := by
    unfold shr
    rw [Int.toNat_natCast, show min x IntKind.i64.bits = x from Nat.min_eq_left (by show x ≤ 64; omega)]
  have hd0 : 0 ≤ n / 2 ^ x := Int.ediv_nonneg h0 (Int.le_of_lt (Int.pow_pos (by decide)))
  have hd1 : n / 2 ^ x < 65536 := Int.lt_of_le_of_lt (Int.ediv_le_self _ h0) h1
  have ha : Go.bits .and .i64 (shr .i64 n (x : Int)) 15 = n / 2 ^ x % 16 := by rw [hs]; exact and15 _ hd0 hd1
  rw [spec_Hex4.l0, if_pos (by omega), if_pos (by omega), ha, if_pos (by omega), if_pos (by omega), if_pos (by omega), bt_digit _ (by omega) (by omega), w64 (by omega) (by omega)]
theorem hex_law (n : Int) (h0 : 0 ≤ n) (h1 : n < 65536) : spec_Hex4.f 5 n = some (hexs n) := by
  unfold spec_Hex4.f
  have e1 := hex_step n h0 h1 4 [] 12 (by omega) (by simp)
  have e2 := hex_step n h0 h1 3 ([] ++ [digit (n / 2 ^ 12 % 16)]) 8 (by omega) (by simp)
  have e3 := hex_step n h0 h1 2 (([] ++ [digit (n / 2 ^ 12 % 16)]) ++ [digit (n / 2 ^ 8 % 16)]) 4 (by omega) (by simp)
  have e4 := hex_step n h0 h1 1 ((([] ++ [digit (n / 2 ^ 12 % 16)]) ++ [digit (n / 2 ^ 8 % 16)]) ++ [digit (n / 2 ^ 4 % 16)]) 0 (by omega) (by simp)
  refine (e1.trans (e2.trans (e3.trans e4))).trans ?_
  rw [spec_Hex4.l0, if_neg (by omega)]
  show some [digit (n / 4096 % 16), digit (n / 256 % 16), digit (n / 16 % 16), digit (n / 1 % 16)] = _
  rw [Int.ediv_one]
  rfl
theorem lit0_cells (w : World) (k : Nat × Nat) : (Kd.int .u8).C (w.alloc (.cells #[.int .u8 48, .int .u8 48, .int .u8 48, .int .u8 48] 5 k)) (some ⟨w.heap.size, 0, none⟩) ([48, 48, 48, 48] : List Int).length [48, 48, 48, 48] := by
  refine ⟨rfl, by decide, fun _ => ⟨_, rfl, fun j p hp => ⟨[.int .u8 p], rfl, rfl, fun m u hu => ?_⟩⟩⟩
  rw [Addr.add_mid]
  match m, hu with
  | 0, hu =>
    cases hu
    match j, hp with
    | 0, hp => cases hp; exact World.cell?_alloc_mark w _ _ _ 0
    | 1, hp => cases hp; exact World.cell?_alloc_mark w _ _ _ 1
    | 2, hp => cases hp; exact World.cell?_alloc_mark w _ _ _ 2
    | 3, hp => cases hp; exact World.cell?_alloc_mark w _ _ _ 3
theorem line_any (w : World) (A : Option Addr) (c : Nat) (p : List Int) (hC : (Kd.int .u8).C w A p.length p) (hc : p.length ≤ c) (hl : p.length ≤ 65516) :
    Calls Tryz.prog 38 #[.slice A p.length c] w fun e w' => ∃ A' c', e = .returned (.slice A' (pline p).length c') ∧ (pline p).length ≤ c' ∧ (Kd.int .u8).C w' A' (pline p).length (pline p) ∧ Below w.heap.size w w' := by
  by_cases hp : p = []
  · subst hp
    have hcv := Joins.run_convert_bytes_const_at (P := Tryz.prog) w 32 5 #[.int .u8 48, .int .u8 48, .int .u8 48, .int .u8 48] 4 4 w.heap.size rfl Tryz.underlying32 Tryz.underlying5
    have HC := Aside0.mk (lit0_cells w (4, 5))
    have HB := Aside0.mk ((Below.refl w.heap.size w).alloc (Nat.le_refl _) (.cells #[.int .u8 48, .int .u8 48, .int .u8 48, .int .u8 48] 5 (4, 5)))
    obtain ⟨W1, hW1⟩ : ∃ W1, w.alloc (.cells #[.int .u8 48, .int .u8 48, .int .u8 48, .int .u8 48] 5 (4, 5)) = W1 := ⟨_, rfl⟩
    rw [hW1] at HC HB
    have hcv2 := hcv.trans (congrArg (Result.ok (Value.slice (some ⟨w.heap.size, 0, none⟩) 4 4)) hW1)
    clear hcv hW1 hC
    go_enter Tryz.func38, Tryz.ntmps38
    go_wp2_with fail
    go_ret
    exact ⟨_, 4, rfl, Nat.le_refl _, HC.out, HB.out⟩
  · have hp0 : 0 < p.length := by
      cases p with
      | nil => exact absurd rfl hp
      | cons a r => simp
    have hpl : pline p = hexs ((p.length : Int) + 4) ++ p := by unfold pline; rw [if_neg hp]
    rw [hpl]
    have HH := fun W : World => spec_Hex4.calls 5 ((p.length : Int) + 4) _ W (hex_law _ (by omega) (by omega))
    have HC := Aside0.mk hC
    have c0 : ((p.length : Int) == 0) = false := by rw [beq_eq_false_iff_ne]; omega
    have c1 : (p.length == 0) = false := by rw [beq_eq_false_iff_ne]; omega
    have w1 : wrap64 ((p.length : Int) + 4) = (p.length : Int) + 4 := w64 (by omega) (by omega)
    have HQ := Aside0.mk hpl
    obtain ⟨hx, hhx⟩ : ∃ hx, hexs ((p.length : Int) + 4) = hx := ⟨_, rfl⟩
    have hx4 : hx.length = 4 := by rw [← hhx]; rfl
    rw [hhx]
    simp only [hhx] at HH
    clear hC hp hpl hhx
    go_enter Tryz.func38, Tryz.ntmps38
    go_wp2_with fail
    refine (HH _).mono ?_
    rintro e w2 ⟨v, rfl, hR, hb⟩
    have HR := Aside0.mk hR
    have HB := Aside0.mk hb
    clear HH hR hb
    go_wp2_with (first | ((with_reducible refine gate_builtin (b := .append) (xs := #[.tmp 11, .tmp 12]) rfl ?_); at_builtin; go_must (refine Kd.R_append_row (Value.int .u8) 0 (w0 := w) w.heap.size rfl (.tmp 11) (.tmp 12) 32 5 (.int .u8 0) 1 rfl Tryz.underlying32 info5 rfl (by decide) v hx p A p.length c (fun _ => True) rfl rfl (fun _ _ => trivial) HR.out (Kd.C_below HC.out HB.out) HB.out HB.out.size (by omega) ?_); intro v4 w4 hR4 hB4 _ _; go_must (obtain ⟨A4, c4, rfl, hl4, hC4⟩ := Kd.R_reads hR4)) | fail)
    go_ret
    exact ⟨A4, c4, by show Ending.returned (.slice A4 (4 + p.length) c4) = _; rw [List.length_append, hx4], hl4, hC4, hB4⟩
theorem plines_snoc (l : List (List Int)) (p : List Int) : plines (l ++ [p]) = plines l ++ pline p := by
  induction l with
  | nil => simp [plines]
  | cons a r ih => rw [List.cons_append, plines, plines, ih, List.append_assoc]
theorem pline_len (p : List Int) (h : p.length ≤ 65516) : (pline p).length ≤ 65520 := by
  unfold pline
  split
  · decide
  · rw [List.length_append]; show 4 + p.length ≤ _; omega
theorem plines_len (l : List (List Int)) (h : ∀ p ∈ l, p.length ≤ 65516) : (plines l).length ≤ 65520 * l.length := by
  induction l with
  | nil => simp [plines]
  | cons a r ih =>
    rw [plines, List.length_append, List.length_cons]
    have h1 := pline_len a (h a (by simp))
    have h2 := ih (fun p hp => h p (by simp [hp]))
    omega
end Go.Proofs.YtdobblddnfalcaaGreatDoor.pkt
