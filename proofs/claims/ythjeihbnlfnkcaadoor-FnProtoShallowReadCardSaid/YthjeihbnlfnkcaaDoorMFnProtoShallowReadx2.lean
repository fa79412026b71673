/- Contracts of functions of the specification, as a printer of the kit wrote them, some steps mended. -/
import Derived.Test.YthjeihbnlfnkcaaDoorPFnProtoShallowReadx0
import Derived.Test.YthjeihbnlfnkcaaDoorMFnProtoShallowReadx1
namespace Go.Proofs.YthjeihbnlfnkcaaDoor.PFnProtoShallowRead
open Go.RowKit Go.Proofs.YthjeihbnlfnkcaaDoorW.PrintWords Go.Proofs.YthjeihbnlfnkcaaDoorW.PrintLast Go.Proofs.YthjeihbnlfnkcaaDoorW.PrintMore
attribute [local go_sem] max2_int min2_int max_two min_two max_three min_three max_four min_four   -- for this text's walks alone
set_option linter.unusedVariables false
set_option linter.unusedSimpArgs false

/-! ### spec_GoodHashes: function 12 -/
def spec_GoodHashes.l0 : Nat → List ByteArray → List ByteArray → Int → Int → Option (Bool)
  | 0, _, _, _, _ => none
  | k + 1, x0, x5, x6, x7 => if x7 < x6 then (if 0 ≤ x7 then (if x7 < (x5.length : Int) then ((spec_GoodHash.f k (rdOf ByteArray.empty x5 x7)).bind fun t123 => (if t123 = true then (spec_GoodHashes.l0 k x0 x5 x6 (wrap64 (x7 + 1))) else (some false))) else (none)) else (none)) else ((spec_Rising.f k x0).bind fun t124 => (if t124 = true then (some (decide ((x0.length : Int) ≤ 1000))) else (some false)))
def spec_GoodHashes.f (k : Nat) (l0 : List ByteArray) : Option (Bool) := spec_GoodHashes.l0 k l0 l0 (l0.length : Int) 0
theorem spec_GoodHashes.mono_l : ∀ k, (∀ y0 y1 y2 y3, LeO (spec_GoodHashes.l0 k y0 y1 y2 y3) (spec_GoodHashes.l0 (k + 1) y0 y1 y2 y3))
  | 0 => fun _ _ _ _ r h => by simp [spec_GoodHashes.l0] at h
  | k + 1 => by
    have ih0 := spec_GoodHashes.mono_l k
    · intro y0 y1 y2 y3
      unfold spec_GoodHashes.l0
      repeat' first
      | (with_reducible exact ih0 _ _ _ _)
      | (with_reducible exact spec_GoodHash.mono _ _)
      | (with_reducible exact spec_Rising.mono _ _)
      | (with_reducible exact LeO.refl _)
      | (with_reducible exact LeO.none _)
      | (with_reducible refine LeO.ite ?_ ?_)
      | (with_reducible refine LeO.bind ?_ (fun _ => ?_))
      | exact ih0 _ _ _ _
      | exact spec_GoodHash.mono _ _
      | exact spec_Rising.mono _ _
      | exact LeO.none _
      | refine LeO.ite ?_ ?_
      | refine LeO.bind ?_ (fun _ => ?_)
theorem spec_GoodHashes.mono : ∀ a0 k, LeO (spec_GoodHashes.f k a0) (spec_GoodHashes.f (k + 1) a0) := by
  intro a0 k
  have ih0 := spec_GoodHashes.mono_l k
  unfold spec_GoodHashes.f
  repeat' first
      | (with_reducible exact ih0 _ _ _ _)
      | (with_reducible exact spec_GoodHash.mono _ _)
      | (with_reducible exact spec_Rising.mono _ _)
      | (with_reducible exact LeO.refl _)
      | (with_reducible exact LeO.none _)
      | (with_reducible refine LeO.ite ?_ ?_)
      | (with_reducible refine LeO.bind ?_ (fun _ => ?_))
      | exact ih0 _ _ _ _
      | exact spec_GoodHash.mono _ _
      | exact spec_Rising.mono _ _
      | exact LeO.none _
      | refine LeO.ite ?_ ?_
      | refine LeO.bind ?_ (fun _ => ?_)
set_option maxHeartbeats 8000000 in
set_option maxRecDepth 100000 in
theorem spec_GoodHashes.calls (k : Nat) (A0 : Option Addr) (c0 : Nat) (l0 : List ByteArray) (r : Bool) (w : World) (hr0 : Kd.C Kd.string w A0 l0.length l0) (hc0 : l0.length ≤ c0) (h : spec_GoodHashes.f k l0 = some r) :
    Calls Tryd.prog 12 #[.slice A0 l0.length c0] w fun e w' => e = .returned (.bool r) ∧ Drawn0 w w' := by
  have HR0 := Aside0.mk hr0
  have HC0 := Aside0.mk hc0
  clear hr0 hc0
  have H : (spec_GoodHashes.l0 k l0 l0 (l0.length : Int) 0) = some r := h
  clear h
  have H' := Aside0.mk H
  clear H
  go_enter Tryd.func12, Tryd.ntmps12
  go_wp2
  go_loopg [7] k (fun kq v7 w' => ∃ (x7_1 : Int), v7 = .int .i64 x7_1 ∧ Aside0 (spec_GoodHashes.l0 kq l0 l0 (l0.length : Int) x7_1 = some r) ∧ Aside0 (kq ≤ k) ∧ Drawn0 w w')
  case atStart => exact ⟨(0), (by first | rfl | (simp; done) | (simp [*]; done)), H', ⟨Nat.le_refl _⟩, by repeat (first | exact Drawn0.refl _ | apply Drawn0.step)⟩
  case round =>
    clear H'
    try clear c1
    obtain ⟨x7_1, rfl, HA, HK1, ⟨m1, rfl⟩⟩ := hrel
    cases gk with
    | zero => exact absurd HA.out (by simp [spec_GoodHashes.l0])
    | succ k1 =>
      have H := HA.out
      clear HA
      simp only [spec_GoodHashes.l0] at H
      by_cases c2 : x7_1 < (l0.length : Int)
      · rw [if_pos c2] at H
        have c2b0 : decide (x7_1 < (l0.length : Int)) = true := decide_eq_true c2
        clear c2
        by_cases c3 : 0 ≤ x7_1
        · rw [if_pos c3] at H
          have c3b0 : decide (0 ≤ x7_1) = true := decide_eq_true c3
          clear c3
          by_cases c4 : x7_1 < (l0.length : Int)
          · rw [if_pos c4] at H
            have c4b0 : decide (x7_1 < (l0.length : Int)) = true := decide_eq_true c4
            clear c4
            replace H := Option.bind_eq_some_iff.mp H
            obtain ⟨t123, A50, H⟩ := H
            replace H : (if t123 = true then (spec_GoodHashes.l0 k1 l0 l0 (l0.length : Int) (wrap64 (x7_1 + 1))) else (some false)) = some r := H
            have A5 := Aside0.mk A50
            clear A50
            by_cases c6 : t123 = true
            · subst c6
              have H1 : (spec_GoodHashes.l0 k1 l0 l0 (l0.length : Int) (wrap64 (x7_1 + 1))) = some r := by rw [if_pos rfl] at H; exact H
              clear H
              have H := H1
              clear H1
              have H' := Aside0.mk H
              clear H
              have p122 : 0 ≤ (x7_1 : Int) := of_decide_eq_true (by first | (with_reducible assumption) | assumption)
              have q122 : x7_1 < (l0.length : Int) := of_decide_eq_true (by first | (with_reducible assumption) | assumption)
              obtain ⟨ad122, e122, hx122_0⟩ := Kd.at_string HR0.out x7_1 p122 q122
              cases e122
              replace p122 := eq_true p122
              replace q122 := eq_true q122
              go_wp2_with (first | ((with_reducible refine gate_callee (f := 24) rfl ?_); refine goesL_ (some 12) rfl rfl Tryd.func24 (by kernel_rfl) rfl #[.string (rdOf ByteArray.empty l0 x7_1)] rfl (by (try simp only [List.map_toArray, List.map_cons, List.map_nil]); first | done | rfl | (simp only [List.length_drop, List.length_take]; rfl)) ?_; (with_reducible refine (spec_GoodHash.calls k1 (rdOf ByteArray.empty l0 x7_1) true _ A5.out).mono ?_); rintro e w' ⟨rfl, ⟨nd, rfl⟩⟩; refine ⟨_, rfl, ?_⟩))
              go_roundg k1
              case measure => have := HK1.out; omega
              case rel => exact ⟨(wrap64 (x7_1 + 1)), (by first | rfl | (simp; done) | (simp [*]; done)), H', ⟨by have := HK1.out; omega⟩, by repeat (first | exact Drawn0.refl _ | apply Drawn0.step)⟩
            · replace c6 := Bool.eq_false_iff.mpr c6
              subst c6
              have H1 : (some false) = some r := by rw [if_neg (show ¬ (false = true) by decide)] at H; exact H
              clear H
              have H := H1
              clear H1
              obtain rfl := Option.some.inj H
              have p122 : 0 ≤ (x7_1 : Int) := of_decide_eq_true (by first | (with_reducible assumption) | assumption)
              have q122 : x7_1 < (l0.length : Int) := of_decide_eq_true (by first | (with_reducible assumption) | assumption)
              obtain ⟨ad122, e122, hx122_0⟩ := Kd.at_string HR0.out x7_1 p122 q122
              cases e122
              replace p122 := eq_true p122
              replace q122 := eq_true q122
              go_wp2_with (first | ((with_reducible refine gate_callee (f := 24) rfl ?_); refine goesL_ (some 12) rfl rfl Tryd.func24 (by kernel_rfl) rfl #[.string (rdOf ByteArray.empty l0 x7_1)] rfl (by (try simp only [List.map_toArray, List.map_cons, List.map_nil]); first | done | rfl | (simp only [List.length_drop, List.length_take]; rfl)) ?_; (with_reducible refine (spec_GoodHash.calls k1 (rdOf ByteArray.empty l0 x7_1) false _ A5.out).mono ?_); rintro e w' ⟨rfl, ⟨nd, rfl⟩⟩; refine ⟨_, rfl, ?_⟩))
              go_ret
              exact ⟨by first | rfl | (simp; done) | (simp [*]; done), by repeat (first | exact Drawn0.refl _ | apply Drawn0.step)⟩
          · rw [if_neg c4] at H
            exact absurd H (by simp)
        · rw [if_neg c3] at H
          exact absurd H (by simp)
      · rw [if_neg c2] at H
        have c2b0 : decide (x7_1 < (l0.length : Int)) = false := decide_eq_false c2
        clear c2
        replace H := Option.bind_eq_some_iff.mp H
        obtain ⟨t124, A70, H⟩ := H
        replace H : (if t124 = true then (some (decide ((l0.length : Int) ≤ 1000))) else (some false)) = some r := H
        have A7 := Aside0.mk A70
        clear A70
        by_cases c8 : t124 = true
        · subst c8
          have H1 : (some (decide ((l0.length : Int) ≤ 1000))) = some r := by rw [if_pos rfl] at H; exact H
          clear H
          have H := H1
          clear H1
          obtain rfl := Option.some.inj H
          go_wp2_with (first | ((with_reducible refine gate_callee (f := 25) rfl ?_); refine goesL_ (some 16) rfl rfl Tryd.func25 (by kernel_rfl) rfl #[.slice A0 l0.length c0] rfl (by (try simp only [List.map_toArray, List.map_cons, List.map_nil]); first | done | rfl | (simp only [List.length_drop, List.length_take]; rfl)) ?_; (with_reducible refine (spec_Rising.calls k1 _ _ l0 true _ ?side1 ?side2 A7.out).mono ?_); (case side1 => repeat (first | exact HR0.out | (with_reducible refine Kd.C_alloc ?_ _) | (with_reducible refine Kd.C_drewN ?_ _) | (with_reducible refine Kd.C_drew ?_))); (case side2 => exact HC0.out); rintro e w' ⟨rfl, ⟨nd, rfl⟩⟩; refine ⟨_, rfl, ?_⟩))
          go_ret
          exact ⟨by first | rfl | (simp; done) | (simp [*]; done), by repeat (first | exact Drawn0.refl _ | apply Drawn0.step)⟩
        · replace c8 := Bool.eq_false_iff.mpr c8
          subst c8
          have H1 : (some false) = some r := by rw [if_neg (show ¬ (false = true) by decide)] at H; exact H
          clear H
          have H := H1
          clear H1
          obtain rfl := Option.some.inj H
          go_wp2_with (first | ((with_reducible refine gate_callee (f := 25) rfl ?_); refine goesL_ (some 16) rfl rfl Tryd.func25 (by kernel_rfl) rfl #[.slice A0 l0.length c0] rfl (by (try simp only [List.map_toArray, List.map_cons, List.map_nil]); first | done | rfl | (simp only [List.length_drop, List.length_take]; rfl)) ?_; (with_reducible refine (spec_Rising.calls k1 _ _ l0 false _ ?side1 ?side2 A7.out).mono ?_); (case side1 => repeat (first | exact HR0.out | (with_reducible refine Kd.C_alloc ?_ _) | (with_reducible refine Kd.C_drewN ?_ _) | (with_reducible refine Kd.C_drew ?_))); (case side2 => exact HC0.out); rintro e w' ⟨rfl, ⟨nd, rfl⟩⟩; refine ⟨_, rfl, ?_⟩))
          go_ret
          exact ⟨by first | rfl | (simp; done) | (simp [*]; done), by repeat (first | exact Drawn0.refl _ | apply Drawn0.step)⟩

-- NOT PRINTED: function 102 (utf8_decodeRuneSlow)

-- NOT PRINTED: function 93 (utf8_DecodeRune)

-- NOT PRINTED: function 101 (utf8_DecodeLastRune)

-- NOT PRINTED: function 92 (bytes_lastIndexFunc)

-- NOT PRINTED: function 79 (bytes_TrimRightFunc)

-- NOT PRINTED: function 94 (bytes_indexFunc)

-- NOT PRINTED: function 80 (bytes_TrimLeftFunc)

-- NOT PRINTED: function 66 (bytes_TrimFunc)

-- NOT PRINTED: function 43 (bytes_TrimSpace)

-- NOT PRINTED: function 82 (errors_New)

/-! ### hex_DecodedLen: function 103 -/
def hex_DecodedLen.f (a0 : Int) : Option (Int) := some (wrap64 (Int.tdiv a0 2))
set_option maxHeartbeats 8000000 in
set_option maxRecDepth 100000 in
theorem hex_DecodedLen.calls (a0 : Int) (r : Int) (w : World) (h : hex_DecodedLen.f a0 = some r) :
    Calls Tryd.prog 103 #[.int .i64 a0] w fun e w' => e = .returned (.int .i64 r) ∧ Drawn0 w w' := by
  have H : (some (wrap64 (Int.tdiv a0 2))) = some r := h
  clear h
  obtain rfl := Option.some.inj H
  go_enter Tryd.func103, Tryd.ntmps103
  go_wp2
  go_ret
  exact ⟨by first | rfl | (simp; done) | (simp [*]; done), by repeat (first | exact Drawn0.refl _ | apply Drawn0.step)⟩

-- NOT PRINTED: function 104 (hex_Decode)

-- NOT PRINTED: function 97 (hex_DecodeString)

-- NOT PRINTED: function 83 (plumbing_NewHash)

-- NOT PRINTED: function 69 (packp_ShallowUpdate_decodeLine)

-- NOT PRINTED: function 46 (packp_ShallowUpdate_decodeShallowLine)

-- NOT PRINTED: function 48 (packp_ShallowUpdate_decodeUnshallowLine)

-- NOT PRINTED: function 26 (packp_ShallowUpdate_Decode)

/-! ### hex_EncodedLen: function 84 -/
def hex_EncodedLen.f (a0 : Int) : Option (Int) := some (wrap64 (a0 * 2))
set_option maxHeartbeats 8000000 in
set_option maxRecDepth 100000 in
theorem hex_EncodedLen.calls (a0 : Int) (r : Int) (w : World) (h : hex_EncodedLen.f a0 = some r) :
    Calls Tryd.prog 84 #[.int .i64 a0] w fun e w' => e = .returned (.int .i64 r) ∧ Drawn0 w w' := by
  have H : (some (wrap64 (a0 * 2))) = some r := h
  clear h
  obtain rfl := Option.some.inj H
  go_enter Tryd.func84, Tryd.ntmps84
  go_wp2
  go_ret
  exact ⟨by first | rfl | (simp; done) | (simp [*]; done), by repeat (first | exact Drawn0.refl _ | apply Drawn0.step)⟩

/-! ### hex_Encode: function 85 -/
def hex_Encode.l0 : Nat → List Int → List Int → Int → List Int → Int → Int → Option (Int × List Int)
  | 0, _, _, _, _, _, _ => none
  | k + 1, x0, x1, x5, x8, x9, x10 => if x10 < x9 then (if 0 ≤ x10 then (if x10 < (x8.length : Int) then (if 0 ≤ ((rd x8 x10) / 16) then (if ((rd x8 x10) / 16) < 16 then (if 0 ≤ x5 then (if x5 < (x0.length : Int) then (if 0 ≤ (Go.bits .and .u8 (rd x8 x10) 15) then (if (Go.bits .and .u8 (rd x8 x10) 15) < 16 then (if 0 ≤ (wrap64 (x5 + 1)) then (if (wrap64 (x5 + 1)) < (x0.length : Int) then (hex_Encode.l0 k ((x0.set (x5 : Int).toNat (bt (⟨#[48, 49, 50, 51, 52, 53, 54, 55, 56, 57, 97, 98, 99, 100, 101, 102]⟩ : ByteArray) ((rd x8 x10) / 16))).set ((wrap64 (x5 + 1)) : Int).toNat (bt (⟨#[48, 49, 50, 51, 52, 53, 54, 55, 56, 57, 97, 98, 99, 100, 101, 102]⟩ : ByteArray) (Go.bits .and .u8 (rd x8 x10) 15))) x1 (wrap64 (x5 + 2)) x8 x9 (wrap64 (x10 + 1))) else (none)) else (none)) else (none)) else (none)) else (none)) else (none)) else (none)) else (none)) else (none)) else (none)) else (some (wrap64 ((x1.length : Int) * 2), x0))
def hex_Encode.f (k : Nat) (l0 : List Int) (l1 : List Int) : Option (Int × List Int) := hex_Encode.l0 k l0 l1 0 l1 (l1.length : Int) 0
theorem hex_Encode.mono_l : ∀ k, (∀ y0 y1 y2 y3 y4 y5, LeO (hex_Encode.l0 k y0 y1 y2 y3 y4 y5) (hex_Encode.l0 (k + 1) y0 y1 y2 y3 y4 y5))
  | 0 => fun _ _ _ _ _ _ r h => by simp [hex_Encode.l0] at h
  | k + 1 => by
    have ih0 := hex_Encode.mono_l k
    · intro y0 y1 y2 y3 y4 y5
      unfold hex_Encode.l0
      repeat' first
      | (with_reducible exact ih0 _ _ _ _ _ _)
      | (with_reducible exact LeO.refl _)
      | (with_reducible exact LeO.none _)
      | (with_reducible refine LeO.ite ?_ ?_)
      | (with_reducible refine LeO.bind ?_ (fun _ => ?_))
      | exact ih0 _ _ _ _ _ _
      | exact LeO.none _
      | refine LeO.ite ?_ ?_
      | refine LeO.bind ?_ (fun _ => ?_)
theorem hex_Encode.mono : ∀ a0 a1 k, LeO (hex_Encode.f k a0 a1) (hex_Encode.f (k + 1) a0 a1) := by
  intro a0 a1 k
  have ih0 := hex_Encode.mono_l k
  unfold hex_Encode.f
  repeat' first
      | (with_reducible exact ih0 _ _ _ _ _ _)
      | (with_reducible exact LeO.refl _)
      | (with_reducible exact LeO.none _)
      | (with_reducible refine LeO.ite ?_ ?_)
      | (with_reducible refine LeO.bind ?_ (fun _ => ?_))
      | exact ih0 _ _ _ _ _ _
      | exact LeO.none _
      | refine LeO.ite ?_ ?_
      | refine LeO.bind ?_ (fun _ => ?_)
set_option maxHeartbeats 8000000 in
set_option maxRecDepth 100000 in
theorem hex_Encode.calls (k : Nat) (P0_ : Nat → Prop) (u9000_ : Value) (l0 : List Int) (A1 : Option Addr) (c1 : Nat) (l1 : List Int) (r1 : Int) (r2 : List Int) (w0 w : World) (hB : Below w0.heap.size w0 w) (ho0 : Kd.R (Kd.int .u8) 5 w w0.heap.size P0_ u9000_ l0) (hr1 : ∀ W_, Kept w W_ (fun k_ => P0_ k_) → Kd.C (Kd.int .u8) W_ A1 l1.length l1) (hc1 : l1.length ≤ c1) (h : hex_Encode.f k l0 l1 = some (r1, r2)) :
    Calls Tryd.prog 85 #[u9000_, .slice A1 l1.length c1] w fun e w' => e = .returned (.int .i64 r1) ∧ Kd.R (Kd.int .u8) 5 w' w0.heap.size (fun k_ => (P0_ k_ ∨ w.heap.size ≤ k_)) u9000_ r2 ∧ Below w0.heap.size w0 w' ∧ Kept w w' (fun k_ => P0_ k_) := by
  have HO0 := Aside0.mk (show Kd.R (Kd.int .u8) 5 w w0.heap.size (fun k_ => (P0_ k_ ∨ w.heap.size ≤ k_)) u9000_ l0 from Kd.R_mono ho0 (fun k_ hk => (.inl hk)))
  have HR1 := Aside0.mk hr1
  have HC1 := Aside0.mk hc1
  clear hr1 hc1
  have HK := Aside0.mk (Kept.refl w (fun k_ => P0_ k_))
  have HW0 := Aside0.mk hB.size
  have HB := Aside0.mk hB
  clear hB
  have H : (hex_Encode.l0 k l0 l1 0 l1 (l1.length : Int) 0) = some (r1, r2) := h
  clear h
  have H' := Aside0.mk H
  clear H
  go_enter Tryd.func85, Tryd.ntmps85
  go_wp2
  go_loopg [5, 10] k (fun kq v5 v10 w' => ∃ (x0_1 : List Int) (x5_1 : Int) (x10_1 : Int), v5 = .int .i64 x5_1 ∧ v10 = .int .i64 x10_1 ∧ Aside0 (hex_Encode.l0 kq x0_1 l1 x5_1 l1 (l1.length : Int) x10_1 = some (r1, r2)) ∧ Aside0 (kq ≤ k) ∧ Aside0 (Kd.R (Kd.int .u8) 5 w' w0.heap.size (fun k_ => (P0_ k_ ∨ w.heap.size ≤ k_)) u9000_ x0_1) ∧ Aside0 (Kept w w' (fun k_ => P0_ k_)) ∧ Aside0 (Below w0.heap.size w0 w'))
  case atStart => exact ⟨(l0), (0), (0), (by first | rfl | (simp; done) | (simp [*]; done)), (by first | rfl | (simp; done) | (simp [*]; done)), H', ⟨Nat.le_refl _⟩, ⟨by (with_reducible repeat (first | apply Kd.R_alloc | apply Kd.R_drewN | apply Kd.R_drew)); exact HO0.out⟩, ⟨by repeat (first | (with_reducible first | exact HK.out | apply Kept.alloc | apply Kept.drewN | apply Kept.drew) | exact HK.out)⟩, ⟨by repeat (first | (with_reducible first | exact HB.out | apply below_alloc | apply pw_below_drewN | apply below_drew1) | exact HB.out)⟩⟩
  case round =>
    clear H'
    try clear c1
    try clear p2
    obtain ⟨x0_1, x5_1, x10_1, rfl, rfl, HA, HK1, HO_0, HK, HB⟩ := hrel
    cases gk with
    | zero => exact absurd HA.out (by simp [hex_Encode.l0])
    | succ k1 =>
      have H := HA.out
      clear HA
      simp only [hex_Encode.l0] at H
      by_cases c3 : x10_1 < (l1.length : Int)
      · rw [if_pos c3] at H
        have c3b0 : decide (x10_1 < (l1.length : Int)) = true := decide_eq_true c3
        clear c3
        by_cases c4 : 0 ≤ x10_1
        · rw [if_pos c4] at H
          have c4b0 : decide (0 ≤ x10_1) = true := decide_eq_true c4
          clear c4
          by_cases c5 : x10_1 < (l1.length : Int)
          · rw [if_pos c5] at H
            have c5b0 : decide (x10_1 < (l1.length : Int)) = true := decide_eq_true c5
            clear c5
            obtain ⟨ji6, hji6⟩ : ∃ j_ : Int, ((rd l1 x10_1) / 16) = j_ := ⟨_, rfl⟩
            replace H : (if 0 ≤ (ji6) then (if (ji6) < 16 then (if 0 ≤ x5_1 then (if x5_1 < (x0_1.length : Int) then (if 0 ≤ (Go.bits .and .u8 (rd l1 x10_1) 15) then (if (Go.bits .and .u8 (rd l1 x10_1) 15) < 16 then (if 0 ≤ (wrap64 (x5_1 + 1)) then (if (wrap64 (x5_1 + 1)) < (x0_1.length : Int) then (hex_Encode.l0 k1 ((x0_1.set (x5_1 : Int).toNat (bt (⟨#[48, 49, 50, 51, 52, 53, 54, 55, 56, 57, 97, 98, 99, 100, 101, 102]⟩ : ByteArray) (ji6))).set ((wrap64 (x5_1 + 1)) : Int).toNat (bt (⟨#[48, 49, 50, 51, 52, 53, 54, 55, 56, 57, 97, 98, 99, 100, 101, 102]⟩ : ByteArray) (Go.bits .and .u8 (rd l1 x10_1) 15))) l1 (wrap64 (x5_1 + 2)) l1 (l1.length : Int) (wrap64 (x10_1 + 1))) else (none)) else (none)) else (none)) else (none)) else (none)) else (none)) else (none)) else (none)) = some (r1, r2) := by first | (rw [hji6] at H; exact H) | (simp only [hji6] at H ⊢; exact H)
            by_cases c7 : 0 ≤ (ji6)
            · rw [if_pos c7] at H
              have c7b0 : decide (0 ≤ (ji6)) = true := decide_eq_true c7
              clear c7
              by_cases c8 : (ji6) < 16
              · rw [if_pos c8] at H
                have c8b0 : decide ((ji6) < 16) = true := decide_eq_true c8
                clear c8
                by_cases c10 : 0 ≤ x5_1
                · rw [if_pos c10] at H
                  have c10b0 : decide (0 ≤ x5_1) = true := decide_eq_true c10
                  clear c10
                  by_cases c11 : x5_1 < (x0_1.length : Int)
                  · rw [if_pos c11] at H
                    have c11b0 : decide (x5_1 < (x0_1.length : Int)) = true := decide_eq_true c11
                    clear c11
                    obtain ⟨y151, hy151⟩ : ∃ y_ : List Int, y_ = (x0_1.set (x5_1 : Int).toNat (bt (⟨#[48, 49, 50, 51, 52, 53, 54, 55, 56, 57, 97, 98, 99, 100, 101, 102]⟩ : ByteArray) (ji6))) := ⟨_, rfl⟩
                    replace H : (if 0 ≤ (Go.bits .and .u8 (rd l1 x10_1) 15) then (if (Go.bits .and .u8 (rd l1 x10_1) 15) < 16 then (if 0 ≤ (wrap64 (x5_1 + 1)) then (if (wrap64 (x5_1 + 1)) < (x0_1.length : Int) then (hex_Encode.l0 k1 (y151.set ((wrap64 (x5_1 + 1)) : Int).toNat (bt (⟨#[48, 49, 50, 51, 52, 53, 54, 55, 56, 57, 97, 98, 99, 100, 101, 102]⟩ : ByteArray) (Go.bits .and .u8 (rd l1 x10_1) 15))) l1 (wrap64 (x5_1 + 2)) l1 (l1.length : Int) (wrap64 (x10_1 + 1))) else (none)) else (none)) else (none)) else (none)) = some (r1, r2) := by first | (rw [hy151]; with_reducible exact H) | (have H2_ := (Option.bind_some _ _).symm.trans H; rw [hy151]; with_reducible exact H2_) | (have H2_ := (Option.bind_some _ _).symm.trans H; with_reducible exact H2_) | with_reducible exact H | (rw [hy151]; exact H) | exact H
                    have Ny151 := Aside0.mk hy151
                    clear hy151
                    by_cases c13 : 0 ≤ (Go.bits .and .u8 (rd l1 x10_1) 15)
                    · rw [if_pos c13] at H
                      have c13b0 : decide (0 ≤ (Go.bits .and .u8 (rd l1 x10_1) 15)) = true := decide_eq_true c13
                      clear c13
                      by_cases c14 : (Go.bits .and .u8 (rd l1 x10_1) 15) < 16
                      · rw [if_pos c14] at H
                        have c14b0 : decide ((Go.bits .and .u8 (rd l1 x10_1) 15) < 16) = true := decide_eq_true c14
                        clear c14
                        obtain ⟨ji16, hji16⟩ : ∃ j_ : Int, (wrap64 (x5_1 + 1)) = j_ := ⟨_, rfl⟩
                        replace H : (if 0 ≤ (ji16) then (if (ji16) < (x0_1.length : Int) then (hex_Encode.l0 k1 (y151.set ((ji16) : Int).toNat (bt (⟨#[48, 49, 50, 51, 52, 53, 54, 55, 56, 57, 97, 98, 99, 100, 101, 102]⟩ : ByteArray) (Go.bits .and .u8 (rd l1 x10_1) 15))) l1 (wrap64 (x5_1 + 2)) l1 (l1.length : Int) (wrap64 (x10_1 + 1))) else (none)) else (none)) = some (r1, r2) := by first | (rw [hji16] at H; exact H) | (simp only [hji16] at H ⊢; exact H)
                        have hji16w : (IntKind.i64.wrap (x5_1 + 1)) = ji16 := (i64_w _).trans hji16
                        by_cases c17 : 0 ≤ (ji16)
                        · rw [if_pos c17] at H
                          have c17b0 : decide (0 ≤ (ji16)) = true := decide_eq_true c17
                          clear c17
                          by_cases c18 : (ji16) < (x0_1.length : Int)
                          · rw [if_pos c18] at H
                            have c18b0 : decide ((ji16) < (x0_1.length : Int)) = true := decide_eq_true c18
                            clear c18
                            obtain ⟨y152, hy152⟩ : ∃ y_ : List Int, y_ = (y151.set ((ji16) : Int).toNat (bt (⟨#[48, 49, 50, 51, 52, 53, 54, 55, 56, 57, 97, 98, 99, 100, 101, 102]⟩ : ByteArray) (Go.bits .and .u8 (rd l1 x10_1) 15))) := ⟨_, rfl⟩
                            replace H : (hex_Encode.l0 k1 y152 l1 (wrap64 (x5_1 + 2)) l1 (l1.length : Int) (wrap64 (x10_1 + 1))) = some (r1, r2) := by first | (rw [hy152]; with_reducible exact H) | (have H2_ := (Option.bind_some _ _).symm.trans H; rw [hy152]; with_reducible exact H2_) | (have H2_ := (Option.bind_some _ _).symm.trans H; with_reducible exact H2_) | with_reducible exact H | (rw [hy152]; exact H) | exact H
                            have Ny152 := Aside0.mk hy152
                            clear hy152
                            have H' := Aside0.mk H
                            clear H
                            have p150 : 0 ≤ (x10_1 : Int) := of_decide_eq_true (by first | (with_reducible assumption) | assumption)
                            have q150 : x10_1 < (l1.length : Int) := of_decide_eq_true (by first | (with_reducible assumption) | assumption)
                            obtain ⟨ad150, e150, hx150_0⟩ := Kd.at_int (Kd.C_kept_now HR1.out HK.out) x10_1 p150 q150
                            cases e150
                            replace p150 := eq_true p150
                            replace q150 := eq_true q150
                            have p9 : 0 ≤ ((ji6) : Int) := of_decide_eq_true (by first | (with_reducible assumption) | assumption)
                            have q9 : (ji6) < (16 : Int) := of_decide_eq_true (by first | (with_reducible assumption) | assumption)
                            have hx9 := bt_at (⟨#[48, 49, 50, 51, 52, 53, 54, 55, 56, 57, 97, 98, 99, 100, 101, 102]⟩ : ByteArray) (ji6)
                            replace p9 := eq_true p9
                            replace q9 := eq_true q9
                            have p12 : 0 ≤ (x5_1 : Int) := of_decide_eq_true (by first | (with_reducible assumption) | assumption)
                            have q12 : (x5_1 : Int) < ((x0_1.length : Int) : Int) := of_decide_eq_true (by first | (with_reducible assumption) | assumption)
                            obtain ⟨go12, co12, eo12, gb12, gl12, cl12, HG12⟩ := Kd.R_form HO_0.out (by omega)
                            (first | cases eo12 | (injection eo12 with ea_ en_ ec_; (first | subst ea_ | (injection ea_ with ea_; subst ea_)); subst ec_; clear en_))
                            have GB12 := Aside0.mk gb12
                            have GG12 := Aside0.mk HG12
                            clear gb12 gl12 HG12
                            have HMgo12 := Aside0.mk (show (P0_ go12 ∨ w.heap.size ≤ go12) from (HO_0.out.1 _ rfl))
                            obtain ⟨hx12_0, hf12_0⟩ := Kd.R_celln 0 HO_0.out (x5_1 : Int) p12 q12
                            replace p12 := eq_true p12
                            replace q12 := eq_true q12
                            have HP20 := Kd.R_putg HO_0.out (x5_1 : Int) (bt (⟨#[48, 49, 50, 51, 52, 53, 54, 55, 56, 57, 97, 98, 99, 100, 101, 102]⟩ : ByteArray) (ji6))
                            go_wp2_with (first | ((with_reducible refine gate_store (t := 5) (p := 19) rfl ?_); refine store_event (t := 5) (p := 19) (v := ?vo_w21) (w1 := (wr.setCell ⟨go12, (x5_1 : Int).toNat, none⟩ (.int .u8 (bt (⟨#[48, 49, 50, 51, 52, 53, 54, 55, 56, 57, 97, 98, 99, 100, 101, 102]⟩ : ByteArray) (ji6))))) ?hg ?ho ?hn ?hr ?_; (case ho => rfl); (case hg => rfl); (case hn => rfl); (case hr => first | (go_simp; done) | (go_simp; rfl)); intro w21 hw; have hg : wr.grownBy w21 (some go12) := (by rw [hw]; exact HP20.2); have hp_ : Kd.R (Kd.int .u8) 5 w21 w0.heap.size (fun k_ => (P0_ k_ ∨ w.heap.size ≤ k_)) (.slice (some ⟨go12, 0, none⟩) x0_1.length co12) y151 := (by rw [hw, Ny151.out]; exact HP20.1); clear HP20; have n0_ := Aside0.mk (hp_); have n1_ := Aside0.mk ((by rw [hw]; exact below_set (HB.out) GB12.out : Below w0.heap.size w0 w21)); have n2_ := Aside0.mk (Kept.of_grown (S := (fun k_ => P0_ k_)) hg (by repeat (first | (with_reducible first | exact HK.out | apply Kept.alloc | apply Kept.drewN | apply Kept.drew) | exact HK.out)) (fun k_ e_ => (HO_0.out.1 k_ e_))); clear HO_0; clear HB; clear HK; have HO_0 := n0_; have HB := n1_; have HK := n2_; clear n0_ n1_ n2_; clear hg hw hp_; have p15 : 0 ≤ ((Go.bits .and .u8 (rd l1 x10_1) 15) : Int) := of_decide_eq_true (by first | (with_reducible assumption) | assumption); have q15 : (Go.bits .and .u8 (rd l1 x10_1) 15) < (16 : Int) := of_decide_eq_true (by first | (with_reducible assumption) | assumption); have hx15 := bt_at (⟨#[48, 49, 50, 51, 52, 53, 54, 55, 56, 57, 97, 98, 99, 100, 101, 102]⟩ : ByteArray) (Go.bits .and .u8 (rd l1 x10_1) 15); replace p15 := eq_true p15; replace q15 := eq_true q15; have p19 : 0 ≤ ((ji16) : Int) := of_decide_eq_true (by first | (with_reducible assumption) | assumption); have q19 : ((ji16) : Int) < ((x0_1.length : Int) : Int) := of_decide_eq_true (by first | (with_reducible assumption) | assumption); obtain ⟨hx19_0, hf19_0⟩ := Kd.R_celln 0 HO_0.out ((ji16) : Int) p19 q19; replace p19 := eq_true p19; replace q19 := eq_true q19; obtain ⟨hy22_, hz22_⟩ := Kd.R_celln 0 HO_0.out ((ji16) : Int) (of_decide_eq_true (by first | (with_reducible assumption) | assumption)) (of_decide_eq_true (by first | (with_reducible assumption) | assumption)); have HP22 := Kd.R_putg HO_0.out ((ji16) : Int) (bt (⟨#[48, 49, 50, 51, 52, 53, 54, 55, 56, 57, 97, 98, 99, 100, 101, 102]⟩ : ByteArray) (Go.bits .and .u8 (rd l1 x10_1) 15))) | ((with_reducible refine gate_store (t := 5) (p := 26) rfl ?_); refine store_event (t := 5) (p := 26) (v := ?vo_w23) (w1 := (w21.setCell ⟨go12, ((ji16) : Int).toNat, none⟩ (.int .u8 (bt (⟨#[48, 49, 50, 51, 52, 53, 54, 55, 56, 57, 97, 98, 99, 100, 101, 102]⟩ : ByteArray) (Go.bits .and .u8 (rd l1 x10_1) 15))))) ?hg ?ho ?hn ?hr ?_; (case ho => rfl); (case hg => rfl); (case hn => rfl); (case hr => first | (go_simp; done) | (go_simp; rfl)); intro w23 hw; have hg : w21.grownBy w23 (some go12) := (by rw [hw]; exact HP22.2); have hp_ : Kd.R (Kd.int .u8) 5 w23 w0.heap.size (fun k_ => (P0_ k_ ∨ w.heap.size ≤ k_)) (.slice (some ⟨go12, 0, none⟩) x0_1.length co12) y152 := (by rw [hw, Ny152.out]; exact HP22.1); clear HP22; have n0_ := Aside0.mk (hp_); have n1_ := Aside0.mk ((by rw [hw]; exact below_set (HB.out) GB12.out : Below w0.heap.size w0 w23)); have n2_ := Aside0.mk (Kept.of_grown (S := (fun k_ => P0_ k_)) hg (by repeat (first | (with_reducible first | exact HK.out | apply Kept.alloc | apply Kept.drewN | apply Kept.drew) | exact HK.out)) (fun k_ e_ => (HO_0.out.1 k_ e_))); clear HO_0; clear HB; clear HK; have HO_0 := n0_; have HB := n1_; have HK := n2_; clear n0_ n1_ n2_; clear hg hw hp_))
                            go_roundg k1
                            case measure => have := HK1.out; omega
                            case rel => exact ⟨(y152), (wrap64 (x5_1 + 2)), (wrap64 (x10_1 + 1)), (by first | rfl | (simp; done) | (simp [*]; done)), (by first | rfl | (simp; done) | (simp [*]; done)), H', ⟨by have := HK1.out; omega⟩, ⟨by (with_reducible repeat (first | apply Kd.R_alloc | apply Kd.R_drewN | apply Kd.R_drew)); exact HO_0.out⟩, ⟨by repeat (first | (with_reducible first | exact HK.out | apply Kept.alloc | apply Kept.drewN | apply Kept.drew) | exact HK.out)⟩, ⟨by repeat (first | (with_reducible first | exact HB.out | apply below_alloc | apply pw_below_drewN | apply below_drew1) | exact HB.out)⟩⟩
                          · rw [if_neg c18] at H
                            exact absurd H (by simp)
                        · rw [if_neg c17] at H
                          exact absurd H (by simp)
                      · rw [if_neg c14] at H
                        exact absurd H (by simp)
                    · rw [if_neg c13] at H
                      exact absurd H (by simp)
                  · rw [if_neg c11] at H
                    exact absurd H (by simp)
                · rw [if_neg c10] at H
                  exact absurd H (by simp)
              · rw [if_neg c8] at H
                exact absurd H (by simp)
            · rw [if_neg c7] at H
              exact absurd H (by simp)
          · rw [if_neg c5] at H
            exact absurd H (by simp)
        · rw [if_neg c4] at H
          exact absurd H (by simp)
      · rw [if_neg c3] at H
        have c3b0 : decide (x10_1 < (l1.length : Int)) = false := decide_eq_false c3
        clear c3
        simp only [Option.some.injEq, Prod.mk.injEq] at H
        obtain ⟨rfl, rfl⟩ := H
        go_wp2
        go_ret
        exact ⟨by first | rfl | (simp [errW_none, errW_some] <;> rfl) | (simp [*, errW_none, errW_some] <;> rfl), by (with_reducible repeat (first | apply Kd.R_alloc | apply Kd.R_drewN | apply Kd.R_drew)); exact HO_0.out, by repeat (first | (with_reducible first | exact HB.out | apply below_alloc | apply pw_below_drewN | apply below_drew1) | exact HB.out), by repeat (first | (with_reducible first | exact HK.out | apply Kept.alloc | apply Kept.drewN | apply Kept.drew) | exact HK.out)⟩

/-! ### hex_EncodeToString: function 70 -/
def hex_EncodeToString.f (k : Nat) (l0 : List Int) : Option (ByteArray) := (hex_EncodedLen.f (l0.length : Int)).bind fun t153 => (if 0 ≤ t153 then (if (t153 : Int).toNat ≤ 281474976710656 then ((hex_Encode.f k (List.replicate (t153 : Int).toNat 0) l0).bind fun bt157 => (some (strOfNums bt157.2))) else (none)) else (none))
theorem hex_EncodeToString.mono : ∀ a0 k, LeO (hex_EncodeToString.f k a0) (hex_EncodeToString.f (k + 1) a0) := by
  intro a0 k
  unfold hex_EncodeToString.f
  repeat' first
      | (with_reducible exact hex_Encode.mono _ _ _)
      | (with_reducible exact LeO.refl _)
      | (with_reducible exact LeO.none _)
      | (with_reducible refine LeO.ite ?_ ?_)
      | (with_reducible refine LeO.bind ?_ (fun _ => ?_))
      | exact hex_Encode.mono _ _ _
      | exact LeO.none _
      | refine LeO.ite ?_ ?_
      | refine LeO.bind ?_ (fun _ => ?_)
set_option maxHeartbeats 8000000 in
set_option maxRecDepth 100000 in
theorem hex_EncodeToString.calls (k : Nat) (A0 : Option Addr) (c0 : Nat) (l0 : List Int) (r : ByteArray) (w : World) (hr0 : Kd.C (Kd.int .u8) w A0 l0.length l0) (hc0 : l0.length ≤ c0) (h : hex_EncodeToString.f k l0 = some r) :
    Calls Tryd.prog 70 #[.slice A0 l0.length c0] w fun e w' => e = .returned (.string r) ∧ Below w.heap.size w w' := by
  have HR0 := Aside0.mk hr0
  have HC0 := Aside0.mk hc0
  clear hr0 hc0
  have HB := Aside0.mk (Below.refl w.heap.size w)
  have H : ((hex_EncodedLen.f (l0.length : Int)).bind fun t153 => (if 0 ≤ t153 then (if (t153 : Int).toNat ≤ 281474976710656 then ((hex_Encode.f k (List.replicate (t153 : Int).toNat 0) l0).bind fun bt157 => (some (strOfNums bt157.2))) else (none)) else (none))) = some r := h
  clear h
  replace H := Option.bind_eq_some_iff.mp H
  obtain ⟨t153, A20, H⟩ := H
  replace H : (if 0 ≤ t153 then (if (t153 : Int).toNat ≤ 281474976710656 then ((hex_Encode.f k (List.replicate (t153 : Int).toNat 0) l0).bind fun bt157 => (some (strOfNums bt157.2))) else (none)) else (none)) = some r := H
  have A2 := Aside0.mk A20
  clear A20
  by_cases c3 : 0 ≤ t153
  · rw [if_pos c3] at H
    have c3b0 := eq_true c3
    have c3b1 : decide (0 ≤ t153) = true := decide_eq_true c3
    clear c3
    by_cases c4 : (t153 : Int).toNat ≤ 281474976710656
    · rw [if_pos c4] at H
      have c4b0 := eq_true c4
      have c4b1 : decide ((t153 : Int).toNat ≤ 281474976710656) = true := decide_eq_true c4
      clear c4
      obtain ⟨y154, hy154⟩ : ∃ y_ : List Int, y_ = (List.replicate (t153 : Int).toNat 0) := ⟨_, rfl⟩
      replace H : ((hex_Encode.f k y154 l0).bind fun bt157 => (some (strOfNums bt157.2))) = some r := by first | (rw [hy154]; with_reducible exact H) | (have H2_ := (Option.bind_some _ _).symm.trans H; rw [hy154]; with_reducible exact H2_) | (have H2_ := (Option.bind_some _ _).symm.trans H; with_reducible exact H2_) | with_reducible exact H | (rw [hy154]; exact H) | exact H
      have Ny154 := Aside0.mk hy154
      clear hy154
      replace H := Option.bind_eq_some_iff.mp H
      obtain ⟨⟨t157, t158⟩, A50, H⟩ := H
      replace H : (some (strOfNums t158)) = some r := H
      have A5 := Aside0.mk A50
      clear A50
      obtain rfl := Option.some.inj H
      go_enter Tryd.func70, Tryd.ntmps70
      go_wp2_with (first | ((with_reducible refine gate_callee (f := 84) rfl ?_); refine goesL_ (some 6) rfl rfl Tryd.func84 (by kernel_rfl) rfl #[.int .i64 (l0.length : Int)] rfl (by (try simp only [List.map_toArray, List.map_cons, List.map_nil]); first | done | rfl | (simp only [List.length_drop, List.length_take]; rfl)) ?_; (with_reducible refine (hex_EncodedLen.calls (l0.length : Int) t153 _ A2.out).mono ?_); rintro e w' ⟨rfl, ⟨nd, rfl⟩⟩; refine ⟨_, rfl, ?_⟩) | ((with_reducible refine gate_dst (N := 7) rfl ?_); refine Kd.R_make (Kd.int .u8) _ 5 rfl (N := 7) rfl 32 _ _ rfl t153 rfl rfl Tryd.underlying32 (.int .u8 0) 1 info5 rfl (by decide) (by omega) 0 (ok := fun _ => True) (okp := fun _ => True) rfl (fun _ hk => hk) trivial (of_decide_eq_true (by first | (with_reducible assumption) | assumption)) (Nat.le_trans (Nat.mul_le_mul_right _ (of_decide_eq_true (by first | (with_reducible assumption) | assumption) : t153.toNat ≤ 281474976710656)) (by omega)) (Below.refl _ _) (Nat.le_refl _) ?_; intro v155 w6 ho7 hb hg_ hnew_; clear hg_ hnew_; (first | rw [← Ny154.out] at ho7 | (simp only [Int.reduceToNat] at ho7; rw [← Ny154.out] at ho7)); have n0_ := Aside0.mk (Kd.R_lower ho7 (below_size (by repeat (first | (with_reducible first | exact HB.out | apply below_alloc | apply pw_below_drewN | apply below_drew1) | exact HB.out)))); have n1_ := Aside0.mk (below_step (by repeat (first | (with_reducible first | exact HB.out | apply below_alloc | apply pw_below_drewN | apply below_drew1) | exact HB.out)) hb); clear HB; have HO156 := n0_; have HB := n1_; clear n0_ n1_; clear hb ho7; obtain ⟨Ao8, co8, eo8⟩ := Kd.R_slice HO156.out; subst eo8) | ((with_reducible refine gate_callee (f := 85) rfl ?_); refine goesL_ (some 10) rfl rfl Tryd.func85 (by kernel_rfl) rfl #[.slice Ao8 y154.length co8, .slice A0 l0.length c0] rfl (by (try simp only [List.map_toArray, List.map_cons, List.map_nil]); first | done | rfl | (simp only [List.length_drop, List.length_take]; rfl)) ?_; (with_reducible refine (hex_Encode.calls k (fun k_ => some k_ = (.slice Ao8 y154.length co8 : Value).ownBlock) (.slice Ao8 y154.length co8) y154 _ _ l0 t157 t158 w _ ?side1 ?side2 ?side3 ?side4 A5.out).mono ?_); (case side1 => repeat (first | (with_reducible first | exact HB.out | apply below_alloc | apply pw_below_drewN | apply below_drew1) | exact HB.out)); (case side2 => exact Kd.R_tight rfl HO156.out); (case side3 => exact Kd.C_kept_came (Kd.heap_int .u8) HR0.out (by repeat (first | (with_reducible first | exact HB.out | apply below_alloc | apply pw_below_drewN | apply below_drew1) | exact HB.out)) (fun k_ hs_ => (fun e_ => Kd.R_base HO156.out k_ e_.symm) hs_)); (case side4 => exact HC0.out); rintro e w9 ⟨rfl, hy0, hb, hkp⟩; refine ⟨_, rfl, ?_⟩; have n0_ := Aside0.mk (Kd.R_reok rfl hy0 (fun k_ e_ => HO156.out.1 k_ e_)); have n1_ := Aside0.mk (hb); clear HO156; clear HB; have HO156 := n0_; have HB := n1_; clear n0_ n1_; (try clear hb); (try clear hkp); (try clear hy0); have hcv10 := own_string (P := Tryd.prog) Tryd.underlying32 Tryd.underlying5 Tryd.underlying9 (Kd.own_of_R HO156.out)))
      go_ret
      exact ⟨by first | rfl | (simp [errW_none, errW_some] <;> rfl) | (simp [*, errW_none, errW_some] <;> rfl), by repeat (first | (with_reducible first | exact HB.out | apply below_alloc | apply pw_below_drewN | apply below_drew1) | exact HB.out)⟩
    · rw [if_neg c4] at H
      exact absurd H (by simp)
  · rw [if_neg c3] at H
    exact absurd H (by simp)

-- NOT PRINTED: function 49 (plumbing_Hash_String)

-- NOT PRINTED: function 28 (impl_textsOf)

-- NOT PRINTED: function 13 (impl_ReadShallow)

/-! ### spec_Hex4: function 50 -/
def spec_Hex4.l0 : Nat → Int → List Int → Int → Option (List Int)
  | 0, _, _, _ => none
  | k + 1, x0, x3, x4 => if x4 ≥ 0 then (if 0 ≤ x4 then (if 0 ≤ (Go.bits .and .i64 (shr .i64 x0 x4) 15) then (if (Go.bits .and .i64 (shr .i64 x0 x4) 15) < 16 then (if x3.length < 140737488355328 then (spec_Hex4.l0 k x0 (x3 ++ [bt (⟨#[48, 49, 50, 51, 52, 53, 54, 55, 56, 57, 97, 98, 99, 100, 101, 102]⟩ : ByteArray) (Go.bits .and .i64 (shr .i64 x0 x4) 15)]) (wrap64 (x4 - 4))) else (none)) else (none)) else (none)) else (none)) else (some x3)
def spec_Hex4.f (k : Nat) (a0 : Int) : Option (List Int) := spec_Hex4.l0 k a0 ([] : List Int) 12
theorem spec_Hex4.mono_l : ∀ k, (∀ y0 y1 y2, LeO (spec_Hex4.l0 k y0 y1 y2) (spec_Hex4.l0 (k + 1) y0 y1 y2))
  | 0 => fun _ _ _ r h => by simp [spec_Hex4.l0] at h
  | k + 1 => by
    have ih0 := spec_Hex4.mono_l k
    · intro y0 y1 y2
      unfold spec_Hex4.l0
      repeat' first
      | (with_reducible exact ih0 _ _ _)
      | (with_reducible exact LeO.refl _)
      | (with_reducible exact LeO.none _)
      | (with_reducible refine LeO.ite ?_ ?_)
      | (with_reducible refine LeO.bind ?_ (fun _ => ?_))
      | exact ih0 _ _ _
      | exact LeO.none _
      | refine LeO.ite ?_ ?_
      | refine LeO.bind ?_ (fun _ => ?_)
theorem spec_Hex4.mono : ∀ a0 k, LeO (spec_Hex4.f k a0) (spec_Hex4.f (k + 1) a0) := by
  intro a0 k
  have ih0 := spec_Hex4.mono_l k
  unfold spec_Hex4.f
  repeat' first
      | (with_reducible exact ih0 _ _ _)
      | (with_reducible exact LeO.refl _)
      | (with_reducible exact LeO.none _)
      | (with_reducible refine LeO.ite ?_ ?_)
      | (with_reducible refine LeO.bind ?_ (fun _ => ?_))
      | exact ih0 _ _ _
      | exact LeO.none _
      | refine LeO.ite ?_ ?_
      | refine LeO.bind ?_ (fun _ => ?_)
set_option maxHeartbeats 8000000 in
set_option maxRecDepth 100000 in
theorem spec_Hex4.calls (k : Nat) (a0 : Int) (r : List Int) (w : World) (h : spec_Hex4.f k a0 = some r) :
    Calls Tryd.prog 50 #[.int .i64 a0] w fun e w' => ∃ v0_ : Value, e = .returned (v0_) ∧ Kd.R (Kd.int .u8) 5 w' w.heap.size (fun _ => True) v0_ r ∧ Below w.heap.size w w' := by
  have HB := Aside0.mk (Below.refl w.heap.size w)
  have H : (spec_Hex4.l0 k a0 ([] : List Int) 12) = some r := h
  clear h
  have H' := Aside0.mk H
  clear H
  go_enter Tryd.func50, Tryd.ntmps50
  go_wp2
  go_loopg [3, 4] k (fun kq v3 v4 w' => ∃ (x3_1 : List Int) (x4_1 : Int), v4 = .int .i64 x4_1 ∧ Aside0 (spec_Hex4.l0 kq a0 x3_1 x4_1 = some r) ∧ Aside0 (kq ≤ k) ∧ Aside0 (Kd.R (Kd.int .u8) 5 w' w.heap.size (fun _ => True) v3 x3_1) ∧ Aside0 (Below w.heap.size w w'))
  case atStart => exact ⟨(([] : List Int)), (12), (by first | rfl | (simp; done) | (simp [*]; done)), H', ⟨Nat.le_refl _⟩, ⟨by first | exact Kd.R_nil _ _ _ _ _ | exact Kd.N_nil _ _ _ _ _ | exact Kd.V_nil _ _ _ _ _ | exact Kd.Q_nil _ _ _ _ _ | exact Kd.S_nil _ _ _ _ _⟩, ⟨by repeat (first | (with_reducible first | exact HB.out | apply below_alloc | apply pw_below_drewN | apply below_drew1) | exact HB.out)⟩⟩
  case round =>
    clear H'
    obtain ⟨x3_1, x4_1, rfl, HA, HK1, HO_3, HB⟩ := hrel
    cases gk with
    | zero => exact absurd HA.out (by simp [spec_Hex4.l0])
    | succ k1 =>
      have H := HA.out
      clear HA
      simp only [spec_Hex4.l0] at H
      by_cases c2 : x4_1 ≥ 0
      · rw [if_pos c2] at H
        have c2b0 : decide (0 ≤ x4_1) = true := decide_eq_true c2
        clear c2
        by_cases c3 : 0 ≤ x4_1
        · rw [if_pos c3] at H
          have c3b0 := eq_true c3
          have c3b1 : decide (0 ≤ x4_1) = true := decide_eq_true c3
          clear c3
          obtain ⟨ji4, hji4⟩ : ∃ j_ : Int, (shr .i64 a0 x4_1) = j_ := ⟨_, rfl⟩
          replace H : (if 0 ≤ (Go.bits .and .i64 (ji4) 15) then (if (Go.bits .and .i64 (ji4) 15) < 16 then (if x3_1.length < 140737488355328 then (spec_Hex4.l0 k1 a0 (x3_1 ++ [bt (⟨#[48, 49, 50, 51, 52, 53, 54, 55, 56, 57, 97, 98, 99, 100, 101, 102]⟩ : ByteArray) (Go.bits .and .i64 (ji4) 15)]) (wrap64 (x4_1 - 4))) else (none)) else (none)) else (none)) = some r := by first | (rw [hji4] at H; exact H) | (simp only [hji4] at H ⊢; exact H)
          have hji4_ : (a0 / 2 ^ min x4_1.toNat 64) = ji4 := hji4
          have hji4z : x4_1 ≤ 64 → (a0 / 2 ^ x4_1.toNat) = ji4 := shr_small hji4
          by_cases c5 : 0 ≤ (Go.bits .and .i64 (ji4) 15)
          · rw [if_pos c5] at H
            have c5b0 : decide (0 ≤ (Go.bits .and .i64 (ji4) 15)) = true := decide_eq_true c5
            clear c5
            by_cases c6 : (Go.bits .and .i64 (ji4) 15) < 16
            · rw [if_pos c6] at H
              have c6b0 : decide ((Go.bits .and .i64 (ji4) 15) < 16) = true := decide_eq_true c6
              clear c6
              by_cases c8 : x3_1.length < 140737488355328
              · rw [if_pos c8] at H
                have LMc8 := Aside0.mk c8
                clear c8
                obtain ⟨y159, hy159⟩ : ∃ y_ : List Int, y_ = (x3_1 ++ [bt (⟨#[48, 49, 50, 51, 52, 53, 54, 55, 56, 57, 97, 98, 99, 100, 101, 102]⟩ : ByteArray) (Go.bits .and .i64 (ji4) 15)]) := ⟨_, rfl⟩
                replace H : (spec_Hex4.l0 k1 a0 y159 (wrap64 (x4_1 - 4))) = some r := by first | (rw [hy159]; with_reducible exact H) | (have H2_ := (Option.bind_some _ _).symm.trans H; rw [hy159]; with_reducible exact H2_) | (have H2_ := (Option.bind_some _ _).symm.trans H; with_reducible exact H2_) | with_reducible exact H | (rw [hy159]; exact H) | exact H
                have Ny159 := Aside0.mk hy159
                clear hy159
                have H' := Aside0.mk H
                clear H
                have p7 : 0 ≤ ((Go.bits .and .i64 (ji4) 15) : Int) := of_decide_eq_true (by first | (with_reducible assumption) | assumption)
                have q7 : (Go.bits .and .i64 (ji4) 15) < (16 : Int) := of_decide_eq_true (by first | (with_reducible assumption) | assumption)
                have hx7 := bt_at (⟨#[48, 49, 50, 51, 52, 53, 54, 55, 56, 57, 97, 98, 99, 100, 101, 102]⟩ : ByteArray) (Go.bits .and .i64 (ji4) 15)
                replace p7 := eq_true p7
                replace q7 := eq_true q7
                go_wp2_with (first | ((with_reducible refine gate_builtin (b := .append) (xs := #[.tmp 9, .tmp 15]) rfl ?_); at_builtin; refine Kd.R_append (Kd.int .u8) (w0 := w) w.heap.size rfl (.tmp 9) (.tmp 15) 32 5 (.int .u8 0) 1 rfl Tryd.underlying32 info5 rfl (by decide) (by omega) u3 x3_1 (bt (⟨#[48, 49, 50, 51, 52, 53, 54, 55, 56, 57, 97, 98, 99, 100, 101, 102]⟩ : ByteArray) (Go.bits .and .i64 (ji4) 15)) [.int .u8 (bt (⟨#[48, 49, 50, 51, 52, 53, 54, 55, 56, 57, 97, 98, 99, 100, 101, 102]⟩ : ByteArray) (Go.bits .and .i64 (ji4) 15))] (fun _ => True) (fun _ => False) rfl rfl ?aP (fun _ hk => hk.elim) ?aF ?aO ?aB ?aS ?aL ?_; (case aP => exact rfl); (case aB => exact (by repeat (first | (with_reducible first | exact HB.out | apply below_alloc | apply pw_below_drewN | apply below_drew1) | exact HB.out))); (case aF => exact (fun _ _ => trivial)); (case aO => exact (by (with_reducible repeat (first | apply Kd.R_alloc | apply Kd.R_drewN | apply Kd.R_drew)); exact HO_3.out)); (case aS => exact (below_size (by repeat (first | (with_reducible first | exact HB.out | apply below_alloc | apply pw_below_drewN | apply below_drew1) | exact HB.out)))); (case aL => have := LMc8.out; omega); intro v160 w9 ho hb hg hat; rw [← Ny159.out] at ho; have n0_ := Aside0.mk (hb); have n1_ := Aside0.mk (ho); clear HB; clear HO_3; have HB := n0_; have HO161 := n1_; clear n0_ n1_; clear ho hb hg hat))
                go_roundg k1
                case measure => have := HK1.out; omega
                case rel => exact ⟨(y159), (wrap64 (x4_1 - 4)), (by first | rfl | (simp; done) | (simp [*]; done)), H', ⟨by have := HK1.out; omega⟩, ⟨by (with_reducible repeat (first | apply Kd.R_alloc | apply Kd.R_drewN | apply Kd.R_drew)); exact HO161.out⟩, ⟨by repeat (first | (with_reducible first | exact HB.out | apply below_alloc | apply pw_below_drewN | apply below_drew1) | exact HB.out)⟩⟩
              · rw [if_neg c8] at H
                exact absurd H (by simp)
            · rw [if_neg c6] at H
              exact absurd H (by simp)
          · rw [if_neg c5] at H
            exact absurd H (by simp)
        · rw [if_neg c3] at H
          exact absurd H (by simp)
      · rw [if_neg c2] at H
        have c2b0 : decide (0 ≤ x4_1) = false := decide_eq_false c2
        clear c2
        obtain rfl := Option.some.inj H
        go_wp2
        go_ret
        exact ⟨_, by first | rfl | (simp [errW_none, errW_some] <;> rfl) | (simp [*, errW_none, errW_some] <;> rfl), by (with_reducible repeat (first | apply Kd.R_alloc | apply Kd.R_drewN | apply Kd.R_drew)); exact HO_3.out, by repeat (first | (with_reducible first | exact HB.out | apply below_alloc | apply pw_below_drewN | apply below_drew1) | exact HB.out)⟩

-- NOT PRINTED: function 14 (spec_ShallowText)

/-! ### spec_SameTexts: function 15 -/
def spec_SameTexts.l0 : Nat → List ByteArray → List ByteArray → Int → Int → Option (Bool)
  | 0, _, _, _, _ => none
  | k + 1, x0, x1, x12, x13 => if x13 < x12 then (if 0 ≤ x13 then (if x13 < (x0.length : Int) then (if x13 < (x1.length : Int) then (if (rdOf ByteArray.empty x0 x13).toList = (rdOf ByteArray.empty x1 x13).toList then (spec_SameTexts.l0 k x0 x1 x12 (wrap64 (x13 + 1))) else (some false)) else (none)) else (none)) else (none)) else (some true)
def spec_SameTexts.f (k : Nat) (l0 : List ByteArray) (l1 : List ByteArray) : Option (Bool) := if (l0.length : Int) = (l1.length : Int) then (spec_SameTexts.l0 k l0 l1 (l0.length : Int) 0) else (some false)
theorem spec_SameTexts.mono_l : ∀ k, (∀ y0 y1 y2 y3, LeO (spec_SameTexts.l0 k y0 y1 y2 y3) (spec_SameTexts.l0 (k + 1) y0 y1 y2 y3))
  | 0 => fun _ _ _ _ r h => by simp [spec_SameTexts.l0] at h
  | k + 1 => by
    have ih0 := spec_SameTexts.mono_l k
    · intro y0 y1 y2 y3
      unfold spec_SameTexts.l0
      repeat' first
      | (with_reducible exact ih0 _ _ _ _)
      | (with_reducible exact LeO.refl _)
      | (with_reducible exact LeO.none _)
      | (with_reducible refine LeO.ite ?_ ?_)
      | (with_reducible refine LeO.bind ?_ (fun _ => ?_))
      | exact ih0 _ _ _ _
      | exact LeO.none _
      | refine LeO.ite ?_ ?_
      | refine LeO.bind ?_ (fun _ => ?_)
theorem spec_SameTexts.mono : ∀ a0 a1 k, LeO (spec_SameTexts.f k a0 a1) (spec_SameTexts.f (k + 1) a0 a1) := by
  intro a0 a1 k
  have ih0 := spec_SameTexts.mono_l k
  unfold spec_SameTexts.f
  repeat' first
      | (with_reducible exact ih0 _ _ _ _)
      | (with_reducible exact LeO.refl _)
      | (with_reducible exact LeO.none _)
      | (with_reducible refine LeO.ite ?_ ?_)
      | (with_reducible refine LeO.bind ?_ (fun _ => ?_))
      | exact ih0 _ _ _ _
      | exact LeO.none _
      | refine LeO.ite ?_ ?_
      | refine LeO.bind ?_ (fun _ => ?_)
set_option maxHeartbeats 8000000 in
set_option maxRecDepth 100000 in
theorem spec_SameTexts.calls (k : Nat) (A0 : Option Addr) (c0 : Nat) (l0 : List ByteArray) (A1 : Option Addr) (c1 : Nat) (l1 : List ByteArray) (r : Bool) (w : World) (hr0 : Kd.C Kd.string w A0 l0.length l0) (hc0 : l0.length ≤ c0) (hr1 : Kd.C Kd.string w A1 l1.length l1) (hc1 : l1.length ≤ c1) (h : spec_SameTexts.f k l0 l1 = some r) :
    Calls Tryd.prog 15 #[.slice A0 l0.length c0, .slice A1 l1.length c1] w fun e w' => e = .returned (.bool r) ∧ Drawn0 w w' := by
  have HR0 := Aside0.mk hr0
  have HC0 := Aside0.mk hc0
  clear hr0 hc0
  have HR1 := Aside0.mk hr1
  have HC1 := Aside0.mk hc1
  clear hr1 hc1
  have H : (if (l0.length : Int) = (l1.length : Int) then (spec_SameTexts.l0 k l0 l1 (l0.length : Int) 0) else (some false)) = some r := h
  clear h
  by_cases c3 : (l0.length : Int) = (l1.length : Int)
  · rw [if_pos c3] at H
    have c3b0 : ((l0.length : Int) == (l1.length : Int)) = true := beq_iff_eq.mpr c3
    have c3b1 : ((l0.length : Int) != (l1.length : Int)) = false := bne_eq_false_iff_eq.mpr c3
    have c3b2 : (l0.length == l1.length) = true := by first | simpa using c3 | (simp at c3 ⊢; omega)
    clear c3
    have H' := Aside0.mk H
    clear H
    go_enter Tryd.func15, Tryd.ntmps15
    go_wp2
    repeat (go_quiet (fail); try go_wp2)
    go_loopg [13] k (fun kq v13 w' => ∃ (x13_1 : Int), v13 = .int .i64 x13_1 ∧ Aside0 (spec_SameTexts.l0 kq l0 l1 (l0.length : Int) x13_1 = some r) ∧ Aside0 (kq ≤ k) ∧ Drawn0 w w')
    case atStart => exact ⟨(0), (by first | rfl | (simp; done) | (simp [*]; done)), H', ⟨Nat.le_refl _⟩, by repeat (first | exact Drawn0.refl _ | apply Drawn0.step)⟩
    case round =>
      clear H'
      try clear c1
      try clear p2
      try clear c3
      try clear c3b0
      try clear c3b1
      try clear c3b2
      obtain ⟨x13_1, rfl, HA, HK1, ⟨m1, rfl⟩⟩ := hrel
      cases gk with
      | zero => exact absurd HA.out (by simp [spec_SameTexts.l0])
      | succ k1 =>
        have H := HA.out
        clear HA
        simp only [spec_SameTexts.l0] at H
        by_cases c4 : x13_1 < (l0.length : Int)
        · rw [if_pos c4] at H
          have c4b0 : decide (x13_1 < (l0.length : Int)) = true := decide_eq_true c4
          clear c4
          by_cases c5 : 0 ≤ x13_1
          · rw [if_pos c5] at H
            have c5b0 : decide (0 ≤ x13_1) = true := decide_eq_true c5
            clear c5
            by_cases c6 : x13_1 < (l0.length : Int)
            · rw [if_pos c6] at H
              have c6b0 : decide (x13_1 < (l0.length : Int)) = true := decide_eq_true c6
              clear c6
              by_cases c7 : x13_1 < (l1.length : Int)
              · rw [if_pos c7] at H
                have c7b0 : decide (x13_1 < (l1.length : Int)) = true := decide_eq_true c7
                clear c7
                by_cases c8 : (rdOf ByteArray.empty l0 x13_1).toList = (rdOf ByteArray.empty l1 x13_1).toList
                · rw [if_pos c8] at H
                  have c8b0 : ((rdOf ByteArray.empty l0 x13_1).toList == (rdOf ByteArray.empty l1 x13_1).toList) = true := beq_iff_eq.mpr c8
                  have c8b1 : ((rdOf ByteArray.empty l0 x13_1).toList != (rdOf ByteArray.empty l1 x13_1).toList) = false := bne_eq_false_iff_eq.mpr c8
                  clear c8
                  have H' := Aside0.mk H
                  clear H
                  have p172 : 0 ≤ (x13_1 : Int) := of_decide_eq_true (by first | (with_reducible assumption) | assumption)
                  have q172 : x13_1 < (l0.length : Int) := of_decide_eq_true (by first | (with_reducible assumption) | assumption)
                  obtain ⟨ad172, e172, hx172_0⟩ := Kd.at_string HR0.out x13_1 p172 q172
                  cases e172
                  replace p172 := eq_true p172
                  replace q172 := eq_true q172
                  have p173 : 0 ≤ (x13_1 : Int) := of_decide_eq_true (by first | (with_reducible assumption) | assumption)
                  have q173 : x13_1 < (l1.length : Int) := of_decide_eq_true (by first | (with_reducible assumption) | assumption)
                  obtain ⟨ad173, e173, hx173_0⟩ := Kd.at_string HR1.out x13_1 p173 q173
                  cases e173
                  replace p173 := eq_true p173
                  replace q173 := eq_true q173
                  go_wp2
                  repeat (go_quiet (fail); try go_wp2)
                  go_roundg k1
                  case measure => have := HK1.out; omega
                  case rel => exact ⟨(wrap64 (x13_1 + 1)), (by first | rfl | (simp; done) | (simp [*]; done)), H', ⟨by have := HK1.out; omega⟩, by repeat (first | exact Drawn0.refl _ | apply Drawn0.step)⟩
                · rw [if_neg c8] at H
                  have c8b0 : ((rdOf ByteArray.empty l0 x13_1).toList == (rdOf ByteArray.empty l1 x13_1).toList) = false := beq_eq_false_iff_ne.mpr c8
                  have c8b1 : ((rdOf ByteArray.empty l0 x13_1).toList != (rdOf ByteArray.empty l1 x13_1).toList) = true := bne_iff_ne.mpr c8
                  obtain rfl := Option.some.inj H
                  have p172 : 0 ≤ (x13_1 : Int) := of_decide_eq_true (by first | (with_reducible assumption) | assumption)
                  have q172 : x13_1 < (l0.length : Int) := of_decide_eq_true (by first | (with_reducible assumption) | assumption)
                  obtain ⟨ad172, e172, hx172_0⟩ := Kd.at_string HR0.out x13_1 p172 q172
                  cases e172
                  replace p172 := eq_true p172
                  replace q172 := eq_true q172
                  have p173 : 0 ≤ (x13_1 : Int) := of_decide_eq_true (by first | (with_reducible assumption) | assumption)
                  have q173 : x13_1 < (l1.length : Int) := of_decide_eq_true (by first | (with_reducible assumption) | assumption)
                  obtain ⟨ad173, e173, hx173_0⟩ := Kd.at_string HR1.out x13_1 p173 q173
                  cases e173
                  replace p173 := eq_true p173
                  replace q173 := eq_true q173
                  go_wp2
                  repeat (go_quiet (fail); try go_wp2)
                  go_ret
                  exact ⟨by first | rfl | (simp; done) | (simp [*]; done), by repeat (first | exact Drawn0.refl _ | apply Drawn0.step)⟩
              · rw [if_neg c7] at H
                exact absurd H (by simp)
            · rw [if_neg c6] at H
              exact absurd H (by simp)
          · rw [if_neg c5] at H
            exact absurd H (by simp)
        · rw [if_neg c4] at H
          have c4b0 : decide (x13_1 < (l0.length : Int)) = false := decide_eq_false c4
          clear c4
          obtain rfl := Option.some.inj H
          go_wp2
          repeat (go_quiet (fail); try go_wp2)
          go_ret
          exact ⟨by first | rfl | (simp; done) | (simp [*]; done), by repeat (first | exact Drawn0.refl _ | apply Drawn0.step)⟩
  · rw [if_neg c3] at H
    have c3b0 : ((l0.length : Int) == (l1.length : Int)) = false := beq_eq_false_iff_ne.mpr c3
    have c3b1 : ((l0.length : Int) != (l1.length : Int)) = true := bne_iff_ne.mpr c3
    have c3b2 : (l0.length == l1.length) = false := by first | simpa using c3 | (simp at c3 ⊢; omega)
    obtain rfl := Option.some.inj H
    go_enter Tryd.func15, Tryd.ntmps15
    go_wp2
    repeat (go_quiet (fail); try go_wp2)
    go_ret
    exact ⟨by first | rfl | (simp; done) | (simp [*]; done), by repeat (first | exact Drawn0.refl _ | apply Drawn0.step)⟩

-- NOT PRINTED: function 4 (laws_FnProtoShallowRead)

end Go.Proofs.YthjeihbnlfnkcaaDoor.PFnProtoShallowRead
