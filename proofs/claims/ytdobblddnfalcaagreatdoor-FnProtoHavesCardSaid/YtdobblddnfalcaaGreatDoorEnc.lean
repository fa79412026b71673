/- Packet lines: an encoder over a bytes.Buffer writes a line. -/
import Derived.Test.YtdobblddnfalcaaGreatDoorPktH
import Derived.Test.YtdobblddnfalcaaGreatDoorBuf
import Derived.Lib.ConvBytes
namespace Go.Proofs.YtdobblddnfalcaaGreatDoor.enc
open Go.RowKit Go.Proofs.YtdobblddnfalcaaGreatDoorW.PrintWords Go.Proofs.YtdobblddnfalcaaGreatDoorW.PrintLast Go.Proofs.YtdobblddnfalcaaGreatDoorW.PrintMore Go.Proofs.YtdobblddnfalcaaGreatDoor.pkt Go.Proofs.YtdobblddnfalcaaGreatDoor.buf
set_option linter.unusedVariables false
set_option linter.unusedSimpArgs false
set_option maxHeartbeats 2000000
set_option maxRecDepth 100000
theorem hex_any (d : Int) (h0 : 0 ≤ d) (h1 : d < 16) (w : World) : Calls Tryz.prog 179 #[.int .u8 d] w fun e w' => e = .returned (.int .u8 (digit d)) ∧ w = w' := by
  by_cases h : d < 10
  · have HD := Aside0.mk (show digit d = 48 + d from if_pos h)
    have c0 : decide (d < 10) = true := decide_eq_true h
    go_enter Tryz.func179, Tryz.ntmps179
    go_wp2_with fail
    go_ret
    exact ⟨by rw [HD.out]; rfl, rfl⟩
  · have HD := Aside0.mk (show digit d = 87 + d from if_neg h)
    have c0 : decide (d < 10) = false := decide_eq_false h
    go_enter Tryz.func179, Tryz.ntmps179
    go_wp2_with fail
    go_ret
    exact ⟨by rw [HD.out]; rfl, rfl⟩
theorem nat_mask (a k : Nat) (hk : k = 12 ∨ k = 8 ∨ k = 4) : a &&& (15 * 2 ^ k) = a / 2 ^ k % 16 * 2 ^ k := by
  apply Nat.eq_of_testBit_eq
  intro i
  rw [show 15 * 2 ^ k = 15 <<< k by rw [Nat.shiftLeft_eq], ← Nat.shiftLeft_eq, Nat.testBit_and, Nat.testBit_shiftLeft, Nat.testBit_shiftLeft, show (16 : Nat) = 2 ^ 4 from rfl, Nat.testBit_mod_two_pow, Nat.testBit_div_two_pow, show (15 : Nat) = 2 ^ 4 - 1 from rfl, Nat.testBit_two_pow_sub_one]
  by_cases h : k ≤ i
  · rw [Nat.sub_add_cancel h]
    cases hb : a.testBit i <;> simp [h]
  · simp [h]
theorem and_mask (n : Int) (h0 : 0 ≤ n) (h1 : n < 65536) (k : Nat) (hk : k = 12 ∨ k = 8 ∨ k = 4) (m : Int) (hm : m = ((15 * 2 ^ k : Nat) : Int)) : Go.bits .and .i64 n m = n / ((2 ^ k : Nat) : Int) % 16 * ((2 ^ k : Nat) : Int) := by
  obtain ⟨a, rfl⟩ := Int.eq_ofNat_of_zero_le h0
  subst hm
  have hp : 15 * 2 ^ k < 65536 := by rcases hk with rfl | rfl | rfl <;> decide
  have h2 : (BitVec.ofInt 64 (a : Int)).toNat = a := by
    rw [BitVec.ofInt_natCast, BitVec.toNat_ofNat]; exact Nat.mod_eq_of_lt (by omega)
  have h3 : (BitVec.ofInt 64 ((15 * 2 ^ k : Nat) : Int)).toNat = 15 * 2 ^ k := by
    rw [BitVec.ofInt_natCast, BitVec.toNat_ofNat]; exact Nat.mod_eq_of_lt (by omega)
  show IntKind.i64.wrap ((BitVec.ofInt 64 (a : Int) &&& BitVec.ofInt 64 ((15 * 2 ^ k : Nat) : Int)).toNat : Int) = _
  rw [BitVec.toNat_and, h2, h3, nat_mask a k hk]
  have hb : a / 2 ^ k % 16 * 2 ^ k < 65536 := by
    have : a / 2 ^ k % 16 < 16 := Nat.mod_lt _ (by decide)
    have : a / 2 ^ k % 16 * 2 ^ k ≤ 15 * 2 ^ k := Nat.mul_le_mul_right _ (by omega)
    omega
  have hw : ∀ x : Nat, x < 65536 → IntKind.i64.wrap (x : Int) = (x : Int) := by
    intro x hx
    simp [IntKind.wrap, IntKind.bits, IntKind.signed]
    omega
  rw [hw _ hb]
  push_cast
  rfl
theorem hex16_any (n : Int) (h0 : 0 ≤ n) (h1 : n < 65536) (w : World) : Calls Tryz.prog 158 #[.int .i64 n] w fun e w' => ∃ g, w.heap.size ≤ g ∧ e = .returned (.slice (some ⟨g, 0, none⟩) 4 4) ∧ w'.heap[g]? = some (.cells (bv (hexs n)).toArray 146 (0, 0)) ∧ Below w.heap.size w w' := by
  obtain ⟨d3, e3⟩ : ∃ d, n / 4096 % 16 = d := ⟨_, rfl⟩
  obtain ⟨d2, e2⟩ : ∃ d, n / 256 % 16 = d := ⟨_, rfl⟩
  obtain ⟨d1, e1⟩ : ∃ d, n / 16 % 16 = d := ⟨_, rfl⟩
  obtain ⟨d0, e0⟩ : ∃ d, n % 16 = d := ⟨_, rfl⟩
  have b3 : 0 ≤ d3 ∧ d3 < 16 := by omega
  have b2 : 0 ≤ d2 ∧ d2 < 16 := by omega
  have b1 : 0 ≤ d1 ∧ d1 < 16 := by omega
  have b0 : 0 ≤ d0 ∧ d0 < 16 := by omega
  have HX := Aside0.mk (show hexs n = [digit d3, digit d2, digit d1, digit d0] by unfold hexs; rw [e3, e2, e1, e0])
  have a3 : Go.bits .and .i64 n 61440 = d3 * 4096 := by rw [and_mask n h0 h1 12 (.inl rfl) 61440 rfl, ← e3]; rfl
  have a2 : Go.bits .and .i64 n 3840 = d2 * 256 := by rw [and_mask n h0 h1 8 (.inr (.inl rfl)) 3840 rfl, ← e2]; rfl
  have a1 : Go.bits .and .i64 n 240 = d1 * 16 := by rw [and_mask n h0 h1 4 (.inr (.inr rfl)) 240 rfl, ← e1]; rfl
  have a0 : Go.bits .and .i64 n 15 = d0 := by rw [and15 n h0 h1, e0]
  have s3 : (d3 * 4096) / 4096 = d3 := Int.mul_ediv_cancel _ (by decide)
  have s2 : (d2 * 256) / 256 = d2 := Int.mul_ediv_cancel _ (by decide)
  have s1 : (d1 * 16) / 16 = d1 := Int.mul_ediv_cancel _ (by decide)
  have p3 := b3.1
  have p2 := b2.1
  have p1 := b1.1
  have p0 := b0.1
  have q3 := b3.2
  have q2 := b2.2
  have q1 := b1.2
  have q0 := b0.2
  have H3 := Aside0.mk (hex_any d3 p3 q3)
  have H2 := Aside0.mk (hex_any d2 p2 q2)
  have H1 := Aside0.mk (hex_any d1 p1 q1)
  have H0 := Aside0.mk (hex_any d0 p0 q0)
  clear e3 e2 e1 e0 b3 b2 b1 b0 h0 h1
  go_enter Tryz.func158, Tryz.ntmps158
  go_wp2_with fail
  refine (H3.out _).mono ?_
  rintro e w1 ⟨rfl, rfl⟩
  go_wp2_with fail
  refine (H2.out _).mono ?_
  rintro e w1 ⟨rfl, rfl⟩
  go_wp2_with fail
  refine (H1.out _).mono ?_
  rintro e w1 ⟨rfl, rfl⟩
  go_wp2_with fail
  refine (H0.out _).mono ?_
  rintro e w1 ⟨rfl, rfl⟩
  go_wp2_with fail
  go_ret
  refine ⟨w.heap.size, Nat.le_refl _, rfl, ?_, below_alloc (Below.refl _ _) _⟩
  rw [HX.out]
  exact heap_alloc_new w _
theorem buf_nil (a : Addr) (w : World) : (nilAhead 422 87 (.pointer (some a)) "Write").run Tryz.prog w = .ok (some false) w := by kernel_rfl
theorem buf_meth (a : Addr) (w : World) : (method 422 87 (.pointer (some a)) "Write").run Tryz.prog w = .ok (248, .pointer (some a)) w := by kernel_rfl
/-- An encoder over the buffer gb. -/
def IsEnc (w : World) (ge gb : Nat) : Prop := w.heap[ge]? = some (.cells #[.iface 87 (.pointer (some ⟨gb, 0, none⟩))] 174 (0, 0))
theorem IsEnc.below {w w' : World} {ge gb : Nat} (h : IsEnc w ge gb) (hb : Below w.heap.size w w') : IsEnc w' ge gb := blk_below h hb
theorem isB_ne {B gb ge : Nat} {bs : List Value} {w : World} (hI : IsB B gb bs w) (hE : IsEnc w ge gb) : ge ≠ gb := by
  intro e
  obtain ⟨_, v, lr, h, _⟩ := hI
  unfold IsEnc at hE
  rw [e, h] at hE
  injection hE with hE
  injection hE with _ hE _
  exact absurd hE (by decide)
theorem IsEnc.keeps {w w' : World} {B ge gb : Nat} {bs : List Value} (h : IsEnc w ge gb) (hI : IsB B gb bs w) (hk : Keeps gb w w') : IsEnc w' ge gb :=
  hk ge _ h (isB_ne hI h) (fun cs e => by injection e with _ e _; exact absurd e (by decide))
theorem IsB.below {B b : Nat} {bs : List Value} {w w' : World} (h : IsB B b bs w) (hb : Below w.heap.size w w') : IsB B b bs w' := by
  obtain ⟨h1, v, lr, h2, h3, h4⟩ := h
  refine ⟨h1, v, lr, blk_below h2 hb, ⟨h3.1, ?_⟩, h4⟩
  rcases h3.2 with h | ⟨g, cap, cur, e1, e2, e3, e4⟩
  · exact .inl h
  · exact .inr ⟨g, cap, cur, e1, e2, blk_below e3 hb, e4⟩
/-- Bytes that only a conversion made: marked, so nobody writes them. -/
structure Pay (w : World) (kp : Nat) (l : List Int) : Prop where
  blk : ∃ pc fz, w.heap[kp]? = some (.cells pc 5 fz) ∧ fz ≠ (0, 0) ∧ ∀ (j : Nat) (v : Value), (bv l)[j]? = some v → pc[j]? = some v
theorem Pay.below {w w' : World} {kp : Nat} {l : List Int} (h : Pay w kp l) (hb : Below w.heap.size w w') : Pay w' kp l := by
  obtain ⟨pc, fz, h1, h2, h3⟩ := h.blk
  exact ⟨pc, fz, blk_below h1 hb, h2, h3⟩
theorem Pay.keeps {w w' : World} {kp b : Nat} {l : List Int} (h : Pay w kp l) (hk : Keeps b w w') (hb : kp ≠ b) : Pay w' kp l := by
  obtain ⟨pc, fz, h1, h2, h3⟩ := h.blk
  exact ⟨pc, fz, hk kp _ h1 hb (fun cs e => by injection e with _ _ e; exact h2 e), h2, h3⟩
theorem Pay.src {w : World} {kp : Nat} {l : List Int} (h : Pay w kp l) (j : Nat) (v : Value) (hj : (bv l)[j]? = some v) : w.cell? ((⟨kp, 0, none⟩ : Addr).add j) = some v := by
  obtain ⟨pc, fz, h1, h2, h3⟩ := h.blk
  rw [Lib.addr_add, Nat.zero_add, cell_of_row w kp j pc 5 fz h1]
  exact h3 j v hj
theorem pay_ne {B gb kp : Nat} {bs : List Value} {w : World} {l : List Int} (hI : IsB B gb bs w) (hP : Pay w kp l) : kp ≠ gb := by
  intro e
  obtain ⟨_, v, lr, h, _⟩ := hI
  obtain ⟨pc, fz, h1, _⟩ := hP.blk
  rw [e, h] at h1
  injection h1 with h1
  injection h1 with _ h1 _
  exact absurd h1 (by decide)
theorem pay_bytes (w : World) (s : ByteArray) : Pay (Lib.bytesWorld w 5 s) w.heap.size (Go.Proofs.YtdobblddnfalcaaGreatDoorW.PrintWords.bytesOf s) := by
  refine ⟨⟨_, _, Lib.bytesWorld_at_new w 5 s, ?_, fun j v hj => ?_⟩⟩
  · intro e
    have := congrArg Prod.snd e
    exact absurd this (by simp)
  · unfold bv Go.Proofs.YtdobblddnfalcaaGreatDoorW.PrintWords.bytesOf at hj
    rw [List.map_map, List.getElem?_map] at hj
    obtain ⟨b, hb, rfl⟩ := Option.map_eq_some_iff.1 hj
    unfold Lib.bytesCells
    have hlt : j < s.data.toList.length := (List.getElem?_eq_some_iff.1 hb).1
    rw [Array.getElem?_append_left (by rw [Array.size_map]; simpa using hlt), Array.getElem?_map]
    rw [Array.getElem?_toList] at hb
    rw [hb]
    rfl
theorem hex_src {w : World} {g : Nat} {l : List Int} {t : TypeId} (h : w.heap[g]? = some (.cells (bv l).toArray t (0, 0))) : ∀ j v, (bv l)[j]? = some v → w.cell? ((⟨g, 0, none⟩ : Addr).add j) = some v := by
  intro j v hv
  rw [Lib.addr_add, Nat.zero_add, blk_cell h]
  simpa using hv
theorem bv_append (a b : List Int) : bv (a ++ b) = bv a ++ bv b := List.map_append
theorem bv_length (a : List Int) : (bv a).length = a.length := List.length_map _
theorem hexs_length (n : Int) : (hexs n).length = 4 := rfl
theorem encodeLine_any (B gb ge kp c : Nat) (bs l : List Int) (w : World) (hI : IsB B gb (bv bs) w) (hB : B ≤ w.heap.size) (hE : IsEnc w ge gb) (hP : Pay w kp l) (h0 : 0 < l.length) (h1 : l.length ≤ 65516) (hlim : bs.length ≤ 1000000000) :
    Calls Tryz.prog 127 #[.pointer (some ⟨ge, 0, none⟩), .slice (some ⟨kp, 0, none⟩) l.length c] w fun e w' => e = .returned .nilIface ∧ IsB B gb (bv (bs ++ pline l)) w' ∧ Below B w w' ∧ Keeps gb w w' := by
  obtain ⟨n, hn⟩ : ∃ n, l.length = n := ⟨_, rfl⟩
  rw [hn] at h0 h1
  have HN := Aside0.mk hn
  have H00 := Aside0.mk h0
  have HI := Aside0.mk hI
  have HB := Aside0.mk hB
  have HE := Aside0.mk hE
  have HP := Aside0.mk hP
  have HX := Aside0.mk (hex16_any ((n : Int) + 4) (by omega) (by omega))
  have HL := Aside0.mk (show pline l = hexs ((n : Int) + 4) ++ l by
    unfold pline
    rw [if_neg (fun e => by rw [e] at hn; simp at hn; omega), hn])
  have HLIM := Aside0.mk hlim
  have hn1 := buf_nil ⟨gb, 0, none⟩
  have hn2 := buf_meth ⟨gb, 0, none⟩
  have hc := (blk_cell hE 0).trans (show _ = some (Value.iface 87 (.pointer (some ⟨gb, 0, none⟩))) from rfl)
  have c0 : decide ((65516 : Int) < (n : Int)) = false := decide_eq_false (by omega)
  have c1 : ((n : Int) == 0) = false := by rw [beq_eq_false_iff_ne]; omega
  have c2 : decide (65516 < n) = false := decide_eq_false (by omega)
  have c3 : (n == 0) = false := by rw [beq_eq_false_iff_ne]; omega
  have b0 : (0 : Int) ≤ (n : Int) := by omega
  have b1 : (n : Int) ≤ 65516 := by omega
  rw [hn]
  clear hI hB hE hP hn hlim h0
  go_enter Tryz.func127, Tryz.ntmps127
  go_wp2_with fail
  go_region_with (first | (go_at_call 158; refine (HX.out _).mono ?_; rintro e w2 ⟨gl, hgl, rfl, hbl, hb2⟩; have HGL := Aside0.mk (show w.heap.size ≤ gl from hgl); have HBL := Aside0.mk hbl; have HB2 := Aside0.mk (show Below w.heap.size w w2 from below_step (below_drew1 (Below.refl _ _)) hb2); have hc2 := (blk_cell (HE.out.below HB2.out) 0).trans (show _ = some (Value.iface 87 (.pointer (some ⟨gb, 0, none⟩))) from rfl); clear hgl hbl hb2) | (go_at_call 248; refine (write_any B gb (bv bs) (bv (hexs ((n : Int) + 4))) ⟨gl, 0, none⟩ 4 4 w2 (IsB.below HI.out HB2.out) (Nat.le_trans HB.out HB2.out.size) (bv_one bs) rfl (by decide) (by have := HI.out.lt; have := HGL.out; show gl ≠ gb; omega) (hex_src HBL.out) (bv_one _) (by have := HLIM.out; rw [bv_length]; omega)).mono ?_; rintro e w3 ⟨rfl, hi3, hb3, hk3⟩; have HI3 := Aside0.mk (show IsB B gb (bv (bs ++ hexs ((n : Int) + 4))) w3 by rw [bv_append]; exact hi3); have HB3 := Aside0.mk ((HB2.out.mono HB.out).trans hb3); have HK3 := Aside0.mk ((Keeps.of_below HB2.out : Keeps gb w w2).trans hk3); clear hi3 hb3 hk3))
  all_goals have HP3 := Aside0.mk (HP.out.keeps HK3.out (pay_ne HI.out HP.out))
  all_goals have HE3 := Aside0.mk (HE.out.keeps HI.out HK3.out)
  all_goals have hc3 := (blk_cell HE3.out 0).trans (show _ = some (Value.iface 87 (.pointer (some ⟨gb, 0, none⟩))) from rfl)
  all_goals go_wp2_with fail
  all_goals refine (write_any B gb (bv (bs ++ hexs ((n : Int) + 4))) (bv l) ⟨kp, 0, none⟩ n c w3 HI3.out (Nat.le_trans HB.out HB3.out.size) (bv_one _) (by rw [bv_length, HN.out]) H00.out (pay_ne HI.out HP.out) HP3.out.src (bv_one _) (by have := HLIM.out; rw [bv_length, List.length_append, hexs_length]; omega)).mono ?_
  all_goals rintro e w4 ⟨rfl, hi4, hb4, hk4⟩
  all_goals have HI4 := Aside0.mk hi4
  all_goals have HB4 := Aside0.mk (HB3.out.trans hb4)
  all_goals have HK4 := Aside0.mk (HK3.out.trans hk4)
  all_goals clear hi4 hb4 hk4
  all_goals go_wp2_with fail
  all_goals go_ret
  all_goals exact ⟨rfl, by rw [HL.out, ← List.append_assoc, bv_append]; exact HI4.out, HB4.out, HK4.out⟩
end Go.Proofs.YtdobblddnfalcaaGreatDoor.enc
