/- Packet lines: an encoder over a bytes.Buffer: Encode of one payload, EncodeString of one text, Flush. -/
import Derived.Test.YtdobblddnfalcaaGreatDoorEnc
namespace Go.Proofs.YtdobblddnfalcaaGreatDoor.enc
open Go.RowKit Go.Proofs.YtdobblddnfalcaaGreatDoorW.PrintWords Go.Proofs.YtdobblddnfalcaaGreatDoorW.PrintLast Go.Proofs.YtdobblddnfalcaaGreatDoorW.PrintMore Go.Proofs.YtdobblddnfalcaaGreatDoor.pkt Go.Proofs.YtdobblddnfalcaaGreatDoor.buf
set_option linter.unusedVariables false
set_option linter.unusedSimpArgs false
set_option maxHeartbeats 2000000
set_option maxRecDepth 100000
/-- What an encoder has done that wrote these bytes. -/
structure Wrote (B gb : Nat) (bs xs : List Int) (w w' : World) : Prop where
  isB : IsB B gb (bv (bs ++ xs)) w'
  below : Below B w w'
  keeps : Keeps gb w w'
/-- What the callee must leave: the error is nil, the bytes are written. -/
def WPost (B gb : Nat) (bs xs : List Int) (w : World) (e : Ending) (w' : World) : Prop := e = .returned .nilIface ∧ Wrote B gb bs xs w w'
theorem newEnc_any (w : World) (gb : Nat) : Calls Tryz.prog 73 #[.iface 87 (.pointer (some ⟨gb, 0, none⟩))] w fun e w' => ∃ ge, w.heap.size ≤ ge ∧ e = .returned (.pointer (some ⟨ge, 0, none⟩)) ∧ IsEnc w' ge gb ∧ Below w.heap.size w w' := by
  go_enter Tryz.func73, Tryz.ntmps73
  go_wp2
  go_ret
  exact ⟨w.heap.size, Nat.le_refl _, rfl, blk_new w _, below_alloc (Below.refl _ _) _⟩
theorem encode_any (B gb ge gp kp c : Nat) (bs l : List Int) (w : World) (hI : IsB B gb (bv bs) w) (hB : B ≤ w.heap.size) (hE : IsEnc w ge gb) (hP : Pay w kp l) (h0 : 0 < l.length) (h1 : l.length ≤ 65516) (hlim : bs.length ≤ 1000000000) (hx : w.cell? ⟨gp, 0, none⟩ = some (.slice (some ⟨kp, 0, none⟩) l.length c)) :
    Calls Tryz.prog 94 #[.pointer (some ⟨ge, 0, none⟩), .slice (some ⟨gp, 0, none⟩) 1 1] w (WPost B gb bs (pline l) w) := by
  obtain ⟨n, hn⟩ : ∃ n, l.length = n := ⟨_, rfl⟩
  have HLINE := Aside0.mk (encodeLine_any B gb ge kp c bs l w hI hB hE hP h0 h1 hlim)
  rw [hn] at hx HLINE
  have HX := Aside0.mk hx
  clear hI hB hE hP h0 h1 hlim hx hn
  go_enter Tryz.func94, Tryz.ntmps94
  go_wp2
  go_loopg [10] 2 (fun kq v10 w' => ∃ x : Int, v10 = .int .i64 x ∧ Aside0 (x = 0 ∧ kq = 2 ∧ w = w' ∨ x = 1 ∧ kq = 1 ∧ Wrote B gb bs (pline l) w w'))
  case atStart => exact ⟨0, rfl, ⟨.inl ⟨rfl, rfl, rfl⟩⟩⟩
  case round =>
    obtain ⟨x, rfl, HR⟩ := hrel
    cases gk with
    | zero => exfalso; rcases HR.out with ⟨_, h, _⟩ | ⟨_, h, _⟩ <;> cases h
    | succ k1 =>
      rcases HR.out with ⟨hx0, hk, hw⟩ | ⟨hx0, hk, hw⟩
      · subst hx0
        subst hw
        have hx := HX.out
        have HK := Aside0.mk hk
        clear hk
        go_wp2_with fail
        refine HLINE.out.mono ?_
        rintro e w1 ⟨rfl, hi, hb, hk⟩
        have HW := Aside0.mk (show Wrote B gb bs (pline l) w w1 from ⟨hi, hb, hk⟩)
        clear hi hb hk hx
        go_wp2_with fail
        go_roundg k1
        case measure => omega
        case rel => exact ⟨1, rfl, ⟨.inr ⟨rfl, by have := HK.out; omega, HW.out⟩⟩⟩
      · subst hx0
        have HW := Aside0.mk hw
        clear hw hk
        go_wp2_with fail
        go_ret
        exact ⟨rfl, HW.out⟩
theorem below_of {B : Nat} {w w1 : World} (hB : B ≤ w.heap.size) (h : Below w.heap.size w w1) : Below B w w1 := h.mono hB
theorem Wrote.after {B gb : Nat} {bs xs : List Int} {w w1 w2 : World} (hB : B ≤ w.heap.size) (h : Below w.heap.size w w1) (k : Wrote B gb bs xs w1 w2) : Wrote B gb bs xs w w2 :=
  ⟨k.isB, (h.mono hB).trans k.below, (Keeps.of_below h).trans k.keeps⟩
theorem encodeString_any (B gb ge gq : Nat) (bs : List Int) (s : ByteArray) (w : World) (hI : IsB B gb (bv bs) w) (hB : B ≤ w.heap.size) (hE : IsEnc w ge gb) (h0 : 0 < s.size) (h1 : s.size ≤ 65516) (hlim : bs.length ≤ 1000000000) (hx : w.cell? ⟨gq, 0, none⟩ = some (.string s)) :
    Calls Tryz.prog 76 #[.pointer (some ⟨ge, 0, none⟩), .slice (some ⟨gq, 0, none⟩) 1 1] w (WPost B gb bs (pline (Go.Proofs.YtdobblddnfalcaaGreatDoorW.PrintWords.bytesOf s)) w) := by
  obtain ⟨l, hl⟩ : ∃ l, Go.Proofs.YtdobblddnfalcaaGreatDoorW.PrintWords.bytesOf s = l := ⟨_, rfl⟩
  have hlen : l.length = s.size := by rw [← hl]; exact bytesOf_length s
  have hpay := pay_bytes w s
  rw [hl] at hpay ⊢
  have hbw := bytes_below (Below.refl w.heap.size w) (Nat.le_refl _) 5 s
  have hcv := Lib.run_convert_string_bytes (P := Tryz.prog) w 9 32 5 s (u := .string) Tryz.underlying9 Tryz.underlying32 Tryz.underlying5
  obtain ⟨c, hc⟩ : ∃ c, grownCap w s.size 0 5 = c := ⟨_, rfl⟩
  obtain ⟨W1, hW1⟩ : ∃ W1, Lib.bytesWorld w 5 s = W1 := ⟨_, rfl⟩
  rw [hc, hW1] at hcv
  rw [hW1] at hbw hpay
  have hb2 := below_alloc hbw (.cells #[.slice (some ⟨w.heap.size, 0, none⟩) s.size c] 32 (0, 0))
  have hnew := heap_alloc_new W1 (.cells #[.slice (some ⟨w.heap.size, 0, none⟩) s.size c] 32 (0, 0))
  obtain ⟨W2, hW2⟩ : ∃ W2, W1.alloc (.cells #[.slice (some ⟨w.heap.size, 0, none⟩) s.size c] 32 (0, 0)) = W2 := ⟨_, rfl⟩
  rw [hW2] at hb2 hnew
  have hpay2 := hpay.below (w' := W2) (by rw [← hW2]; exact below_alloc (Below.refl _ _) _)
  have HENC := Aside0.mk (encode_any B gb ge W1.heap.size w.heap.size c bs l W2 (IsB.below hI hb2) (Nat.le_trans hB hb2.size) (hE.below hb2) hpay2 (by omega) (by omega) hlim (by rw [blk_cell hnew]; rw [hlen]; rfl))
  have HB2 := Aside0.mk hb2
  have HB := Aside0.mk hB
  have HX := Aside0.mk hx
  have HW2 := Aside0.mk hW2
  clear hI hB hE h0 h1 hlim hx hl hlen hpay hbw hc hW1 hb2 hnew hW2 hpay2
  go_enter Tryz.func76, Tryz.ntmps76
  go_wp2
  go_loopg [10] 2 (fun kq v10 w' => ∃ x : Int, v10 = .int .i64 x ∧ Aside0 (x = 0 ∧ kq = 2 ∧ w = w' ∨ x = 1 ∧ kq = 1 ∧ Wrote B gb bs (pline l) w w'))
  case atStart => exact ⟨0, rfl, ⟨.inl ⟨rfl, rfl, rfl⟩⟩⟩
  case round =>
    obtain ⟨x, rfl, HR⟩ := hrel
    cases gk with
    | zero => exfalso; rcases HR.out with ⟨_, h, _⟩ | ⟨_, h, _⟩ <;> cases h
    | succ k1 =>
      rcases HR.out with ⟨hx0, hk, hw⟩ | ⟨hx0, hk, hw⟩
      · subst hx0
        subst hw
        have hx := HX.out
        have HK := Aside0.mk hk
        clear hk
        go_wp2_with fail
        rw [HW2.out]
        refine HENC.out.mono ?_
        rintro e w1 ⟨rfl, hw1⟩
        have HW := Aside0.mk (Wrote.after HB.out HB2.out hw1)
        clear hw1 hx
        go_wp2_with fail
        go_roundg k1
        case measure => omega
        case rel => exact ⟨1, rfl, ⟨.inr ⟨rfl, by have := HK.out; omega, HW.out⟩⟩⟩
      · subst hx0
        have HW := Aside0.mk hw
        clear hw hk
        go_wp2_with fail
        go_ret
        exact ⟨rfl, HW.out⟩
/-- The flush line's bytes. -/
def fl : List Int := [48, 48, 48, 48]
theorem flushPkt_any (w : World) : Calls Tryz.prog 95 #[] w fun e w' => ∃ gl, w.heap.size ≤ gl ∧ e = .returned (.slice (some ⟨gl, 0, none⟩) 4 4) ∧ w'.heap[gl]? = some (.cells (bv fl).toArray 5 (0, 0)) ∧ Below w.heap.size w w' := by
  go_enter Tryz.func95, Tryz.ntmps95
  go_wp2
  go_ret
  exact ⟨w.heap.size, Nat.le_refl _, rfl, blk_new w _, below_alloc (Below.refl _ _) _⟩
theorem flush_any (w : World) (B gb ge : Nat) (bs : List Int) (hI : IsB B gb (bv bs) w) (hB : B ≤ w.heap.size) (hE : IsEnc w ge gb) (hlim : bs.length ≤ 1000000000) :
    Calls Tryz.prog 78 #[.pointer (some ⟨ge, 0, none⟩)] w (WPost B gb bs fl w) := by
  have HI := Aside0.mk hI
  have HE := Aside0.mk hE
  have HB := Aside0.mk hB
  have HLIM := Aside0.mk hlim
  have hn1 := buf_nil ⟨gb, 0, none⟩
  have hn2 := buf_meth ⟨gb, 0, none⟩
  have hc := (blk_cell hE 0).trans (show _ = some (Value.iface 87 (.pointer (some ⟨gb, 0, none⟩))) from rfl)
  clear hI hE hB hlim
  go_enter Tryz.func78, Tryz.ntmps78
  go_wp2_with fail
  go_region_with (first | (go_at_call 95; refine (flushPkt_any _).mono ?_; rintro e w2 ⟨gl, hgl, rfl, hbl, hb2⟩; have HGL := Aside0.mk (show w.heap.size ≤ gl from hgl); have HBL := Aside0.mk hbl; have HB2 := Aside0.mk (show Below w.heap.size w w2 from below_step (below_drew1 (Below.refl _ _)) hb2); have hc2 := (blk_cell (HE.out.below HB2.out) 0).trans (show _ = some (Value.iface 87 (.pointer (some ⟨gb, 0, none⟩))) from rfl); clear hgl hbl hb2) | (go_at_call 248; refine (write_any B gb (bv bs) (bv fl) ⟨gl, 0, none⟩ 4 4 w2 (IsB.below HI.out HB2.out) (Nat.le_trans HB.out HB2.out.size) (bv_one bs) rfl (by decide) (by have := HI.out.lt; have := HGL.out; show gl ≠ gb; omega) (hex_src HBL.out) (bv_one _) (by have := HLIM.out; rw [bv_length]; omega)).mono ?_; rintro e w3 ⟨rfl, hi3, hb3, hk3⟩; have HI3 := Aside0.mk (show IsB B gb (bv (bs ++ fl)) w3 by rw [bv_append]; exact hi3); have HB3 := Aside0.mk ((HB2.out.mono HB.out).trans hb3); have HK3 := Aside0.mk ((Keeps.of_below HB2.out : Keeps gb w w2).trans hk3); clear hi3 hb3 hk3))
  all_goals go_wp2_with fail
  all_goals go_ret
  all_goals exact ⟨rfl, HI3.out, HB3.out, HK3.out⟩
end Go.Proofs.YtdobblddnfalcaaGreatDoor.enc
