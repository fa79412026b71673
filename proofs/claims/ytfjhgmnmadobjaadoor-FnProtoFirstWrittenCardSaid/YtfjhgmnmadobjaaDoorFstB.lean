/- The first line of a conversation: GitProtoRequest.Encode. -/
import Derived.Test.YtfjhgmnmadobjaaDoorFstA
namespace Go.Proofs.YtfjhgmnmadobjaaDoor.fst
open Go.RowKit Go.Proofs.YtfjhgmnmadobjaaDoorW.PrintWords Go.Proofs.YtfjhgmnmadobjaaDoorW.PrintLast Go.Proofs.YtfjhgmnmadobjaaDoorW.PrintMore Go.Proofs.YtfjhgmnmadobjaaDoor.PFnProtoFirstWritten Go.Proofs.YtfjhgmnmadobjaaDoor.pkt Go.Proofs.YtfjhgmnmadobjaaDoor.buf Go.Proofs.YtfjhgmnmadobjaaDoor.enc
set_option linter.unusedVariables false
set_option linter.unusedSimpArgs false
set_option maxHeartbeats 2000000
set_option maxRecDepth 100000
/-- A request in a block of its own. -/
def req (c p h : ByteArray) (A : Option Addr) (n cc : Nat) : Array Value := #[.string c, .string p, .string h, .slice A n cc]
theorem validate_any (w : World) (gx : Nat) (c p h : ByteArray) (A : Option Addr) (n cc : Nat) (hc : c.size ≠ 0) (hp : p.size ≠ 0) (hG : w.heap[gx]? = some (.cells (req c p h A n cc) 41 (0, 0))) :
    Calls Tryd.prog 29 #[.pointer (some ⟨gx, 0, none⟩)] w fun e w' => e = .returned .nilIface ∧ w = w' := by
  have q0 := (blk_cell hG 0).trans (show _ = some (Value.string c) from rfl)
  have q1 := (blk_cell hG 1).trans (show _ = some (Value.string p) from rfl)
  obtain ⟨i1, i2, i3⟩ := not_empty hc
  obtain ⟨j1, j2, j3⟩ := not_empty hp
  clear hG hc hp
  go_enter Tryd.func29, Tryd.ntmps29
  go_wp2_with fail
  go_ret
  exact ⟨rfl, rfl⟩
theorem enc_text (B gb ge m : Nat) (bs : List Int) (s : ByteArray) (W : World) (hI : IsB B gb (bv bs) W) (hB : B ≤ W.heap.size) (hE : IsEnc W ge gb) (hm : s.size = m) (h0 : 0 < s.size) (h1 : s.size ≤ 65516) (hlim : bs.length ≤ 1000000000) :
    Calls Tryd.prog 31 #[.pointer (some ⟨ge, 0, none⟩), .slice (some ⟨(Lib.bytesWorld W 5 s).heap.size, 0, none⟩) 1 1] ((Lib.bytesWorld W 5 s).alloc (.cells #[.slice (some ⟨W.heap.size, 0, none⟩) m (grownCap W m 0 5)] 26 (0, 0))) (WPost B gb bs (pline (Go.Proofs.YtfjhgmnmadobjaaDoorW.PrintWords.bytesOf s)) W) := by
  subst hm
  obtain ⟨l, hl⟩ : ∃ l, Go.Proofs.YtfjhgmnmadobjaaDoorW.PrintWords.bytesOf s = l := ⟨_, rfl⟩
  have hlen : l.length = s.size := by rw [← hl]; exact bytesOf_length s
  have hpay := pay_bytes W s
  rw [hl] at hpay ⊢
  have hbw := bytes_below (Below.refl W.heap.size W) (Nat.le_refl _) 5 s
  obtain ⟨W1, hW1⟩ : ∃ W1, Lib.bytesWorld W 5 s = W1 := ⟨_, rfl⟩
  rw [hW1] at hbw hpay ⊢
  have hb2 := below_alloc hbw (.cells #[.slice (some ⟨W.heap.size, 0, none⟩) s.size (grownCap W s.size 0 5)] 26 (0, 0))
  have hnew := heap_alloc_new W1 (.cells #[.slice (some ⟨W.heap.size, 0, none⟩) s.size (grownCap W s.size 0 5)] 26 (0, 0))
  obtain ⟨W2, hW2⟩ : ∃ W2, W1.alloc (.cells #[.slice (some ⟨W.heap.size, 0, none⟩) s.size (grownCap W s.size 0 5)] 26 (0, 0)) = W2 := ⟨_, rfl⟩
  rw [hW2] at hb2 hnew ⊢
  have hpay2 := hpay.below (w' := W2) (by rw [← hW2]; exact below_alloc (Below.refl _ _) _)
  refine (encode_any B gb ge W1.heap.size W.heap.size (grownCap W s.size 0 5) bs l W2 (IsB.below hI hb2) (Nat.le_trans hB hb2.size) (hE.below hb2) hpay2 (by omega) (by omega) hlim (by rw [blk_cell hnew]; rw [hlen]; rfl)).mono ?_
  rintro e w' ⟨rfl, h⟩
  exact ⟨rfl, Wrote.after hB hb2 h⟩
theorem encReq_00 (w : World) (B gx gb : Nat) (c p h : ByteArray) (A : Option Addr) (n cc : Nat) (l : List ByteArray) (ok : FstOk c p h l) (hI : IsB B gb (bv []) w) (hB : B ≤ w.heap.size) (hG : w.heap[gx]? = some (.cells (req c p h A n cc) 41 (0, 0))) (hC : Kd.string.C w A l.length l) (hn : l.length = n) (hcc : n ≤ cc) (hl0 : l = []) (hh : h = ⟨#[]⟩) :
    Calls Tryd.prog 17 #[.pointer (some ⟨gx, 0, none⟩), .iface 49 (.pointer (some ⟨gb, 0, none⟩))] w (WPost B gb [] (pline (Go.Proofs.YtfjhgmnmadobjaaDoorW.PrintWords.bytesOf (fstT c p h l))) w) := by
  obtain ⟨k1, k2⟩ := ok.c
  obtain ⟨k3, k4⟩ := ok.p
  have k5 := ok.h
  have k6 := ok.n
  have HSZ := Aside0.mk (fstT_size ok)
  have HVAL := Aside0.mk (validate_any w gx c p h A n cc (by omega) (by omega) hG)
  have HI := Aside0.mk hI
  have HB := Aside0.mk hB
  have HG := Aside0.mk hG
  subst hh
  clear k5
  have r0 : c.size + 1 ≤ 9223372036854775807 := by omega
  have r0a := eq_true r0
  have r0b := decide_eq_true r0
  have r0c := eq_false (Nat.not_lt.2 r0)
  have r1 : c.size + 1 + p.size ≤ 9223372036854775807 := by omega
  have r1a := eq_true r1
  have r1b := decide_eq_true r1
  have r1c := eq_false (Nat.not_lt.2 r1)
  have r2 : c.size + 1 + p.size + 1 ≤ 9223372036854775807 := by omega
  have r2a := eq_true r2
  have r2b := decide_eq_true r2
  have r2c := eq_false (Nat.not_lt.2 r2)
  subst hl0
  obtain rfl : n = 0 := hn.symm
  have HTT := Aside0.mk (show headT c p = fstT c p ⟨#[]⟩ [] from by unfold fstT withExt; rw [if_pos rfl, withHost_no])
  unfold headT at HTT
  clear ok hC hn hcc hI hB hG k1 k2 k3 k4 k6
  go_enter Tryd.func17, Tryd.ntmps17
  go_wp2_with fail
  refine HVAL.out.mono ?_
  rintro e w1 ⟨rfl, rfl⟩
  go_wp2_with fail
  refine (newEnc_any _ gb).mono ?_
  rintro e w1 ⟨ge, hge, rfl, hE1, hb1⟩
  have HE1 := Aside0.mk hE1
  have HB1 := Aside0.mk hb1
  have HG1 := Aside0.mk (blk_below HG.out hb1)
  clear hge hE1 hb1 HVAL
  have q0 := (blk_cell HG1.out 0).trans (show _ = some (Value.string c) from rfl)
  have q1 := (blk_cell HG1.out 1).trans (show _ = some (Value.string p) from rfl)
  have q2 := (blk_cell HG1.out 2).trans (show _ = some (Value.string ⟨#[]⟩) from rfl)
  have q3 := (blk_cell HG1.out 3).trans (show _ = some (Value.slice A 0 cc) from rfl)
  go_wp2_with fail
  go_quiet (fail)
  have HBW := Aside0.mk (show Below w.heap.size w (w1.drewN nq) from pw_below_drewN HB1.out _)
  have HIW := Aside0.mk (IsB.below HI.out HBW.out)
  have HEW := Aside0.mk (show IsEnc (w1.drewN nq) ge gb from HE1.out)
  obtain ⟨W, hW⟩ : ∃ W, w1.drewN nq = W := ⟨_, rfl⟩
  have z2 : W.cell? ⟨gx, 2, none⟩ = some (.string ⟨#[]⟩) := by rw [← hW]; exact q2
  have z3 : W.cell? ⟨gx, 3, none⟩ = some (.slice A 0 cc) := by rw [← hW]; exact q3
  rw [hW] at HBW HIW HEW ⊢
  clear hW q0 q1 q2 q3 HG1 HE1 HB1
  have hcv := fun (s : ByteArray) => Lib.run_convert_string_bytes (P := Tryd.prog) W 9 26 5 s (u := .string) Tryd.underlying9 Tryd.underlying26 Tryd.underlying5
  go_wp2_with fail
  refine (enc_text B gb ge _ [] _ W HIW.out (Nat.le_trans HB.out HBW.out.size) HEW.out (by simp only [ByteArray.size_append]; rfl) (by rw [HTT.out]; exact HSZ.out.1) (by rw [HTT.out]; have := HSZ.out.2; omega) (by decide)).mono ?_
  rintro e w2 hq
  rw [HTT.out] at hq
  obtain ⟨rfl, hq⟩ := hq
  have HQ := Aside0.mk (Wrote.after HB.out HBW.out hq)
  clear hq hcv
  go_wp2_with fail
  go_ret
  exact ⟨rfl, HQ.out⟩
theorem encReq_01 (w : World) (B gx gb : Nat) (c p h : ByteArray) (A : Option Addr) (n cc : Nat) (l : List ByteArray) (ok : FstOk c p h l) (hI : IsB B gb (bv []) w) (hB : B ≤ w.heap.size) (hG : w.heap[gx]? = some (.cells (req c p h A n cc) 41 (0, 0))) (hC : Kd.string.C w A l.length l) (hn : l.length = n) (hcc : n ≤ cc) (hl0 : l ≠ []) (hh : h = ⟨#[]⟩) :
    Calls Tryd.prog 17 #[.pointer (some ⟨gx, 0, none⟩), .iface 49 (.pointer (some ⟨gb, 0, none⟩))] w (WPost B gb [] (pline (Go.Proofs.YtfjhgmnmadobjaaDoorW.PrintWords.bytesOf (fstT c p h l))) w) := by
  obtain ⟨k1, k2⟩ := ok.c
  obtain ⟨k3, k4⟩ := ok.p
  have k5 := ok.h
  have k6 := ok.n
  have HSZ := Aside0.mk (fstT_size ok)
  have HVAL := Aside0.mk (validate_any w gx c p h A n cc (by omega) (by omega) hG)
  have HI := Aside0.mk hI
  have HB := Aside0.mk hB
  have HG := Aside0.mk hG
  subst hh
  clear k5
  have r0 : c.size + 1 ≤ 9223372036854775807 := by omega
  have r0a := eq_true r0
  have r0b := decide_eq_true r0
  have r0c := eq_false (Nat.not_lt.2 r0)
  have r1 : c.size + 1 + p.size ≤ 9223372036854775807 := by omega
  have r1a := eq_true r1
  have r1b := decide_eq_true r1
  have r1c := eq_false (Nat.not_lt.2 r1)
  have r2 : c.size + 1 + p.size + 1 ≤ 9223372036854775807 := by omega
  have r2a := eq_true r2
  have r2b := decide_eq_true r2
  have r2c := eq_false (Nat.not_lt.2 r2)
  have x0 : c.size + 1 + p.size + 1 + 1 ≤ 9223372036854775807 := by omega
  have x0a := eq_true x0
  have x0b := decide_eq_true x0
  have x0c := eq_false (Nat.not_lt.2 x0)
  have HC := Aside0.mk hC
  have HOK := Aside0.mk ok
  have HN := Aside0.mk hn
  have hpos : 0 < n := by rw [← hn]; exact List.length_pos_iff.2 hl0
  have HTT := Aside0.mk (show ext ((headT c p) ++ (⟨#[0]⟩ : ByteArray)) l = fstT c p ⟨#[]⟩ l from by unfold fstT withExt; rw [if_neg hl0, withHost_no])
  obtain ⟨R, hR⟩ : ∃ R, (headT c p) ++ (⟨#[0]⟩ : ByteArray) = R := ⟨_, rfl⟩
  have HRS := Aside0.mk (show R.size ≤ 300 from by rw [← hR]; simp only [ByteArray.size_append, headT_size]; show _ + 1 ≤ _; omega)
  rw [hR] at HTT
  have HR := Aside0.mk hR
  unfold headT at HR
  have HTK := Aside0.mk (fun k (hk : k ≤ n) => show (ext R (l.take k)).size ≤ 1000 from by
    have h1 := ext_size R (l.take k) (fun e he => ok.l e (List.mem_of_mem_take he))
    have h2 := HRS.out
    have h3 : (l.take k).length ≤ 9 := by rw [List.length_take]; omega
    omega)
  have c0 : decide ((0 : Int) < (n : Int)) = true := decide_eq_true (by omega)
  have c1 : decide (0 < n) = true := decide_eq_true hpos
  clear ok hC hn hI hB hG k1 k2 k3 k4 hR hl0
  go_enter Tryd.func17, Tryd.ntmps17
  go_wp2_with fail
  refine HVAL.out.mono ?_
  rintro e w1 ⟨rfl, rfl⟩
  go_wp2_with fail
  refine (newEnc_any _ gb).mono ?_
  rintro e w1 ⟨ge, hge, rfl, hE1, hb1⟩
  have HE1 := Aside0.mk hE1
  have HB1 := Aside0.mk hb1
  have HG1 := Aside0.mk (blk_below HG.out hb1)
  clear hge hE1 hb1 HVAL
  have q0 := (blk_cell HG1.out 0).trans (show _ = some (Value.string c) from rfl)
  have q1 := (blk_cell HG1.out 1).trans (show _ = some (Value.string p) from rfl)
  have q2 := (blk_cell HG1.out 2).trans (show _ = some (Value.string ⟨#[]⟩) from rfl)
  have q3 := (blk_cell HG1.out 3).trans (show _ = some (Value.slice A n cc) from rfl)
  go_wp2_with fail
  go_quiet (fail)
  have HBW := Aside0.mk (show Below w.heap.size w (w1.drewN nq) from pw_below_drewN HB1.out _)
  have HIW := Aside0.mk (IsB.below HI.out HBW.out)
  have HEW := Aside0.mk (show IsEnc (w1.drewN nq) ge gb from HE1.out)
  obtain ⟨W, hW⟩ : ∃ W, w1.drewN nq = W := ⟨_, rfl⟩
  have z2 : W.cell? ⟨gx, 2, none⟩ = some (.string ⟨#[]⟩) := by rw [← hW]; exact q2
  have z3 : W.cell? ⟨gx, 3, none⟩ = some (.slice A n cc) := by rw [← hW]; exact q3
  rw [hW] at HBW HIW HEW ⊢
  clear hW q0 q1 q2 q3 HG1 HE1 HB1
  go_wp2_with fail
  go_loopg [7, 57] (n + 1) (fun kq v7 v57 w' => ∃ (k : Nat) (s : ByteArray), v7 = .string s ∧ v57 = .int .i64 (k : Int) ∧ k ≤ n ∧ Aside0 (kq + k = n + 1) ∧ Aside0 (s = ext R (l.take k)) ∧ Aside0 (W = w'))
  case atStart => exact ⟨0, _, rfl, rfl, Nat.zero_le _, ⟨by omega⟩, ⟨by rw [List.take_zero, ext_nil]; exact HR.out⟩, ⟨rfl⟩⟩
  case round =>
    obtain ⟨k, s, rfl, rfl, hk, HK, HS, HW⟩ := hrel
    obtain rfl := HW.out
    have hs : s.size ≤ 1000 := by rw [HS.out]; exact HTK.out k hk
    cases gk with
    | zero => exact absurd HK.out (by omega)
    | succ m =>
      by_cases hlt : k < n
      · have hkl : k < l.length := by rw [HN.out]; exact hlt
        have p1 : (0 : Int) ≤ (k : Int) := by omega
        have p2 : (k : Int) < (n : Int) := by omega
        obtain ⟨ad, e, hx⟩ := Kd.at_string (Kd.C_below HC.out HBW.out) (k : Int) p1 (by omega)
        cases e
        rw [rdOf_list l k hkl, Int.toNat_natCast] at hx
        obtain ⟨a, ha⟩ : ∃ a, l[k] = a := ⟨_, rfl⟩
        have hasz : a.size ≤ 60 := by rw [← ha]; exact HOK.out.l _ (List.getElem_mem hkl)
        rw [ha] at hx
        have HNX := Aside0.mk (show s ++ (a ++ (⟨#[0]⟩ : ByteArray)) = ext R (l.take (k + 1)) from by rw [ext_take R l k hkl, HS.out, ha])
        have c2 : decide ((k : Int) < (n : Int)) = true := decide_eq_true p2
        have c3 : decide (k < n) = true := decide_eq_true hlt
        have z1 : a.size + 1 ≤ 9223372036854775807 := by omega
        have z1a := eq_true z1
        have z4 : s.size + (a.size + 1) ≤ 9223372036854775807 := by omega
        have z4a := eq_true z4
        clear ha
        go_wp2_with fail
        go_roundg m
        case measure => omega
        case rel => exact ⟨k + 1, _, rfl, by go_num, by omega, ⟨by have := HK.out; omega⟩, HNX, ⟨rfl⟩⟩
      · obtain rfl : k = n := by omega
        have c2 : decide ((k : Int) < (k : Int)) = false := decide_eq_false (by omega)
        have HTT2 := Aside0.mk (show s = fstT c p ⟨#[]⟩ l from by rw [HS.out, List.take_of_length_le (by rw [HN.out]; exact Nat.le_refl _), HTT.out])
        have hcv := Lib.run_convert_string_bytes (P := Tryd.prog) W 9 26 5 s (u := .string) Tryd.underlying9 Tryd.underlying26 Tryd.underlying5
        go_wp2_with fail
        refine (enc_text B gb ge _ [] _ W HIW.out (Nat.le_trans HB.out HBW.out.size) HEW.out rfl (by rw [HTT2.out]; exact HSZ.out.1) (by omega) (by decide)).mono ?_
        rintro e w2 hq
        rw [HTT2.out] at hq
        obtain ⟨rfl, hq⟩ := hq
        have HQ := Aside0.mk (Wrote.after HB.out HBW.out hq)
        clear hq hcv
        go_wp2_with fail
        go_ret
        exact ⟨rfl, HQ.out⟩
theorem encReq_10 (w : World) (B gx gb : Nat) (c p h : ByteArray) (A : Option Addr) (n cc : Nat) (l : List ByteArray) (ok : FstOk c p h l) (hI : IsB B gb (bv []) w) (hB : B ≤ w.heap.size) (hG : w.heap[gx]? = some (.cells (req c p h A n cc) 41 (0, 0))) (hC : Kd.string.C w A l.length l) (hn : l.length = n) (hcc : n ≤ cc) (hl0 : l = []) (hh : h.size ≠ 0) :
    Calls Tryd.prog 17 #[.pointer (some ⟨gx, 0, none⟩), .iface 49 (.pointer (some ⟨gb, 0, none⟩))] w (WPost B gb [] (pline (Go.Proofs.YtfjhgmnmadobjaaDoorW.PrintWords.bytesOf (fstT c p h l))) w) := by
  obtain ⟨k1, k2⟩ := ok.c
  obtain ⟨k3, k4⟩ := ok.p
  have k5 := ok.h
  have k6 := ok.n
  have HSZ := Aside0.mk (fstT_size ok)
  have HVAL := Aside0.mk (validate_any w gx c p h A n cc (by omega) (by omega) hG)
  have HI := Aside0.mk hI
  have HB := Aside0.mk hB
  have HG := Aside0.mk hG
  have r0 : c.size + 1 ≤ 9223372036854775807 := by omega
  have r0a := eq_true r0
  have r0b := decide_eq_true r0
  have r0c := eq_false (Nat.not_lt.2 r0)
  have r1 : c.size + 1 + p.size ≤ 9223372036854775807 := by omega
  have r1a := eq_true r1
  have r1b := decide_eq_true r1
  have r1c := eq_false (Nat.not_lt.2 r1)
  have r2 : c.size + 1 + p.size + 1 ≤ 9223372036854775807 := by omega
  have r2a := eq_true r2
  have r2b := decide_eq_true r2
  have r2c := eq_false (Nat.not_lt.2 r2)
  have r3 : 5 + h.size ≤ 9223372036854775807 := by omega
  have r3a := eq_true r3
  have r3b := decide_eq_true r3
  have r3c := eq_false (Nat.not_lt.2 r3)
  have r4 : 5 + h.size + 1 ≤ 9223372036854775807 := by omega
  have r4a := eq_true r4
  have r4b := decide_eq_true r4
  have r4c := eq_false (Nat.not_lt.2 r4)
  have r5 : c.size + 1 + p.size + 1 + (5 + h.size + 1) ≤ 9223372036854775807 := by omega
  have r5a := eq_true r5
  have r5b := decide_eq_true r5
  have r5c := eq_false (Nat.not_lt.2 r5)
  obtain ⟨i1, i2, i3⟩ := not_empty hh
  subst hl0
  obtain rfl : n = 0 := hn.symm
  have HTT := Aside0.mk (show headT c p ++ hostT h = fstT c p h [] from by unfold fstT withExt; rw [if_pos rfl, withHost_yes hh])
  unfold headT hostT at HTT
  clear ok hC hn hcc hI hB hG k1 k2 k3 k4 k5 hh k6
  go_enter Tryd.func17, Tryd.ntmps17
  go_wp2_with fail
  refine HVAL.out.mono ?_
  rintro e w1 ⟨rfl, rfl⟩
  go_wp2_with fail
  refine (newEnc_any _ gb).mono ?_
  rintro e w1 ⟨ge, hge, rfl, hE1, hb1⟩
  have HE1 := Aside0.mk hE1
  have HB1 := Aside0.mk hb1
  have HG1 := Aside0.mk (blk_below HG.out hb1)
  clear hge hE1 hb1 HVAL
  have q0 := (blk_cell HG1.out 0).trans (show _ = some (Value.string c) from rfl)
  have q1 := (blk_cell HG1.out 1).trans (show _ = some (Value.string p) from rfl)
  have q2 := (blk_cell HG1.out 2).trans (show _ = some (Value.string h) from rfl)
  have q3 := (blk_cell HG1.out 3).trans (show _ = some (Value.slice A 0 cc) from rfl)
  go_wp2_with fail
  go_quiet (fail)
  have HBW := Aside0.mk (show Below w.heap.size w (w1.drewN nq) from pw_below_drewN HB1.out _)
  have HIW := Aside0.mk (IsB.below HI.out HBW.out)
  have HEW := Aside0.mk (show IsEnc (w1.drewN nq) ge gb from HE1.out)
  obtain ⟨W, hW⟩ : ∃ W, w1.drewN nq = W := ⟨_, rfl⟩
  have z2 : W.cell? ⟨gx, 2, none⟩ = some (.string h) := by rw [← hW]; exact q2
  have z3 : W.cell? ⟨gx, 3, none⟩ = some (.slice A 0 cc) := by rw [← hW]; exact q3
  rw [hW] at HBW HIW HEW ⊢
  clear hW q0 q1 q2 q3 HG1 HE1 HB1
  have hcv := fun (s : ByteArray) => Lib.run_convert_string_bytes (P := Tryd.prog) W 9 26 5 s (u := .string) Tryd.underlying9 Tryd.underlying26 Tryd.underlying5
  go_wp2_with fail
  refine (enc_text B gb ge _ [] _ W HIW.out (Nat.le_trans HB.out HBW.out.size) HEW.out (by simp only [ByteArray.size_append]; rfl) (by rw [HTT.out]; exact HSZ.out.1) (by rw [HTT.out]; have := HSZ.out.2; omega) (by decide)).mono ?_
  rintro e w2 hq
  rw [HTT.out] at hq
  obtain ⟨rfl, hq⟩ := hq
  have HQ := Aside0.mk (Wrote.after HB.out HBW.out hq)
  clear hq hcv
  go_wp2_with fail
  go_ret
  exact ⟨rfl, HQ.out⟩
theorem encReq_11 (w : World) (B gx gb : Nat) (c p h : ByteArray) (A : Option Addr) (n cc : Nat) (l : List ByteArray) (ok : FstOk c p h l) (hI : IsB B gb (bv []) w) (hB : B ≤ w.heap.size) (hG : w.heap[gx]? = some (.cells (req c p h A n cc) 41 (0, 0))) (hC : Kd.string.C w A l.length l) (hn : l.length = n) (hcc : n ≤ cc) (hl0 : l ≠ []) (hh : h.size ≠ 0) :
    Calls Tryd.prog 17 #[.pointer (some ⟨gx, 0, none⟩), .iface 49 (.pointer (some ⟨gb, 0, none⟩))] w (WPost B gb [] (pline (Go.Proofs.YtfjhgmnmadobjaaDoorW.PrintWords.bytesOf (fstT c p h l))) w) := by
  obtain ⟨k1, k2⟩ := ok.c
  obtain ⟨k3, k4⟩ := ok.p
  have k5 := ok.h
  have k6 := ok.n
  have HSZ := Aside0.mk (fstT_size ok)
  have HVAL := Aside0.mk (validate_any w gx c p h A n cc (by omega) (by omega) hG)
  have HI := Aside0.mk hI
  have HB := Aside0.mk hB
  have HG := Aside0.mk hG
  have r0 : c.size + 1 ≤ 9223372036854775807 := by omega
  have r0a := eq_true r0
  have r0b := decide_eq_true r0
  have r0c := eq_false (Nat.not_lt.2 r0)
  have r1 : c.size + 1 + p.size ≤ 9223372036854775807 := by omega
  have r1a := eq_true r1
  have r1b := decide_eq_true r1
  have r1c := eq_false (Nat.not_lt.2 r1)
  have r2 : c.size + 1 + p.size + 1 ≤ 9223372036854775807 := by omega
  have r2a := eq_true r2
  have r2b := decide_eq_true r2
  have r2c := eq_false (Nat.not_lt.2 r2)
  have r3 : 5 + h.size ≤ 9223372036854775807 := by omega
  have r3a := eq_true r3
  have r3b := decide_eq_true r3
  have r3c := eq_false (Nat.not_lt.2 r3)
  have r4 : 5 + h.size + 1 ≤ 9223372036854775807 := by omega
  have r4a := eq_true r4
  have r4b := decide_eq_true r4
  have r4c := eq_false (Nat.not_lt.2 r4)
  have r5 : c.size + 1 + p.size + 1 + (5 + h.size + 1) ≤ 9223372036854775807 := by omega
  have r5a := eq_true r5
  have r5b := decide_eq_true r5
  have r5c := eq_false (Nat.not_lt.2 r5)
  have x0 : c.size + 1 + p.size + 1 + (5 + h.size + 1) + 1 ≤ 9223372036854775807 := by omega
  have x0a := eq_true x0
  have x0b := decide_eq_true x0
  have x0c := eq_false (Nat.not_lt.2 x0)
  obtain ⟨i1, i2, i3⟩ := not_empty hh
  have HC := Aside0.mk hC
  have HOK := Aside0.mk ok
  have HN := Aside0.mk hn
  have hpos : 0 < n := by rw [← hn]; exact List.length_pos_iff.2 hl0
  have HTT := Aside0.mk (show ext ((headT c p ++ hostT h) ++ (⟨#[0]⟩ : ByteArray)) l = fstT c p h l from by unfold fstT withExt; rw [if_neg hl0, withHost_yes hh])
  obtain ⟨R, hR⟩ : ∃ R, (headT c p ++ hostT h) ++ (⟨#[0]⟩ : ByteArray) = R := ⟨_, rfl⟩
  have HRS := Aside0.mk (show R.size ≤ 300 from by rw [← hR]; simp only [ByteArray.size_append, headT_size, hostT_size]; show _ + 1 ≤ _; omega)
  rw [hR] at HTT
  have HR := Aside0.mk hR
  unfold headT hostT at HR
  have HTK := Aside0.mk (fun k (hk : k ≤ n) => show (ext R (l.take k)).size ≤ 1000 from by
    have h1 := ext_size R (l.take k) (fun e he => ok.l e (List.mem_of_mem_take he))
    have h2 := HRS.out
    have h3 : (l.take k).length ≤ 9 := by rw [List.length_take]; omega
    omega)
  have c0 : decide ((0 : Int) < (n : Int)) = true := decide_eq_true (by omega)
  have c1 : decide (0 < n) = true := decide_eq_true hpos
  clear ok hC hn hI hB hG k1 k2 k3 k4 k5 hh hR hl0
  go_enter Tryd.func17, Tryd.ntmps17
  go_wp2_with fail
  refine HVAL.out.mono ?_
  rintro e w1 ⟨rfl, rfl⟩
  go_wp2_with fail
  refine (newEnc_any _ gb).mono ?_
  rintro e w1 ⟨ge, hge, rfl, hE1, hb1⟩
  have HE1 := Aside0.mk hE1
  have HB1 := Aside0.mk hb1
  have HG1 := Aside0.mk (blk_below HG.out hb1)
  clear hge hE1 hb1 HVAL
  have q0 := (blk_cell HG1.out 0).trans (show _ = some (Value.string c) from rfl)
  have q1 := (blk_cell HG1.out 1).trans (show _ = some (Value.string p) from rfl)
  have q2 := (blk_cell HG1.out 2).trans (show _ = some (Value.string h) from rfl)
  have q3 := (blk_cell HG1.out 3).trans (show _ = some (Value.slice A n cc) from rfl)
  go_wp2_with fail
  go_quiet (fail)
  have HBW := Aside0.mk (show Below w.heap.size w (w1.drewN nq) from pw_below_drewN HB1.out _)
  have HIW := Aside0.mk (IsB.below HI.out HBW.out)
  have HEW := Aside0.mk (show IsEnc (w1.drewN nq) ge gb from HE1.out)
  obtain ⟨W, hW⟩ : ∃ W, w1.drewN nq = W := ⟨_, rfl⟩
  have z2 : W.cell? ⟨gx, 2, none⟩ = some (.string h) := by rw [← hW]; exact q2
  have z3 : W.cell? ⟨gx, 3, none⟩ = some (.slice A n cc) := by rw [← hW]; exact q3
  rw [hW] at HBW HIW HEW ⊢
  clear hW q0 q1 q2 q3 HG1 HE1 HB1
  go_wp2_with fail
  go_loopg [7, 57] (n + 1) (fun kq v7 v57 w' => ∃ (k : Nat) (s : ByteArray), v7 = .string s ∧ v57 = .int .i64 (k : Int) ∧ k ≤ n ∧ Aside0 (kq + k = n + 1) ∧ Aside0 (s = ext R (l.take k)) ∧ Aside0 (W = w'))
  case atStart => exact ⟨0, _, rfl, rfl, Nat.zero_le _, ⟨by omega⟩, ⟨by rw [List.take_zero, ext_nil]; exact HR.out⟩, ⟨rfl⟩⟩
  case round =>
    obtain ⟨k, s, rfl, rfl, hk, HK, HS, HW⟩ := hrel
    obtain rfl := HW.out
    have hs : s.size ≤ 1000 := by rw [HS.out]; exact HTK.out k hk
    cases gk with
    | zero => exact absurd HK.out (by omega)
    | succ m =>
      by_cases hlt : k < n
      · have hkl : k < l.length := by rw [HN.out]; exact hlt
        have p1 : (0 : Int) ≤ (k : Int) := by omega
        have p2 : (k : Int) < (n : Int) := by omega
        obtain ⟨ad, e, hx⟩ := Kd.at_string (Kd.C_below HC.out HBW.out) (k : Int) p1 (by omega)
        cases e
        rw [rdOf_list l k hkl, Int.toNat_natCast] at hx
        obtain ⟨a, ha⟩ : ∃ a, l[k] = a := ⟨_, rfl⟩
        have hasz : a.size ≤ 60 := by rw [← ha]; exact HOK.out.l _ (List.getElem_mem hkl)
        rw [ha] at hx
        have HNX := Aside0.mk (show s ++ (a ++ (⟨#[0]⟩ : ByteArray)) = ext R (l.take (k + 1)) from by rw [ext_take R l k hkl, HS.out, ha])
        have c2 : decide ((k : Int) < (n : Int)) = true := decide_eq_true p2
        have c3 : decide (k < n) = true := decide_eq_true hlt
        have z1 : a.size + 1 ≤ 9223372036854775807 := by omega
        have z1a := eq_true z1
        have z4 : s.size + (a.size + 1) ≤ 9223372036854775807 := by omega
        have z4a := eq_true z4
        clear ha
        go_wp2_with fail
        go_roundg m
        case measure => omega
        case rel => exact ⟨k + 1, _, rfl, by go_num, by omega, ⟨by have := HK.out; omega⟩, HNX, ⟨rfl⟩⟩
      · obtain rfl : k = n := by omega
        have c2 : decide ((k : Int) < (k : Int)) = false := decide_eq_false (by omega)
        have HTT2 := Aside0.mk (show s = fstT c p h l from by rw [HS.out, List.take_of_length_le (by rw [HN.out]; exact Nat.le_refl _), HTT.out])
        have hcv := Lib.run_convert_string_bytes (P := Tryd.prog) W 9 26 5 s (u := .string) Tryd.underlying9 Tryd.underlying26 Tryd.underlying5
        go_wp2_with fail
        refine (enc_text B gb ge _ [] _ W HIW.out (Nat.le_trans HB.out HBW.out.size) HEW.out rfl (by rw [HTT2.out]; exact HSZ.out.1) (by omega) (by decide)).mono ?_
        rintro e w2 hq
        rw [HTT2.out] at hq
        obtain ⟨rfl, hq⟩ := hq
        have HQ := Aside0.mk (Wrote.after HB.out HBW.out hq)
        clear hq hcv
        go_wp2_with fail
        go_ret
        exact ⟨rfl, HQ.out⟩
theorem encodeReq_any (w : World) (B gx gb : Nat) (c p h : ByteArray) (A : Option Addr) (n cc : Nat) (l : List ByteArray) (ok : FstOk c p h l) (hI : IsB B gb (bv []) w) (hB : B ≤ w.heap.size) (hG : w.heap[gx]? = some (.cells (req c p h A n cc) 41 (0, 0))) (hC : Kd.string.C w A l.length l) (hn : l.length = n) (hcc : n ≤ cc) :
    Calls Tryd.prog 17 #[.pointer (some ⟨gx, 0, none⟩), .iface 49 (.pointer (some ⟨gb, 0, none⟩))] w (WPost B gb [] (pline (Go.Proofs.YtfjhgmnmadobjaaDoorW.PrintWords.bytesOf (fstT c p h l))) w) := by
  by_cases hh : h.size = 0
  · obtain rfl := empty_of hh
    by_cases hl : l = []
    · exact encReq_00 w B gx gb c p _ A n cc l ok hI hB hG hC hn hcc hl rfl
    · exact encReq_01 w B gx gb c p _ A n cc l ok hI hB hG hC hn hcc hl rfl
  · by_cases hl : l = []
    · exact encReq_10 w B gx gb c p _ A n cc l ok hI hB hG hC hn hcc hl hh
    · exact encReq_11 w B gx gb c p _ A n cc l ok hI hB hG hC hn hcc hl hh
end Go.Proofs.YtfjhgmnmadobjaaDoor.fst
