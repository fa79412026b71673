/- Revisions: the scanner's next token. -/
import Derived.Test.YtiibeefadgmicaaDoorRevJ
namespace Go.Proofs.YtiibeefadgmicaaDoor.rev
open Go.RowKit Go.Proofs.YtiibeefadgmicaaDoorW.PrintWords Go.Proofs.YtiibeefadgmicaaDoorW.PrintLast Go.Proofs.YtiibeefadgmicaaDoorW.PrintMore Go.Proofs.YtiibeefadgmicaaDoor.PFnRevSteps
set_option linter.unusedVariables false
set_option linter.unusedSimpArgs false
set_option maxHeartbeats 2000000
set_option maxRecDepth 100000
theorem err_info : (∃ i : TypeInfo, Tryd.prog.info? 145 = some i ∧ i.comparable = true) ∧ ∃ j : TypeInfo, Tryd.prog.info? 147 = some j ∧ j.size ≠ 0 := by
  refine ⟨?_, ?_⟩
  · obtain ⟨i, hi⟩ := Option.isSome_iff_exists.1 (show (Tryd.prog.info? 145).isSome = true by kernel_rfl)
    have h : (Tryd.prog.info? 145).map (·.comparable) = some true := by kernel_rfl
    rw [hi] at h
    exact ⟨i, hi, by simpa using h⟩
  · obtain ⟨j, hj⟩ := Option.isSome_iff_exists.1 (show (Tryd.prog.info? 147).isSome = true by kernel_rfl)
    have h : (Tryd.prog.info? 147).map (·.size) = some 1 := by kernel_rfl
    rw [hj] at h
    exact ⟨j, hj, by have : j.size = 1 := by simpa using h
                     omega⟩
theorem same_neq (a : Addr) (w : World) : (binOp .neq 42 (.iface 145 (.pointer (some a))) (.iface 145 (.pointer (some a)))).run Tryd.prog w = .ok (.bool false) w := by
  obtain ⟨⟨i, hi, hc⟩, j, hj, _⟩ := err_info
  simp only [binOp]
  simp [Op.equal, Op.maxDepth, run_equalIn_iface_ptr_same w 9998 a Tryd.underlying42 Tryd.underlying145 hi hc hj]
/-- The scanner's own cell. -/
def scC (gr : Nat) : Array Value := #[.pointer (some ⟨gr, 0, none⟩)]
theorem scan_nil (w : World) (d : Ad) (gs : Nat) (hD : Dis d) (ea : Addr) (b : Option UInt8) (hT : Tabs w ea) (h : AtR w d [] b) (hS : w.heap[gs]? = some (.cells (scC d.gr) 107 (0, 0))) :
    Calls Tryd.prog 35 #[.pointer (some ⟨gs, 0, none⟩)] w fun e w' => e = .returned (.tuple #[.int .i64 0, .string (txt []), .nilIface]) ∧ Off d.S w w' ∧ AtR w' d [] none := by
  have HRR := readRune_nil w d hD ea b hT h
  obtain ⟨gr, hg⟩ : ∃ gr, d.gr = gr := ⟨_, rfl⟩
  rw [hg] at HRR hS
  have HRR := Aside0.mk HRR
  have HT := Aside0.mk hT
  have HD := Aside0.mk hD
  have q0 := (blk_cell hS 0).trans (show _ = some (Value.pointer (some ⟨gr, 0, none⟩)) from rfl)
  have hse := same_neq ea
  clear hT h hg hS hD
  go_enter Tryd.func35, Tryd.ntmps35
  go_wp2_with fail
  refine HRR.out.mono ?_
  rintro e w2 ⟨rfl, ho2, hat2⟩
  have HO2 := Aside0.mk ho2
  have HAT2 := Aside0.mk hat2
  have qe := (HT.out.off ho2 HD.out.S16).eof
  clear ho2 hat2 HRR q0
  go_wp2_with fail
  go_ret3
  exact ⟨rfl, HO2.out, HAT2.out⟩
theorem scan_126 (w : World) (d : Ad) (gs : Nat) (hD : Dis d) (ea : Addr) (r : List UInt8) (b : Option UInt8) (hT : Tabs w ea) (h : AtR w d (126 :: r) b) (hS : w.heap[gs]? = some (.cells (scC d.gr) 107 (0, 0))) :
    Calls Tryd.prog 35 #[.pointer (some ⟨gs, 0, none⟩)] w fun e w' => e = .returned (.tuple #[.int .i64 17, .string (txt [126]), .nilIface]) ∧ Off d.S w w' ∧ ∃ b', AtR w' d r b' := by
  have HRR := readRune_cons w d hD ea 126 r b (by decide) hT h
  obtain ⟨gr, hg⟩ : ∃ gr, d.gr = gr := ⟨_, rfl⟩
  rw [hg] at HRR hS
  rw [show (((126 : UInt8).toNat : Nat) : Int) = 126 from rfl] at HRR
  have HRR := Aside0.mk HRR
  have q0 := (blk_cell hS 0).trans (show _ = some (Value.pointer (some ⟨gr, 0, none⟩)) from rfl)
  have he : Utf8.encode 126 = txt [126] := encode_one (c := 126) (by decide)
  clear hT h hg hS hD
  go_enter Tryd.func35, Tryd.ntmps35
  go_wp2_with fail
  refine HRR.out.mono ?_
  rintro e w2 ⟨rfl, ho2, hat2⟩
  have HO2 := Aside0.mk ho2
  have HAT2 := Aside0.mk hat2
  clear ho2 hat2 HRR q0
  go_wp2_with fail
  go_ret3
  exact ⟨rfl, HO2.out, _, HAT2.out⟩
theorem scan_94 (w : World) (d : Ad) (gs : Nat) (hD : Dis d) (ea : Addr) (r : List UInt8) (b : Option UInt8) (hT : Tabs w ea) (h : AtR w d (94 :: r) b) (hS : w.heap[gs]? = some (.cells (scC d.gr) 107 (0, 0))) :
    Calls Tryd.prog 35 #[.pointer (some ⟨gs, 0, none⟩)] w fun e w' => e = .returned (.tuple #[.int .i64 4, .string (txt [94]), .nilIface]) ∧ Off d.S w w' ∧ ∃ b', AtR w' d r b' := by
  have HRR := readRune_cons w d hD ea 94 r b (by decide) hT h
  obtain ⟨gr, hg⟩ : ∃ gr, d.gr = gr := ⟨_, rfl⟩
  rw [hg] at HRR hS
  rw [show (((94 : UInt8).toNat : Nat) : Int) = 94 from rfl] at HRR
  have HRR := Aside0.mk HRR
  have q0 := (blk_cell hS 0).trans (show _ = some (Value.pointer (some ⟨gr, 0, none⟩)) from rfl)
  have he : Utf8.encode 94 = txt [94] := encode_one (c := 94) (by decide)
  clear hT h hg hS hD
  go_enter Tryd.func35, Tryd.ntmps35
  go_wp2_with fail
  refine HRR.out.mono ?_
  rintro e w2 ⟨rfl, ho2, hat2⟩
  have HO2 := Aside0.mk ho2
  have HAT2 := Aside0.mk hat2
  clear ho2 hat2 HRR q0
  go_wp2_with fail
  go_ret3
  exact ⟨rfl, HO2.out, _, HAT2.out⟩
theorem scan_123 (w : World) (d : Ad) (gs : Nat) (hD : Dis d) (ea : Addr) (r : List UInt8) (b : Option UInt8) (hT : Tabs w ea) (h : AtR w d (123 :: r) b) (hS : w.heap[gs]? = some (.cells (scC d.gr) 107 (0, 0))) :
    Calls Tryd.prog 35 #[.pointer (some ⟨gs, 0, none⟩)] w fun e w' => e = .returned (.tuple #[.int .i64 12, .string (txt [123]), .nilIface]) ∧ Off d.S w w' ∧ ∃ b', AtR w' d r b' := by
  have HRR := readRune_cons w d hD ea 123 r b (by decide) hT h
  obtain ⟨gr, hg⟩ : ∃ gr, d.gr = gr := ⟨_, rfl⟩
  rw [hg] at HRR hS
  rw [show (((123 : UInt8).toNat : Nat) : Int) = 123 from rfl] at HRR
  have HRR := Aside0.mk HRR
  have q0 := (blk_cell hS 0).trans (show _ = some (Value.pointer (some ⟨gr, 0, none⟩)) from rfl)
  have he : Utf8.encode 123 = txt [123] := encode_one (c := 123) (by decide)
  clear hT h hg hS hD
  go_enter Tryd.func35, Tryd.ntmps35
  go_wp2_with fail
  refine HRR.out.mono ?_
  rintro e w2 ⟨rfl, ho2, hat2⟩
  have HO2 := Aside0.mk ho2
  have HAT2 := Aside0.mk hat2
  clear ho2 hat2 HRR q0
  go_wp2_with fail
  go_ret3
  exact ⟨rfl, HO2.out, _, HAT2.out⟩
theorem scan_125 (w : World) (d : Ad) (gs : Nat) (hD : Dis d) (ea : Addr) (r : List UInt8) (b : Option UInt8) (hT : Tabs w ea) (h : AtR w d (125 :: r) b) (hS : w.heap[gs]? = some (.cells (scC d.gr) 107 (0, 0))) :
    Calls Tryd.prog 35 #[.pointer (some ⟨gs, 0, none⟩)] w fun e w' => e = .returned (.tuple #[.int .i64 5, .string (txt [125]), .nilIface]) ∧ Off d.S w w' ∧ ∃ b', AtR w' d r b' := by
  have HRR := readRune_cons w d hD ea 125 r b (by decide) hT h
  obtain ⟨gr, hg⟩ : ∃ gr, d.gr = gr := ⟨_, rfl⟩
  rw [hg] at HRR hS
  rw [show (((125 : UInt8).toNat : Nat) : Int) = 125 from rfl] at HRR
  have HRR := Aside0.mk HRR
  have q0 := (blk_cell hS 0).trans (show _ = some (Value.pointer (some ⟨gr, 0, none⟩)) from rfl)
  have he : Utf8.encode 125 = txt [125] := encode_one (c := 125) (by decide)
  clear hT h hg hS hD
  go_enter Tryd.func35, Tryd.ntmps35
  go_wp2_with fail
  refine HRR.out.mono ?_
  rintro e w2 ⟨rfl, ho2, hat2⟩
  have HO2 := Aside0.mk ho2
  have HAT2 := Aside0.mk hat2
  clear ho2 hat2 HRR q0
  go_wp2_with fail
  go_ret3
  exact ⟨rfl, HO2.out, _, HAT2.out⟩
theorem scan_64 (w : World) (d : Ad) (gs : Nat) (hD : Dis d) (ea : Addr) (r : List UInt8) (b : Option UInt8) (hT : Tabs w ea) (h : AtR w d (64 :: r) b) (hS : w.heap[gs]? = some (.cells (scC d.gr) 107 (0, 0))) :
    Calls Tryd.prog 35 #[.pointer (some ⟨gs, 0, none⟩)] w fun e w' => e = .returned (.tuple #[.int .i64 3, .string (txt [64]), .nilIface]) ∧ Off d.S w w' ∧ ∃ b', AtR w' d r b' := by
  have HRR := readRune_cons w d hD ea 64 r b (by decide) hT h
  obtain ⟨gr, hg⟩ : ∃ gr, d.gr = gr := ⟨_, rfl⟩
  rw [hg] at HRR hS
  rw [show (((64 : UInt8).toNat : Nat) : Int) = 64 from rfl] at HRR
  have HRR := Aside0.mk HRR
  have q0 := (blk_cell hS 0).trans (show _ = some (Value.pointer (some ⟨gr, 0, none⟩)) from rfl)
  have he : Utf8.encode 64 = txt [64] := encode_one (c := 64) (by decide)
  clear hT h hg hS hD
  go_enter Tryd.func35, Tryd.ntmps35
  go_wp2_with fail
  refine HRR.out.mono ?_
  rintro e w2 ⟨rfl, ho2, hat2⟩
  have HO2 := Aside0.mk ho2
  have HAT2 := Aside0.mk hat2
  clear ho2 hat2 HRR q0
  go_wp2_with fail
  go_ret3
  exact ⟨rfl, HO2.out, _, HAT2.out⟩
theorem isA_range {c : UInt8} (h : isA c = true) : (97 ≤ c.toNat ∧ c.toNat ≤ 122) ∨ (48 ≤ c.toNat ∧ c.toNat ≤ 57) := by
  unfold isA isL isD at h
  simp only [Bool.or_eq_true, Bool.and_eq_true, decide_eq_true_eq] at h
  exact h
theorem scan_word (w : World) (d : Ad) (gs : Nat) (hD : Dis d) (ea : Addr) (c : UInt8) (r : List UInt8) (b : Option UInt8) (hc : isA c = true) (hr : Good r) (hlen : r.length ≤ 4000) (hO : Old d w.heap.size) (hT : Tabs w ea) (h : AtR w d (c :: r) b) (hS : w.heap[gs]? = some (.cells (scC d.gr) 107 (0, 0))) (hgs : ¬ d.S gs) :
    Calls Tryd.prog 35 #[.pointer (some ⟨gs, 0, none⟩)] w fun e w' => e = .returned (.tuple #[.int .i64 (nx (c :: r)).1.t, .string (txt (nx (c :: r)).1.s), .nilIface]) ∧ Off d.S w w' ∧ ∃ b', AtR w' d (nx (c :: r)).2 b' := by
  have hok : OkC c := .inl hc
  have hrg := isA_range hc
  have HRR := readRune_cons w d hD ea c r b (okC_lt hok).2 hT h
  have HSP := fun W => isSpace_any W c hok
  have HCT := fun W (hW : Tabs W ea) => isControl_any W ea hW c hok
  have HLT := fun W (hW : Tabs W ea) => isLetter_any W ea hW c hok
  have HNM := fun W (hW : Tabs W ea) => isNumber_any W ea hW c hok
  have HTL := fun W (hW : Tabs W ea) (ho : Old d W.heap.size) (hA : AtR W d r (some c)) => tok_L W d hD ea c r (some c) 19 hok hr hlen hW hA ho
  have HTD := fun W (hW : Tabs W ea) (ho : Old d W.heap.size) (hA : AtR W d r (some c)) => tok_D W d hD ea c r (some c) 11 hok hr hlen hW hA ho
  have HS := Aside0.mk hS
  obtain ⟨gr, hg⟩ : ∃ gr, d.gr = gr := ⟨_, rfl⟩
  rw [hg] at HRR hS HTL HTD
  have HG := Aside0.mk hg
  have HX := Aside0.mk hgs
  have HT := Aside0.mk hT
  have HD := Aside0.mk hD
  have HO := Aside0.mk hO
  obtain ⟨kc, hkc⟩ : ∃ kc, c.toNat = kc := ⟨_, rfl⟩
  rw [hkc] at HRR HSP HCT HLT HNM HTL HTD hrg
  have HRR := Aside0.mk HRR
  have HSP := Aside0.mk HSP
  have HCT := Aside0.mk HCT
  have q0 := (blk_cell hS 0).trans (show _ = some (Value.pointer (some ⟨gr, 0, none⟩)) from rfl)
  have f0 : ((kc : Int) == 0) = false := beq_eq_false_iff_ne.2 (by omega)
  have g0 : (kc == 0) = false := beq_eq_false_iff_ne.2 (by omega)
  have f1 : ((kc : Int) == 58) = false := beq_eq_false_iff_ne.2 (by omega)
  have g1 : (kc == 58) = false := beq_eq_false_iff_ne.2 (by omega)
  have f2 : ((kc : Int) == 126) = false := beq_eq_false_iff_ne.2 (by omega)
  have g2 : (kc == 126) = false := beq_eq_false_iff_ne.2 (by omega)
  have f3 : ((kc : Int) == 94) = false := beq_eq_false_iff_ne.2 (by omega)
  have g3 : (kc == 94) = false := beq_eq_false_iff_ne.2 (by omega)
  have f4 : ((kc : Int) == 46) = false := beq_eq_false_iff_ne.2 (by omega)
  have g4 : (kc == 46) = false := beq_eq_false_iff_ne.2 (by omega)
  have f5 : ((kc : Int) == 47) = false := beq_eq_false_iff_ne.2 (by omega)
  have g5 : (kc == 47) = false := beq_eq_false_iff_ne.2 (by omega)
  have f6 : ((kc : Int) == 123) = false := beq_eq_false_iff_ne.2 (by omega)
  have g6 : (kc == 123) = false := beq_eq_false_iff_ne.2 (by omega)
  have f7 : ((kc : Int) == 125) = false := beq_eq_false_iff_ne.2 (by omega)
  have g7 : (kc == 125) = false := beq_eq_false_iff_ne.2 (by omega)
  have f8 : ((kc : Int) == 45) = false := beq_eq_false_iff_ne.2 (by omega)
  have g8 : (kc == 45) = false := beq_eq_false_iff_ne.2 (by omega)
  have f9 : ((kc : Int) == 64) = false := beq_eq_false_iff_ne.2 (by omega)
  have g9 : (kc == 64) = false := beq_eq_false_iff_ne.2 (by omega)
  have f10 : ((kc : Int) == 92) = false := beq_eq_false_iff_ne.2 (by omega)
  have g10 : (kc == 92) = false := beq_eq_false_iff_ne.2 (by omega)
  have f11 : ((kc : Int) == 63) = false := beq_eq_false_iff_ne.2 (by omega)
  have g11 : (kc == 63) = false := beq_eq_false_iff_ne.2 (by omega)
  have f12 : ((kc : Int) == 42) = false := beq_eq_false_iff_ne.2 (by omega)
  have g12 : (kc == 42) = false := beq_eq_false_iff_ne.2 (by omega)
  have f13 : ((kc : Int) == 91) = false := beq_eq_false_iff_ne.2 (by omega)
  have g13 : (kc == 91) = false := beq_eq_false_iff_ne.2 (by omega)
  have f14 : ((kc : Int) == 33) = false := beq_eq_false_iff_ne.2 (by omega)
  have g14 : (kc == 33) = false := beq_eq_false_iff_ne.2 (by omega)
  rw [nx]
  cases hL : isL c with
  | true =>
    rw [hL] at HLT
    have HLT := Aside0.mk HLT
    have HTL := Aside0.mk HTL
    rw [if_pos rfl]
    clear hT h hg hS hD hO hgs hc hok hrg hkc hL HNM HTD hr
    go_enter Tryd.func35, Tryd.ntmps35
    go_wp2_with fail
    refine HRR.out.mono ?_
    rintro e w2 ⟨rfl, ho2, hat2⟩
    have HO2 := Aside0.mk ho2
    have HAT2 := Aside0.mk hat2
    have HT2 := Aside0.mk (HT.out.off ho2 HD.out.S16)
    have HS2 := Aside0.mk (ho2.blk HS.out HX.out)
    clear ho2 hat2 HRR q0
    go_wp2_with fail
    refine (HSP.out _).mono ?_
    rintro e w3 ⟨rfl, rfl⟩
    go_wp2_with fail
    refine (HCT.out _ HT2.out).mono ?_
    rintro e w4 ⟨rfl, rfl⟩
    go_wp2_with fail
    refine (HLT.out _ HT2.out).mono ?_
    rintro e w5 ⟨rfl, rfl⟩
    have q0 := (blk_cell HS2.out 0).trans (show _ = some (Value.pointer (some ⟨d.gr, 0, none⟩)) from rfl)
    rw [HG.out] at q0
    go_wp2_with fail
    refine (HTL.out _ HT2.out (HO.out.mono HO2.out.size) HAT2.out).mono ?_
    rintro e w6 ⟨rfl, ho6, b6, hat6⟩
    have HO6 := Aside0.mk (HO2.out.trans ho6)
    have HAT6 := Aside0.mk hat6
    clear ho6 hat6 q0
    go_wp2_with fail
    go_ret3
    exact ⟨rfl, HO6.out, _, HAT6.out⟩
  | false =>
    have hDg : isD c = true := by unfold isA at hc; rw [hL] at hc; exact hc
    rw [hL] at HLT
    rw [hDg] at HNM
    have HLT := Aside0.mk HLT
    have HNM := Aside0.mk HNM
    have HTD := Aside0.mk HTD
    rw [if_neg (by simp), if_pos hDg]
    clear hT h hg hS hD hO hgs hc hok hrg hkc hL HTL hr hDg
    go_enter Tryd.func35, Tryd.ntmps35
    go_wp2_with fail
    refine HRR.out.mono ?_
    rintro e w2 ⟨rfl, ho2, hat2⟩
    have HO2 := Aside0.mk ho2
    have HAT2 := Aside0.mk hat2
    have HT2 := Aside0.mk (HT.out.off ho2 HD.out.S16)
    have HS2 := Aside0.mk (ho2.blk HS.out HX.out)
    clear ho2 hat2 HRR q0
    go_wp2_with fail
    refine (HSP.out _).mono ?_
    rintro e w3 ⟨rfl, rfl⟩
    go_wp2_with fail
    refine (HCT.out _ HT2.out).mono ?_
    rintro e w4 ⟨rfl, rfl⟩
    go_wp2_with fail
    refine (HLT.out _ HT2.out).mono ?_
    rintro e w5 ⟨rfl, rfl⟩
    go_wp2_with fail
    refine (HNM.out _ HT2.out).mono ?_
    rintro e w6 ⟨rfl, rfl⟩
    have q0 := (blk_cell HS2.out 0).trans (show _ = some (Value.pointer (some ⟨d.gr, 0, none⟩)) from rfl)
    rw [HG.out] at q0
    go_wp2_with fail
    refine (HTD.out _ HT2.out (HO.out.mono HO2.out.size) HAT2.out).mono ?_
    rintro e w7 ⟨rfl, ho7, b7, hat7⟩
    have HO7 := Aside0.mk (HO2.out.trans ho7)
    have HAT7 := Aside0.mk hat7
    clear ho7 hat7 q0
    go_wp2_with fail
    go_ret3
    exact ⟨rfl, HO7.out, _, HAT7.out⟩
/-- The scanner's next token. -/
theorem scan_any (w : World) (d : Ad) (gs : Nat) (hD : Dis d) (ea : Addr) (l : List UInt8) (b : Option UInt8) (hl : Good l) (hlen : l.length ≤ 4000) (hO : Old d w.heap.size) (hT : Tabs w ea) (h : AtR w d l b) (hS : w.heap[gs]? = some (.cells (scC d.gr) 107 (0, 0))) (hgs : ¬ d.S gs) :
    Calls Tryd.prog 35 #[.pointer (some ⟨gs, 0, none⟩)] w fun e w' => e = .returned (.tuple #[.int .i64 (nx l).1.t, .string (txt (nx l).1.s), .nilIface]) ∧ Off d.S w w' ∧ ∃ b', AtR w' d (nx l).2 b' := by
  cases l with
  | nil => exact (scan_nil w d gs hD ea b hT h hS).mono fun e w' ⟨h1, h2, h3⟩ => ⟨h1, h2, _, h3⟩
  | cons c r =>
    rw [List.length_cons] at hlen
    rcases hl c (.head _) with hc | hc
    · exact scan_word w d gs hD ea c r b hc (good_tail hl) (by omega) hO hT h hS hgs
    · rw [nx_sym hc]
      unfold isS at hc
      simp only [Bool.or_eq_true, beq_iff_eq] at hc
      rcases hc with (((rfl | rfl) | rfl) | rfl) | rfl
      · exact scan_126 w d gs hD ea r b hT h hS
      · exact scan_94 w d gs hD ea r b hT h hS
      · exact scan_123 w d gs hD ea r b hT h hS
      · exact scan_125 w d gs hD ea r b hT h hS
      · exact scan_64 w d gs hD ea r b hT h hS
end Go.Proofs.YtiibeefadgmicaaDoor.rev
