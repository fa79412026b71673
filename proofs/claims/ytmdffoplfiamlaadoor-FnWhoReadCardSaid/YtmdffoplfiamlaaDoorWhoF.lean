/- Signatures: Signature.Decode. -/
import Derived.Test.YtmdffoplfiamlaaDoorWhoE
namespace Go.Proofs.YtmdffoplfiamlaaDoor.who
open Go.Proofs.YtmdffoplfiamlaaDoor.cuts Go.RowKit Go.Lib Go.Proofs.YtmdffoplfiamlaaDoorW.PrintWords Go.Proofs.YtmdffoplfiamlaaDoorW.PrintLast Go.Proofs.YtmdffoplfiamlaaDoorW.PrintMore Go.Proofs.YtmdffoplfiamlaaDoor.PFnWhoRead
set_option linter.unusedVariables false
set_option linter.unusedSimpArgs false
set_option maxHeartbeats 2000000
set_option maxRecDepth 100000
/-- What a zone's text must be. -/
structure ZoneOk (z : List UInt8) (zv : Int) : Prop where
  len : z.length = 5
  lt : 60 ∉ z
  gt : 62 ∉ z
  read : ∃ hv mv : Int, parseIntB 64 (z.take 3) = .ok hv ∧ parseIntB 64 (z.drop 3) = .ok mv ∧ -99 ≤ hv ∧ hv ≤ 99 ∧ 0 ≤ mv ∧ mv ≤ 59 ∧ (hv < 0 ∧ zv = hv * 3600 - mv * 60 ∨ 0 ≤ hv ∧ zv = hv * 3600 + mv * 60)
/-- What the text of the seconds must be. -/
structure SecOk (ds : List UInt8) (t : Nat) : Prop where
  small : t < 1099511627776
  len : ds.length ≤ 20
  sp : 32 ∉ ds
  lt : 60 ∉ ds
  gt : 62 ∉ ds
  read : parseIntB 64 ds = .ok (t : Int)
theorem decodeTime_any (w : World) (B gs n c : Nat) (N E : ByteArray) (t : Nat) (ds z : List UInt8) (zv : Int) (A : Option Addr) (hB : B ≤ gs) (hs : SecOk ds t) (hz : ZoneOk z zv) (hn : (ds ++ 32 :: z).length = n) (hC : (Kd.int .u8).C w A n (bn (ds ++ 32 :: z))) (hc : n ≤ c)
    (hF : ∀ W', KeepBut w W' gs none → (Kd.int .u8).C W' A n (bn (ds ++ 32 :: z))) (hG : w.heap[gs]? = some (.cells (sgn N E 0 0) 64 (0, 0))) :
    Calls Tryd.prog 47 #[.pointer (some ⟨gs, 0, none⟩), .slice A n c] w fun e w' => e = .returned (.tuple #[]) ∧ w'.heap[gs]? = some (.cells (sgn N E ((t : Int) + 62135596800) zv) 64 (0, 0)) ∧ Below B w w' := by
  obtain ⟨hv, mv, h1, h2, h3, h4, h5, h6, h7⟩ := hz.read
  rcases h7 with ⟨h7, rfl⟩ | ⟨h7, rfl⟩
  · exact decodeTime_neg w B gs n c N E t ds z hv mv A hB hs.small hs.sp hs.len hs.read hz.len h1 h2 h7 h3 h4 h5 h6 hn hC hc hF hG
  · exact decodeTime_pos w B gs n c N E t ds z hv mv A hB hs.small hs.sp hs.len hs.read hz.len h1 h2 h7 h3 h4 h5 h6 hn hC hc hF hG
/-- What a name or an address must be. -/
structure NameOk (l : List UInt8) : Prop where
  lt : 60 ∉ l
  gt : 62 ∉ l
  fst : ∀ v, l.head? = some v → v ≠ 32
  lst : ∀ v, l.getLast? = some v → v ≠ 32
theorem bn_head {l : List UInt8} (h : ∀ v, l.head? = some v → v ≠ 32) : ∀ v, (bn l).head? = some v → v ≠ 32 := by
  intro v hv
  cases l with
  | nil => cases hv
  | cons a r =>
    cases hv
    intro e
    have e' : (a.toNat : Int) = 32 := e
    exact h a rfl (UInt8.toNat_inj.1 (by show a.toNat = 32; omega))
theorem bn_last {l : List UInt8} (h : ∀ v, l.getLast? = some v → v ≠ 32) : ∀ v, (bn l).getLast? = some v → v ≠ 32 := by
  intro v hv
  unfold bn at hv
  rw [List.getLast?_map] at hv
  obtain ⟨a, ha, e⟩ := Option.map_eq_some_iff.1 hv
  intro e2
  have e' : (a.toNat : Int) = v := e
  exact h a ha (UInt8.toNat_inj.1 (by show a.toNat = 32; omega))
theorem txt_self (N : ByteArray) : txt N.data.toList = N := rfl
theorem decode_any (w : World) (B gs n c : Nat) (N E : ByteArray) (t : Nat) (ds z : List UInt8) (zv : Int) (A : Option Addr) (hB : B ≤ gs) (hN : NameOk N.data.toList) (hE : NameOk E.data.toList) (hs : SecOk ds t) (hz : ZoneOk z zv) (T : List UInt8) (hT : T = N.data.toList ++ 32 :: 60 :: (E.data.toList ++ 62 :: 32 :: (ds ++ 32 :: z))) (hn : T.length = n)
    (hC : (Kd.int .u8).C w A n (bn T)) (hc : n ≤ c) (hF : ∀ W', KeepBut w W' gs none → (Kd.int .u8).C W' A n (bn T)) (hG : w.heap[gs]? = some (.cells (sgn ⟨#[]⟩ ⟨#[]⟩ 0 0) 64 (0, 0))) :
    Calls Tryd.prog 29 #[.pointer (some ⟨gs, 0, none⟩), .slice A n c] w fun e w' => e = .returned (.tuple #[]) ∧ w'.heap[gs]? = some (.cells (sgn N E ((t : Int) + 62135596800) zv) 64 (0, 0)) ∧ Below B w w' := by
  have hmax : n ≤ 9223372036854775807 := hC.2.1
  have hsz := blk_lt hG
  obtain ⟨nN, hnN⟩ : ∃ nN, N.data.toList.length = nN := ⟨_, rfl⟩
  obtain ⟨nE, hnE⟩ : ∃ nE, E.data.toList.length = nE := ⟨_, rfl⟩
  obtain ⟨nR, hnR⟩ : ∃ nR, (ds ++ 32 :: z).length = nR := ⟨_, rfl⟩
  obtain ⟨k1, hk1⟩ : ∃ k1, nN + 1 = k1 := ⟨_, rfl⟩
  obtain ⟨k2, hk2⟩ : ∃ k2, nN + 2 + nE = k2 := ⟨_, rfl⟩
  have hln : n = nN + 2 + nE + 2 + nR := by
    rw [← hn, hT, List.length_append, List.length_cons, List.length_cons, List.length_append, List.length_cons, List.length_cons, hnN, hnE, hnR]; omega
  have hR0 : 0 < nR := by rw [← hnR, List.length_append, List.length_cons]; omega
  -- where the two signs stand
  have e1 : bn T = bn (N.data.toList ++ [32]) ++ 60 :: bn (E.data.toList ++ 62 :: 32 :: (ds ++ 32 :: z)) := by
    rw [hT, show N.data.toList ++ 32 :: 60 :: (E.data.toList ++ 62 :: 32 :: (ds ++ 32 :: z)) = (N.data.toList ++ [32]) ++ ([60] ++ (E.data.toList ++ 62 :: 32 :: (ds ++ 32 :: z))) by simp, bn_append, bn_append]; rfl
  have e2 : bn T = bn (N.data.toList ++ [32, 60] ++ E.data.toList) ++ 62 :: bn (32 :: (ds ++ 32 :: z)) := by
    rw [hT, show N.data.toList ++ 32 :: 60 :: (E.data.toList ++ 62 :: 32 :: (ds ++ 32 :: z)) = (N.data.toList ++ [32, 60] ++ E.data.toList) ++ ([62] ++ (32 :: (ds ++ 32 :: z))) by simp, bn_append, bn_append]; rfl
  have m1 : (60 : Int) ∉ bn (E.data.toList ++ 62 :: 32 :: (ds ++ 32 :: z)) := bn_not (v := 60) (by
    simp only [List.mem_append, List.mem_cons, not_or]
    exact ⟨hE.lt, by decide, by decide, hs.lt, by decide, hz.lt⟩)
  have m2 : (62 : Int) ∉ bn (32 :: (ds ++ 32 :: z)) := bn_not (v := 62) (by
    simp only [List.mem_append, List.mem_cons, not_or]
    exact ⟨by decide, hs.gt, by decide, hz.gt⟩)
  have l1 : (bn (N.data.toList ++ [32])).length = k1 := by rw [bn_length, List.length_append, hnN]; exact hk1
  have l2 : (bn (N.data.toList ++ [32, 60] ++ E.data.toList)).length = k2 := by rw [bn_length, List.length_append, List.length_append, hnN, hnE]; exact hk2
  have HL1 := Aside0.mk (fun (W : World) (h : KeepBut w W gs none) => last_any (c := c) (w := W) e1 m1 (by rw [bn_length, hn]) (a := (k1 : Int)) (by rw [l1]) hc (hF W h))
  have HL2 := Aside0.mk (fun (W : World) (h : KeepBut w W gs none) => last_any (c := c) (w := W) e2 m2 (by rw [bn_length, hn]) (a := (k2 : Int)) (by rw [l2]) hc (hF W h))
  -- the cuts
  obtain ⟨hcut1, hcC1⟩ := take_C (l := bn T) (p := bn (N.data.toList ++ [32])) (q := 60 :: bn (E.data.toList ++ 62 :: 32 :: (ds ++ 32 :: z))) e1 (n := n) (c := c) (m := k1) (by rw [bn_length, hn]) l1 (a := (k1 : Int)) rfl hc A
  obtain ⟨A2, hcut2, hcC2, hcl2⟩ := mid_C (l := bn T) (p := bn (N.data.toList ++ [32, 60])) (q := bn E.data.toList) (r := bn (62 :: 32 :: (ds ++ 32 :: z))) (by rw [hT, ← bn_append, ← bn_append]; congr 1; simp) (n := n) (c := c) (m1 := k1 + 1) (m2 := nE) (k := c - (k1 + 1)) (by rw [bn_length, hn]) (by rw [bn_length, List.length_append, hnN]; show nN + 2 = _; omega) (by rw [bn_length, hnE]) rfl (a := (k1 : Int) + 1) (b := (k2 : Int)) (by omega) (by omega) hc A
  obtain ⟨A3, hcut3, hcC3, hcl3⟩ := drop_C (l := bn T) (p := bn (N.data.toList ++ [32, 60] ++ E.data.toList ++ [62, 32])) (q := bn (ds ++ 32 :: z)) (by rw [hT, ← bn_append]; congr 1; simp) (n := n) (c := c) (m := k2 + 2) (r := nR) (k := c - (k2 + 2)) (by rw [bn_length, hn]) (by rw [bn_length, List.length_append, List.length_append, List.length_append, hnN, hnE]; show nN + 2 + nE + 2 = _; omega) (by rw [bn_length, hnR]) rfl (a := (k2 : Int) + 2) (by omega) hc A
  have hbn32 : bn (N.data.toList ++ [32]) = bn N.data.toList ++ [32] := by rw [bn_append]; rfl
  have hC1 : ∀ W, KeepBut w W gs none → (Kd.int .u8).C W A k1 (bn N.data.toList ++ [32]) := fun W h => by rw [← hbn32]; exact hcC1 W (hF W h)
  -- what is left of the name
  obtain ⟨A1, c1, ht1, hc1, hCt⟩ : ∃ A1 c1, trimmed A nN c = .slice A1 nN c1 ∧ nN ≤ c1 ∧ ∀ W, KeepBut w W gs none → (Kd.int .u8).C W A1 nN (bn N.data.toList) := by
    have hp : ∀ W, KeepBut w W gs none → (Kd.int .u8).C W A nN (bn N.data.toList) := fun W h => (take_C (l := bn N.data.toList ++ [32]) (p := bn N.data.toList) (q := [32]) rfl (n := k1) (m := nN) (c := c) (by rw [← hbn32, l1]) (by rw [bn_length, hnN]) (a := (nN : Int)) rfl (by omega) A).2 W (hC1 W h)
    unfold trimmed
    by_cases h : nN = 0
    · rw [if_pos h]
      subst h
      rw [List.length_eq_zero_iff.1 hnN]
      exact ⟨none, 0, rfl, Nat.le_refl _, fun W _ => Kd.C_nil _ _⟩
    · rw [if_neg h]; exact ⟨A, c, rfl, by omega, hp⟩
  have HTR := Aside0.mk (fun (W : World) (h : KeepBut w W gs none) => trim_any (bn N.data.toList) nN c (by rw [bn_length, hnN]) (bn_last hN.lst) (bn_head hN.fst) A W (by have := hC1 W h; rw [← hk1] at this; exact this) (by omega))
  simp only [ht1, hk1] at HTR
  have HCV1 := Aside0.mk (fun (W : World) (h : KeepBut w W gs none) => (Kd.C_string (P := Tryd.prog) (dst := 9) (c := c1) Tryd.underlying26 Tryd.underlying5 Tryd.underlying9 (hCt W h)).trans (by rw [str_bn, txt_self]))
  have HCV2 := Aside0.mk (fun (W : World) (h : KeepBut w W gs none) => (Kd.C_string (P := Tryd.prog) (dst := 9) (c := c - (k1 + 1)) Tryd.underlying26 Tryd.underlying5 Tryd.underlying9 (hcC2 W (hF W h))).trans (by rw [str_bn, txt_self]))
  have HC3 := Aside0.mk (fun (W : World) (h : KeepBut w W gs none) => hcC3 W (hF W h))
  have HCL3 := Aside0.mk hcl3
  have HNR := Aside0.mk hnR
  have HS := Aside0.mk hs
  have HZ := Aside0.mk hz
  have HB := Aside0.mk hB
  have HG := Aside0.mk hG
  have HBH := Aside0.mk (show B ≤ w.heap.size by omega)
  have b1 : ((k1 : Int) == -1) = false := by rw [beq_eq_false_iff_ne]; omega
  have b2 : ((k2 : Int) == -1) = false := by rw [beq_eq_false_iff_ne]; omega
  have b3 : decide ((k2 : Int) < (k1 : Int)) = false := decide_eq_false (by omega)
  have b4 : decide (k2 < k1) = false := decide_eq_false (by omega)
  have b5 : decide ((k2 : Int) + 2 < (n : Int)) = true := decide_eq_true (by omega)
  have b6 : decide (k2 + 2 < n) = true := decide_eq_true (by omega)
  have b7 : (0 : Int) ≤ (k1 : Int) := by omega
  have b8 : (k1 : Int) + 1 ≤ 9223372036854775807 := by omega
  have b9 : (0 : Int) ≤ (k2 : Int) := by omega
  have b10 : (k2 : Int) + 2 ≤ 9223372036854775807 := by omega
  clear hC hF hG hT hn hN hE hs hz hB hmax hnN hnE hnR hk1 hk2 hln hR0 e1 e2 m1 m2 l1 l2 hcC1 hcC2 hcC3 hcl2 hcl3 hbn32 hC1 ht1 hCt hc hsz
  go_enter Tryd.func29, Tryd.ntmps29
  go_wp2_with fail
  refine (HL1.out _ (by exact ⟨Nat.le_refl _, fun _ _ _ _ => rfl⟩)).mono ?_
  rintro e w1 ⟨rfl, ⟨j1, rfl⟩⟩
  go_wp2_with fail
  refine (HL2.out _ (by exact ⟨Nat.le_refl _, fun _ _ _ _ => rfl⟩)).mono ?_
  rintro e w2 ⟨rfl, ⟨j2, rfl⟩⟩
  clear HL1 HL2
  go_wp2_with fail
  refine (HTR.out _ (by exact ⟨Nat.le_refl _, fun _ _ _ _ => rfl⟩)).mono ?_
  rintro e w3 ⟨rfl, ⟨j3, rfl⟩⟩
  clear HTR
  obtain ⟨W1, hW1⟩ : ∃ W1, (w.drewN (j1 + j2)).drewN j3 = W1 := ⟨_, rfl⟩
  rw [hW1]
  have HK1 := Aside0.mk (show KeepBut w W1 gs none by rw [← hW1]; exact ⟨Nat.le_refl _, fun _ _ _ _ => rfl⟩)
  have HG1 := Aside0.mk (show W1.heap[gs]? = some (.cells (sgn ⟨#[]⟩ ⟨#[]⟩ 0 0) 64 (0, 0)) by rw [← hW1]; exact HG.out)
  have HB1 := Aside0.mk (show Below B w W1 by rw [← hW1]; exact pw_below_drewN (pw_below_drewN (Below.refl _ _) _) _)
  clear hW1
  have hcv1 := HCV1.out W1 HK1.out
  have hcv2 := HCV2.out (W1.setCell ⟨gs, 0, none⟩ (.string N)) (HK1.out.set_ 0 _)
  have hcell0 := (blk_cell HG1.out 0).trans (show _ = some (Value.string ⟨#[]⟩) from rfl)
  have hcell1 := (blk_cell HG1.out 1).trans (show _ = some (Value.string ⟨#[]⟩) from rfl)
  have hf0 := blk_frozen HG1.out 0
  have hf1 := blk_frozen HG1.out 1
  go_wp2_with fail
  generalize hW4 : World.setCell _ _ _ = W4
  have HK4 := Aside0.mk (show KeepBut w W4 gs none by rw [← hW4]; exact (HK1.out.set_ 0 _).set_ 1 _)
  have HG4 := Aside0.mk (show W4.heap[gs]? = some (.cells (sgn N E 0 0) 64 (0, 0)) by rw [← hW4]; exact blk_put (cs := sgn N ⟨#[]⟩ 0 0) (blk_put (cs := sgn ⟨#[]⟩ ⟨#[]⟩ 0 0) HG1.out 0 _ rfl) 1 _ rfl)
  have HB4 := Aside0.mk (show Below B w W4 by rw [← hW4]; exact (HB1.out.setCell (show B ≤ gs from HB.out) _).setCell (show B ≤ gs from HB.out) _)
  clear hW4 hcv1 hcv2 hcell0 hcell1 hf0 hf1
  have HDT := Aside0.mk (decodeTime_any W4 B gs nR (c - (k2 + 2)) N E t ds z zv A3 HB.out HS.out HZ.out HNR.out (HC3.out W4 HK4.out) HCL3.out (fun W' h => HC3.out W' (HK4.out.trans h (.inl rfl))) HG4.out)
  refine HDT.out.mono ?_
  rintro e w5 ⟨rfl, hg5, hb5⟩
  have HG5 := Aside0.mk hg5
  have HB5 := Aside0.mk (HB4.out.trans hb5)
  clear hg5 hb5 HDT
  go_wp2_with fail
  refine bodyPost_end (results_none rfl _ _ _) rfl ⟨rfl, HG5.out, HB5.out⟩
end Go.Proofs.YtmdffoplfiamlaaDoor.who
