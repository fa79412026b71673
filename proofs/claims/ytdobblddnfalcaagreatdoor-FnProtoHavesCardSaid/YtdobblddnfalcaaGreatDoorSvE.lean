/- Names of objects as rows of 20 bytes; impl.hashesOf. Names that rise stand for rows of bytes that rise (plain). What spec.GoodHashes says of names (plain). -/
import Derived.Test.YtdobblddnfalcaaGreatDoorSvA
import Derived.Test.YtdobblddnfalcaaGreatDoorEncS
import Derived.Test.YtdobblddnfalcaaGreatDoorHashH
import Derived.Test.YtdobblddnfalcaaGreatDoorMFnProtoHavesx2
import Derived.Sort.Walk0
import Derived.Test.YtdobblddnfalcaaGreatDoorOpens
namespace Go.Proofs.YtdobblddnfalcaaGreatDoor.hv
section
open Go.RowKit Go.Lib Go.Proofs.YtdobblddnfalcaaGreatDoorW.PrintWords Go.Proofs.YtdobblddnfalcaaGreatDoorW.PrintLast Go.Proofs.YtdobblddnfalcaaGreatDoorW.PrintMore Go.Proofs.YtdobblddnfalcaaGreatDoor.PFnProtoHaves Go.Proofs.YtdobblddnfalcaaGreatDoor.hash
set_option linter.unusedVariables false
set_option linter.unusedSimpArgs false
set_option maxHeartbeats 1000000
set_option maxRecDepth 100000
def raw (s : ByteArray) : List UInt8 := (Hx.decode s.data.toList).1
theorem raw_says {s : ByteArray} (h : name40 s = true) : Hx.decode s.data.toList = (raw s, .ok) ∧ (raw s).length = 20 ∧ Hx.encode (raw s) = s.data.toList := by
  obtain ⟨D, h1, h2, h3⟩ := name40_decode h
  have : raw s = D := by unfold raw; rw [h1]
  rw [this]
  exact ⟨h1, h2, h3⟩
/-- A name of an object, as the 20 bytes that it stands for. -/
def kH : Kd ByteArray where
  sz := 20
  E := []
  K := fun _ s cs => name40 s = true ∧ cs = cells (raw s)
  M := fun _ _ _ s cs => name40 s = true ∧ cs = cells (raw s)
  K_len := fun h => by rw [h.2, cells, List.length_map, (raw_says h.1).2.1]
  K_one := fun h => by rw [h.2]; exact cells_one _
  K_below := fun _ h => h
  K_of_M := fun h => h
  M_mono := fun _ h => h
  M_bound := fun h => h
  M_move := fun _ h => h
  M_lower := fun _ h => h
theorem len20 {α : Type} {l : List α} (h : l.length = 20) : ∃ c0 c1 c2 c3 c4 c5 c6 c7 c8 c9 c10 c11 c12 c13 c14 c15 c16 c17 c18 c19, l = [c0, c1, c2, c3, c4, c5, c6, c7, c8, c9, c10, c11, c12, c13, c14, c15, c16, c17, c18, c19] := by
  match l, h with
  | [c0, c1, c2, c3, c4, c5, c6, c7, c8, c9, c10, c11, c12, c13, c14, c15, c16, c17, c18, c19], _ => exact ⟨c0, c1, c2, c3, c4, c5, c6, c7, c8, c9, c10, c11, c12, c13, c14, c15, c16, c17, c18, c19, rfl⟩
theorem run_buildH (W : World) (cs : List Value) (hl : cs.length = 20) :
    (Instr.buildSlice 67 1 #[(0, .agg cs.toArray)]).run Tryz.prog W = .ok (.slice (some ⟨W.heap.size, 0, none⟩) 1 1) (W.alloc (.cells cs.toArray 129 (0, 0))) := by
  obtain ⟨c0, c1, c2, c3, c4, c5, c6, c7, c8, c9, c10, c11, c12, c13, c14, c15, c16, c17, c18, c19, rfl⟩ := len20 hl
  kernel_rfl
theorem infoH : (Tryz.prog.info? 129).map (fun i => (i.zero, i.size, i.bytes)) = some (some (.agg #[.int .u8 0, .int .u8 0, .int .u8 0, .int .u8 0, .int .u8 0, .int .u8 0, .int .u8 0, .int .u8 0, .int .u8 0, .int .u8 0, .int .u8 0, .int .u8 0, .int .u8 0, .int .u8 0, .int .u8 0, .int .u8 0, .int .u8 0, .int .u8 0, .int .u8 0, .int .u8 0]), 20, 20) := by kernel_rfl
theorem fold20 (cs : List Value) (h : cs.length = 20) : List.foldl (fun (cs : Array Value) (x : Value × Nat) => cs.setIfInBounds x.snd x.fst) (#[.int .u8 0, .int .u8 0, .int .u8 0, .int .u8 0, .int .u8 0, .int .u8 0, .int .u8 0, .int .u8 0, .int .u8 0, .int .u8 0, .int .u8 0, .int .u8 0, .int .u8 0, .int .u8 0, .int .u8 0, .int .u8 0, .int .u8 0, .int .u8 0, .int .u8 0, .int .u8 0] : Array Value) cs.zipIdx = cs.toArray := by
  obtain ⟨c0, c1, c2, c3, c4, c5, c6, c7, c8, c9, c10, c11, c12, c13, c14, c15, c16, c17, c18, c19, rfl⟩ := len20 h
  kernel_rfl
theorem hashesOf_any (w : World) (A : Option Addr) (cc : Nat) (l : List ByteArray) (hC : Kd.string.C w A l.length l) (hn : l.length ≤ 1000) (hg : ∀ s ∈ l, name40 s = true) (ev : Value) (hE : w.cell? ⟨11, 0, none⟩ = some ev) :
    Calls Tryz.prog 44 #[.slice A l.length cc] w fun e w' => ∃ v, e = .returned v ∧ Kd.R kH 129 w' w.heap.size (fun _ => True) v l ∧ Below w.heap.size w w' := by
  have HC := Aside0.mk hC
  have HGD := Aside0.mk hg
  have HEV := Aside0.mk hE
  clear hC hg hE
  go_enter Tryz.func44, Tryz.ntmps44
  go_wp2_with fail
  go_loopg [3, 8] (l.length + 1) (fun kq v3 v8 w' => ∃ (j : Nat) (ov : Value), ov = v3 ∧ v8 = .int .i64 (j : Int) ∧ j ≤ l.length ∧ Aside0 (kq + j = l.length + 1) ∧ Aside0 (Kd.R kH 129 w' w.heap.size (fun _ => True) ov (l.take j)) ∧ Aside0 (Below w.heap.size w w'))
  case atStart => exact ⟨0, _, rfl, rfl, Nat.zero_le _, ⟨by omega⟩, ⟨Kd.R_nil _ _ _ _ _⟩, ⟨Below.refl _ _⟩⟩
  case round =>
    obtain ⟨j, ov, hov, rfl, hj, HK, HO, HB⟩ := hrel
    subst hov
    cases gk with
    | zero => exact absurd HK.out (by omega)
    | succ k1 =>
      obtain ⟨wo, hwo⟩ : ∃ wo : World, wo = wr := ⟨_, rfl⟩
      subst hwo
      by_cases hlt : j < l.length
      · have p1 : 0 ≤ (j : Int) := by omega
        have q1 : (j : Int) < (l.length : Int) := by omega
        have c0 : decide ((j : Int) < (l.length : Int)) = true := decide_eq_true q1
        have c1 : decide (j < l.length) = true := decide_eq_true hlt
        have w1 : wrap64 ((j : Int) + 1) = (j : Int) + 1 := by unfold wrap64; omega
        obtain ⟨ad, c, e0, _, hK, hc0⟩ := Kd.C_get (Kd.C_below HC.out HB.out) (⟨#[]⟩ : ByteArray) (j : Int) p1 q1
        subst e0
        have hK' : c = [.string (l.getD (j : Int).toNat (⟨#[]⟩ : ByteArray))] := hK
        have y0 : wo.cell? (ad.add j) = some (.string l[j]) := by
          have h1 := hc0 0 (.string (l.getD (j : Int).toNat (⟨#[]⟩ : ByteArray))) (by rw [hK']; rfl)
          have h2 : wo.cell? (ad.add (j * 1 + 0)) = some (.string (l.getD j (⟨#[]⟩ : ByteArray))) := h1
          rw [Nat.mul_one, Nat.add_zero, List.getD_eq_getElem?_getD, List.getElem?_eq_getElem hlt] at h2
          exact h2
        have HNX := Aside0.mk (HGD.out _ (List.getElem_mem hlt))
        have HTK := Aside0.mk (show l.take (j + 1) = l.take j ++ [l[j]] from List.take_succ_eq_append_getElem hlt)
        obtain ⟨x, hx⟩ : ∃ x, l[j] = x := ⟨_, rfl⟩
        rw [hx] at y0 HTK HNX
        obtain ⟨ys, hys⟩ : ∃ ys, l.take j = ys := ⟨_, rfl⟩
        have HYl := Aside0.mk (show ys.length ≤ 1000 by rw [← hys, List.length_take]; omega)
        rw [hys] at HO HTK
        have hrs := raw_says HNX.out
        have HNH := Aside0.mk (newHash x (raw x) .ok wo ev ((HB.out.cell (World.block_lt_of_cell? w _ HEV.out)).trans HEV.out) (by have := (name40_bytes HNX.out).1; omega) hrs.1 hrs.2.1)
        have hbs := fun W : World => run_buildH W (cells (raw x)) (by rw [cells, List.length_map, hrs.2.1])
        have HF := Aside0.mk (fold20 (cells (raw x)) (by rw [cells, List.length_map, hrs.2.1]))
        have hq1 : (cells (raw x)).length = 20 := by rw [cells, List.length_map, hrs.2.1]
        have hq2 : (cells (raw x)).toArray.size = 20 := by rw [List.size_toArray]; exact hq1
        clear hK hK' hc0 hx hys hrs hbs
        go_wp2_with fail
        refine HNH.out.mono ?_
        rintro e w2 ⟨rfl, hb⟩
        have HO2 := Aside0.mk (Kd.R_below HO.out hb)
        have HB2 := Aside0.mk (below_step HB.out hb)
        have HM := Aside0.mk (show kH.M w2 w.heap.size (fun _ => False) x (cells (raw x)) from ⟨HNX.out, rfl⟩)
        clear hb y0 HNH
        go_wp2_with (first | ((with_reducible refine gate_builtin (b := .append) (xs := #[.tmp 12, .tmp 15]) rfl ?_); at_builtin; go_must (rw [HF.out]; refine Kd.R_append kH (w0 := w) w.heap.size rfl (.tmp 12) (.tmp 15) 67 129 _ 20 rfl Tryz.underlying67 infoH rfl (by decide) (by decide) ov ys x (cells (raw x)) (fun _ => True) (fun _ => False) rfl (by first | (go_simp; done) | (go_simp; rfl)) HM.out (fun k hk => hk.elim) (fun _ _ => trivial) HO2.out HB2.out HB2.out.size (by have := HYl.out; omega) ?_); intro v7 w7 ho hb hg hat; go_must (have HO7 := Aside0.mk ho; have HB7 := Aside0.mk hb; clear ho hb hg hat)) | fail)
        go_roundg k1
        case measure => have := HK.out; omega
        case rel => exact ⟨j + 1, _, rfl, by go_num, hlt, ⟨by have := HK.out; omega⟩, ⟨by rw [HTK.out]; exact HO7.out⟩, HB7⟩
      · have c0 : decide ((j : Int) < (l.length : Int)) = false := decide_eq_false (by omega)
        have c1 : decide (j < l.length) = false := decide_eq_false hlt
        have HT := Aside0.mk (show l.take j = l from List.take_of_length_le (by omega))
        rw [HT.out] at HO
        go_wp2_with fail
        go_ret
        exact ⟨_, rfl, HO.out, HB.out⟩
end
section
open Go.RowKit Go.Lib Go.Proofs.YtdobblddnfalcaaGreatDoorW.PrintWords Go.Proofs.YtdobblddnfalcaaGreatDoorW.PrintLast Go.Proofs.YtdobblddnfalcaaGreatDoorW.PrintMore Go.Proofs.YtdobblddnfalcaaGreatDoor.PFnProtoHaves Go.Proofs.YtdobblddnfalcaaGreatDoor.hash
set_option linter.unusedVariables false
set_option linter.unusedSimpArgs false
set_option maxHeartbeats 1000000
theorem digit_lt : ∀ a b : Fin 16, a.val < b.val → Hx.digit a.val < Hx.digit b.val := by decide +kernel
theorem enc_cons (d : UInt8) (D : List UInt8) : Hx.encode (d :: D) = Hx.digit (d.toNat / 16) :: Hx.digit (d.toNat % 16) :: Hx.encode D := by
  unfold Hx.encode
  rw [List.flatMap_cons]
  rfl
theorem enc_lt : ∀ (D E : List UInt8), D.length = E.length → compareBytes D E < 0 → Hx.encode D < Hx.encode E
  | [], [], _, h => by simp [compareBytes] at h
  | [], _ :: _, h, _ => by simp at h
  | _ :: _, [], h, _ => by simp at h
  | d :: D, e :: E, hl, h => by
    rw [enc_cons, enc_cons]
    unfold compareBytes at h
    have hd := d.toNat_lt
    have he := e.toNat_lt
    by_cases h1 : d < e
    · have h1' : d.toNat < e.toNat := UInt8.lt_iff_toNat_lt.1 h1
      rcases Nat.lt_or_ge (d.toNat / 16) (e.toNat / 16) with h2 | h2
      · exact List.cons_lt_cons_iff.2 (.inl (digit_lt ⟨d.toNat / 16, by omega⟩ ⟨e.toNat / 16, by omega⟩ h2))
      · have h3 : d.toNat / 16 = e.toNat / 16 := by omega
        refine List.cons_lt_cons_iff.2 (.inr ⟨by rw [h3], List.cons_lt_cons_iff.2 (.inl (digit_lt ⟨d.toNat % 16, by omega⟩ ⟨e.toNat % 16, by omega⟩ ?_))⟩)
        show d.toNat % 16 < e.toNat % 16
        omega
    · rw [if_neg h1] at h
      by_cases h2 : e < d
      · rw [if_pos h2] at h
        exact absurd h (by decide)
      · rw [if_neg h2] at h
        have h3 : d = e := UInt8.le_antisymm (UInt8.not_lt.1 h2) (UInt8.not_lt.1 h1)
        subst h3
        exact List.cons_lt_cons_iff.2 (.inr ⟨rfl, List.cons_lt_cons_iff.2 (.inr ⟨rfl, enc_lt D E (by simpa using hl) h⟩)⟩)
/-- Names that rise. -/
structure Rise (l : List ByteArray) : Prop where
  names : ∀ s ∈ l, name40 s = true
  zero : ∀ s ∈ l, s.data.toList ≠ List.replicate 40 48
  rise : ∀ j (h : j + 1 < l.length), l[j].data.toList < l[j + 1].data.toList
  most : l.length ≤ 1000
theorem Rise.lt {l : List ByteArray} (h : Rise l) (j : Nat) : ∀ (d : Nat) (hd : j + d + 1 < l.length), l[j].data.toList < l[j + d + 1].data.toList
  | 0, hd => h.rise j hd
  | d + 1, hd => List.lt_trans (Rise.lt h j d (by omega)) (h.rise (j + d + 1) hd)
theorem Rise.less {l : List ByteArray} (h : Rise l) (i j : Nat) (hji : j < i) (hi : i < l.length) : decide (compareBytes (raw l[i]) (raw (l[j]'(by omega))) < 0) = false := by
  refine decide_eq_false (fun hc => ?_)
  have h1 := raw_says (h.names _ (List.getElem_mem hi))
  have h2 := raw_says (h.names _ (List.getElem_mem (show j < l.length by omega)))
  have h3 := enc_lt _ _ (by rw [h1.2.1, h2.2.1]) hc
  rw [h1.2.2, h2.2.2] at h3
  obtain ⟨d, rfl⟩ : ∃ d, i = j + d + 1 := ⟨i - j - 1, by omega⟩
  exact absurd (List.lt_trans h3 (h.lt j d hi)) (List.lt_irrefl _)
theorem srt_of {w : World} {ad : Addr} {n c : Nat} {l : List ByteArray} (hC : kH.C w (some ad) n l) (hn : n = l.length) (h : Rise l) : Srt w (some ad) n c := by
  intro W hb i j hji hi
  subst hn
  have hCW := Kd.C_below hC hb
  have hget : ∀ k (hk : k < l.length), Lie W (ad.add (k * 20)) (raw l[k]) := by
    intro k hk
    obtain ⟨ad', e, hc⟩ := hCW.2.2 (by omega)
    cases e
    obtain ⟨cs, _, hK, hcell⟩ := hc k l[k] (List.getElem?_eq_getElem hk)
    intro q x hx
    have hcs : cs = cells (raw l[k]) := hK.2
    have h1 := hcell q (.int .u8 (x.toNat : Int)) (by rw [hcs, cells, List.getElem?_map, hx]; rfl)
    have h2 : W.cell? (ad.add (k * 20 + q)) = some (.int .u8 (x.toNat : Int)) := h1
    rw [opens.add_add]
    exact h2
  refine (less_any W ad l.length c i j hi (by omega) _ _ (hget i hi) (hget j (by omega)) (raw_says (h.names _ (List.getElem_mem hi))).2.1 (raw_says (h.names _ (List.getElem_mem (show j < l.length by omega)))).2.1 false (h.less i j hji hi)).mono ?_
  rintro e w1 ⟨rfl, m, rfl⟩
  exact ⟨rfl, pw_below_drewN (Below.refl _ _) _⟩
end
section
open Go.RowKit Go.Lib Go.Proofs.YtdobblddnfalcaaGreatDoorW.PrintWords Go.Proofs.YtdobblddnfalcaaGreatDoorW.PrintLast Go.Proofs.YtdobblddnfalcaaGreatDoorW.PrintMore Go.Proofs.YtdobblddnfalcaaGreatDoor.PFnProtoHaves Go.Proofs.YtdobblddnfalcaaGreatDoor.hash
set_option linter.unusedVariables false
set_option linter.unusedSimpArgs false
set_option maxHeartbeats 1000000
/-- With enough steps something is said, and if it is yes, Q holds. -/
def Says (f : Nat → Option Bool) (Q : Prop) : Prop := ∃ F b, (∀ k, F ≤ k → f k = some b) ∧ (b = true → Q)
theorem Says.const {Q : Prop} (b : Bool) (h : b = true → Q) : Says (fun _ => some b) Q := ⟨0, b, fun _ _ => rfl, h⟩
theorem Says.no {Q : Prop} : Says (fun _ => some false) Q := Says.const false (fun h => by cases h)
theorem Says.step {f g : Nat → Option Bool} {Q : Prop} (h : Says f Q) (e : ∀ k, g (k + 1) = f k) : Says g Q := by
  obtain ⟨F, b, h1, h2⟩ := h
  refine ⟨F + 1, b, fun k hk => ?_, h2⟩
  obtain ⟨k, rfl⟩ : ∃ m, k = m + 1 := ⟨k - 1, by omega⟩
  rw [e k, h1 k (by omega)]
theorem Says.ite {f g : Nat → Option Bool} {Q c : Prop} [Decidable c] (h1 : c → Says f Q) (h2 : ¬ c → Says g Q) : Says (fun k => if c then f k else g k) Q := by
  by_cases h : c
  · obtain ⟨F, b, h3, h4⟩ := h1 h
    exact ⟨F, b, fun k hk => by show (if c then f k else g k) = _; rw [if_pos h]; exact h3 k hk, h4⟩
  · obtain ⟨F, b, h3, h4⟩ := h2 h
    exact ⟨F, b, fun k hk => by show (if c then f k else g k) = _; rw [if_neg h]; exact h3 k hk, h4⟩
theorem Says.bind {f g : Nat → Option Bool} {P Q : Prop} (h1 : Says f P) (h2 : P → Says g Q) : Says (fun k => (f k).bind fun t => if t = true then g k else some false) Q := by
  obtain ⟨F, b, h3, h4⟩ := h1
  cases b with
  | false => exact ⟨F, false, (fun k hk => by show ((f k).bind fun t => if t = true then g k else some false) = _; rw [h3 k hk]; rfl), fun h => by cases h⟩
  | true =>
    obtain ⟨F2, b2, h5, h6⟩ := h2 (h4 rfl)
    exact ⟨F + F2, b2, (fun k hk => by show ((f k).bind fun t => if t = true then g k else some false) = _; rw [h3 k (by omega)]; exact h5 k (by omega)), h6⟩
theorem Says.mono {f : Nat → Option Bool} {P Q : Prop} (h : Says f P) (k : P → Q) : Says f Q := by
  obtain ⟨F, b, h1, h2⟩ := h
  exact ⟨F, b, h1, fun e => k (h2 e)⟩
def okH (c : Int) : Prop := (48 ≤ c ∧ c ≤ 57) ∨ (97 ≤ c ∧ c ≤ 102)
theorem okH_hexc (s : ByteArray) (k : Nat) (h : k < s.size) (ho : okH (bt s (k : Int))) : hexc (s[k]'h) = true := by
  have h1 := bt_at s (k : Int) (by rw [Int.toNat_natCast]; exact h)
  rw [← h1] at ho
  have h2 : ((s[k]'h).toNat : Int) = ((s[(k : Int).toNat]'(by rw [Int.toNat_natCast]; exact h)).toNat : Int) := rfl
  rw [← h2] at ho
  unfold okH at ho
  unfold hexc
  simp only [Bool.or_eq_true, Bool.and_eq_true, decide_eq_true_eq]
  omega
theorem name_l0 (s : ByteArray) (hs : s.size ≤ 2147483647) : ∀ (d i : Nat), i + d = s.size → (∀ j : Nat, j < i → okH (bt s (j : Int))) → Says (fun k => spec_IsName.l0 k s (s.size : Int) (i : Int)) (name40 s = true) := by
  intro d
  induction d with
  | zero =>
    intro i hi hq
    refine Says.step (Says.const ((s.size : Int) == 40) (fun h => ?_)) (fun k => by rw [spec_IsName.l0, if_neg (by omega)])
    have h1 := beq_iff_eq.1 h
    unfold name40
    exact decide_eq_true ⟨by omega, fun k hk => okH_hexc s k hk (hq k (by omega))⟩
  | succ d ih =>
    intro i hi hq
    have IH : okH (bt s (i : Int)) → Says (fun k => spec_IsName.l0 k s (s.size : Int) (wrap64 ((i : Int) + 1))) (name40 s = true) := fun h => by
      rw [show wrap64 ((i : Int) + 1) = ((i + 1 : Nat) : Int) by unfold wrap64; omega]
      refine ih (i + 1) (by omega) (fun j hj => ?_)
      by_cases e : j = i
      · subst e; exact h
      · exact hq j (by omega)
    refine Says.step ?_ (fun k => by rw [spec_IsName.l0, if_pos (by omega), if_pos (by omega), if_pos (by omega)])
    generalize bt s (i : Int) = c at IH
    repeat (first | exact Says.no | exact IH (by unfold okH; omega) | refine Says.ite (fun _ => ?_) (fun _ => ?_))
theorem name_says (s : ByteArray) (hs : s.size ≤ 2147483647) : Says (fun k => spec_IsName.f k s) (name40 s = true) := name_l0 s hs s.size 0 (by omega) (fun j hj => by omega)
theorem goodHash_says (s : ByteArray) (hs : s.size ≤ 2147483647) : Says (fun k => spec_GoodHash.f k s) (name40 s = true ∧ s.data.toList ≠ List.replicate 40 48) := by
  unfold spec_GoodHash.f
  refine Says.bind (name_says s hs) (fun hn => Says.const _ (fun h => ⟨hn, fun he => ?_⟩))
  rw [ByteArray.toList_eq, he] at h
  exact absurd h (by decide)
theorem rdOf_list (l : List ByteArray) (j : Nat) (hj : j < l.length) : rdOf ByteArray.empty l (j : Int) = l[j] := by
  unfold rdOf
  rw [Int.toNat_natCast, List.getD_eq_getElem?_getD, List.getElem?_eq_getElem hj]
  rfl
theorem rising_l0 (l : List ByteArray) (hl : l.length ≤ 2147483647) : ∀ (d i : Nat), i + d = l.length → (∀ j (h : j + 1 < l.length), j + 1 < i + 1 → l[j].data.toList < l[j + 1].data.toList) →
    Says (fun k => spec_Rising.l0 k l ((i + 1 : Nat) : Int)) (∀ j (h : j + 1 < l.length), l[j].data.toList < l[j + 1].data.toList) := by
  intro d
  induction d with
  | zero =>
    intro i hi hq
    exact Says.step (Says.const true (fun _ j h => hq j h (by omega))) (fun k => by rw [spec_Rising.l0, if_neg (by omega)])
  | succ d ih =>
    intro i hi hq
    by_cases hlt : i + 1 < l.length
    · have e1 : wrap64 (((i + 1 : Nat) : Int) - 1) = (i : Int) := by unfold wrap64; omega
      have e2 : wrap64 (((i + 1 : Nat) : Int) + 1) = ((i + 1 + 1 : Nat) : Int) := by unfold wrap64; omega
      refine Says.step (f := fun k => if Op.bytesLess l[i].toList l[i + 1].toList = true then spec_Rising.l0 k l ((i + 1 + 1 : Nat) : Int) else some false) ?_ (fun k => by
        rw [spec_Rising.l0, if_pos (by omega), e1, if_pos (by omega), if_pos (by omega), if_pos (by omega), rdOf_list l i (by omega), rdOf_list l (i + 1) hlt, e2])
      refine Says.ite (fun h => ih (i + 1) (by omega) (fun j hj hji => ?_)) (fun _ => Says.no)
      rw [bytesLess_eq, ByteArray.toList_eq, ByteArray.toList_eq] at h
      by_cases e : j = i
      · subst e; exact of_decide_eq_true h
      · exact hq j hj (by omega)
    · exact Says.step (Says.const true (fun _ j h => hq j h (by omega))) (fun k => by rw [spec_Rising.l0, if_neg (by omega)])
theorem hashes_l0 (l : List ByteArray) (hl : l.length ≤ 2147483647) (hs : ∀ s ∈ l, s.size ≤ 2147483647) : ∀ (d i : Nat), i + d = l.length → (∀ j (h : j < l.length), j < i → name40 l[j] = true ∧ l[j].data.toList ≠ List.replicate 40 48) →
    Says (fun k => spec_GoodHashes.l0 k l l (l.length : Int) (i : Int)) (Rise l) := by
  intro d
  induction d with
  | zero =>
    intro i hi hq
    refine Says.step (f := fun k => (spec_Rising.f k l).bind fun t => if t = true then some (decide ((l.length : Int) ≤ 1000)) else some false) ?_ (fun k => by rw [spec_GoodHashes.l0, if_neg (by omega)])
    have hr := rising_l0 l hl l.length 0 (by omega) (fun j h hj => by omega)
    refine Says.bind (g := fun _ => some (decide ((l.length : Int) ≤ 1000))) hr (fun hrise => Says.const _ (fun h => ?_))
    have hmem : ∀ s ∈ l, name40 s = true ∧ s.data.toList ≠ List.replicate 40 48 := fun s hsm => by
      obtain ⟨j, hj, rfl⟩ := List.getElem_of_mem hsm
      exact hq j hj (by omega)
    exact ⟨fun s h => (hmem s h).1, fun s h => (hmem s h).2, hrise, by have := of_decide_eq_true h; omega⟩
  | succ d ih =>
    intro i hi hq
    have hlt : i < l.length := by omega
    refine Says.step (f := fun k => (spec_GoodHash.f k l[i]).bind fun t => if t = true then spec_GoodHashes.l0 k l l (l.length : Int) ((i + 1 : Nat) : Int) else some false) ?_ (fun k => by
      rw [spec_GoodHashes.l0, if_pos (by omega), if_pos (by omega), if_pos (by omega), rdOf_list l i hlt, show wrap64 ((i : Int) + 1) = ((i + 1 : Nat) : Int) by unfold wrap64; omega])
    refine Says.bind (goodHash_says _ (hs _ (List.getElem_mem hlt))) (fun hg => ih (i + 1) (by omega) (fun j hj hji => ?_))
    by_cases e : j = i
    · subst e; exact hg
    · exact hq j hj (by omega)
theorem hashes_says (l : List ByteArray) (hl : l.length ≤ 2147483647) (hs : ∀ s ∈ l, s.size ≤ 2147483647) : Says (fun k => spec_GoodHashes.f k l) (Rise l) := hashes_l0 l hl hs l.length 0 (by omega) (fun j hj h => by omega)
end
end Go.Proofs.YtdobblddnfalcaaGreatDoor.hv
