/- Packet lines: hexDecode, readPayloadLen. -/
import Derived.Test.YtghcecngdhcjpaaDoorPktC
import Derived.Deep.MidRow
namespace Go.Proofs.YtghcecngdhcjpaaDoor.pkt
open Go.RowKit Go.Proofs.YtghcecngdhcjpaaDoorW.PrintWords Go.Proofs.YtghcecngdhcjpaaDoorW.PrintLast Go.Proofs.YtghcecngdhcjpaaDoorW.PrintMore Go.Proofs.YtghcecngdhcjpaaDoor.PFnSideBack
set_option linter.unusedVariables false
set_option linter.unusedSimpArgs false
set_option maxHeartbeats 2000000
set_option maxRecDepth 100000
/-- Digits, one after the other. -/
def hexp : List Int → Int → Option Int
  | [], n => some n
  | c :: r, n => (hexd c).bind fun x => hexp r (n * 16 + x)
theorem hexp_hex4 {l : List Int} (hl : l.length = 4) : hexp l 0 = hex4 l := by
  match l, hl with
  | [a, b, c, d], _ =>
    simp only [hexp, hex4]
    cases hexd a with
    | none => rfl
    | some x =>
      cases hexd b with
      | none => rfl
      | some y =>
        cases hexd c with
        | none => rfl
        | some z =>
          cases hexd d with
          | none => rfl
          | some u => simp
theorem pw {j : Nat} (h : j < 4) : (16 : Int) ^ j ≤ 4096 := by
  rcases (by omega : j = 0 ∨ j = 1 ∨ j = 2 ∨ j = 3) with rfl | rfl | rfl | rfl <;> decide
theorem bv_at {w : World} {g : Nat} {t : TypeId} {fr : Nat × Nat} {l : List Int} (h : w.heap[g]? = some (.cells (bv l).toArray t (0, 0))) (j : Nat) (hj : j < l.length) : w.cell? ⟨g, j, none⟩ = some (.int .u8 l[j]) := by
  refine (blk_cell h j).trans ?_
  rw [← Array.getElem?_toList, bv, List.getElem?_map, List.getElem?_eq_getElem hj]; rfl
def hexV (a3 : Addr) (l : List Int) : Value := match hex4 l with | some n => .tuple #[.int .i64 n, .nilIface] | none => .tuple #[.int .i64 0, (.iface 179 (.pointer (some a3)))]
theorem hexDecode_any (l : List Int) (hl : l.length = 4) (hb : ∀ x ∈ l, 0 ≤ x ∧ x < 256) (a3 : Addr) (w : World) (hE : w.cell? ⟨6, 0, none⟩ = some (.iface 179 (.pointer (some a3)))) :
    Calls Tryd.prog 74 #[.agg (bv l).toArray] w fun e w' => e = .returned (hexV a3 l) ∧ Below w.heap.size w w' := by
  have HE := Aside0.mk hE
  have HX := Aside0.mk hb
  have HP := Aside0.mk (hexp_hex4 hl)
  obtain ⟨hv, hhv⟩ : ∃ hv, hex4 l = hv := ⟨_, rfl⟩
  unfold hexV
  rw [hhv] at HP ⊢
  clear hE hb hhv
  go_enter Tryd.func74, Tryd.ntmps74
  go_wp2_with (first | ((with_reducible refine gate_dst (N := 1) rfl ?_); refine box_event ?hg (N := 1) ?hd (cs := (bv l).toArray) (t := 124) ?hr ?_; (case hd => rfl); (case hg => rfl); (case hr => first | (go_simp; done) | (go_simp; rfl)); intro gb hgb w1 hbox hb1; have HBX := Aside0.mk hbox; have HB1 := Aside0.mk (below_step (Below.refl w.heap.size w) hb1); clear hbox hb1 hgb) | fail)
  go_loopg [4, 5] 5 (fun kq v4 v5 w' => ∃ (j : Nat) (n : Int), v5 = .int .i64 (j : Int) ∧ v4 = .int .i64 n ∧ j ≤ 4 ∧ 0 ≤ n ∧ Aside0 (n + 1 ≤ 16 ^ j) ∧ Aside0 (kq + j = 5) ∧ Aside0 (hexp (l.drop j) n = hv) ∧ Aside0 (w'.heap[gb]? = some (.cells (bv l).toArray 124 (0, 0))) ∧ Aside0 (Below w.heap.size w w'))
  case atStart => exact ⟨0, 0, rfl, rfl, by omega, by omega, ⟨by decide⟩, ⟨rfl⟩, HP, HBX, HB1⟩
  case round =>
    clear HP HBX HB1
    obtain ⟨j, n, rfl, rfl, hj, hn, HNJ, HK, HP, HBX, HB⟩ := hrel
    cases gk with
    | zero => exact absurd HK.out (by omega)
    | succ k1 =>
      by_cases hlt : j < 4
      · have c0 : decide ((j : Int) < 4) = true := decide_eq_true (by omega)
        have c1 : decide (j < 4) = true := decide_eq_true hlt
        have p1 : (0 : Int) ≤ (j : Int) := by omega
        have p2 : (j : Int) < 4 := by omega
        have hjl : j < l.length := by omega
        have hcell := bv_at (fr := (0, 0)) HBX.out j hjl
        have hxr := HX.out _ (List.getElem_mem hjl)
        have HAH := Aside0.mk (asciiHex_any l[j] a3 wr hxr.1 hxr.2 ((HB.out.cell (World.block_lt_of_cell? w _ HE.out)).trans HE.out))
        have hstep : hexp (l.drop j) n = (hexd l[j]).bind fun x => hexp (l.drop (j + 1)) (n * 16 + x) := by rw [List.drop_eq_getElem_cons hjl]; rfl
        have HP2 := Aside0.mk (hstep.symm.trans HP.out)
        obtain ⟨cj, hcj⟩ : ∃ cj, l[j] = cj := ⟨_, rfl⟩
        rw [hcj] at hcell HAH HP2 hxr
        have HW3 := Aside0.mk ((HB.out.cell (World.block_lt_of_cell? w _ HE.out)).trans HE.out)
        unfold digitV at HAH
        have hb16 := Int.le_trans HNJ.out (pw hlt)
        clear hstep hcj HP
        cases hd : hexd cj with
        | none =>
          rw [hd] at HAH HP2
          have HPN : none = hv := HP2.out
          subst HPN
          clear hd hxr
          go_wp2_with fail
          refine HAH.out.mono ?_
          rintro e w3 ⟨rfl, ⟨nd, rfl⟩⟩
          clear HAH
          have HW4 := Aside0.mk (show (wr.drewN nd).drew.cell? ⟨6, 0, none⟩ = some (.iface 179 (.pointer (some a3))) from HW3.out)
          go_wp2_with fail
          refine start_ (n := 3) (S := fun w' => w'.cell? ⟨6, 0, none⟩ = some (.iface 179 (.pointer (some a3)))) (ds := []) #[false, false, false] (by kernel_rfl) rfl rfl (HW4.out) (fun hHeld => ?_)
          refine pure_ (i := 1) (N := some 2) (v := ?_) (a' := ?_) #[false, true, false] rfl rfl (by kernel_rfl) (fun _ _ _ h => h) (Or.inl ⟨by rfl, ?_⟩) ?_ ?_
          rotate_left
          · intro w'
            go_simp
            with_reducible rfl
          rotate_left
          · simp only [Act.put, List.setIfInBounds_toArray, List.set_cons_zero, List.set_cons_succ, i64_w, i32_w]
            rfl
          refine take_ (i := 0) (N := some 21) (v := ?_) (a' := ?_) #[true, true, false] rfl rfl (by kernel_rfl) (fun _ _ _ h => h) (Or.inl ⟨by rfl, ?_⟩) hHeld ?_ ?_
          rotate_left
          · intro w' s0
            go_simp
            with_reducible rfl
          rotate_left
          · simp only [Act.put, List.setIfInBounds_toArray, List.set_cons_zero, List.set_cons_succ, i64_w, i32_w]
            rfl
          refine pure_ (i := 2) (N := some 3) (v := ?_) (a' := ?_) #[true, true, true] rfl rfl (by kernel_rfl) (fun _ _ _ h => h) (Or.inl ⟨by rfl, ?_⟩) ?_ ?_
          rotate_left
          · intro w'
            go_simp
            with_reducible rfl
          rotate_left
          · simp only [Act.put, List.setIfInBounds_toArray, List.set_cons_zero, List.set_cons_succ, i64_w, i32_w]
            rfl
          refine done_ (by kernel_rfl) ?_
          go_wp2
          go_ret2
          exact ⟨rfl, below_drew1 (below_step HB.out (pw_below_drewN (Below.refl _ _) nd))⟩
        | some x =>
          rw [hd] at HAH HP2
          obtain ⟨hx0, hx1⟩ := hexd_range hd
          have HPS : hexp (l.drop (j + 1)) (n * 16 + x) = hv := HP2.out
          have HQ := Aside0.mk HPS
          have q1 : wrap64 (16 * n) = 16 * n := w64 (by omega) (by omega)
          have q2 : wrap64 (16 * n + x) = 16 * n + x := w64 (by omega) (by omega)
          have q3 : wrap64 x = x := w64 (by omega) (by omega)
          have HNN := Aside0.mk (show n * 16 + x + 1 ≤ 16 ^ (j + 1) by rw [Int.pow_succ]; have := HNJ.out; omega)
          clear hd HPS hxr HNJ
          go_wp2_with fail
          refine HAH.out.mono ?_
          rintro e w3 ⟨rfl, ⟨nd, rfl⟩⟩
          clear HAH
          go_wp2_with fail
          go_roundg k1
          case measure => have := HK.out; omega
          case rel => exact ⟨j + 1, n * 16 + x, by go_num, by first | (rw [q1, q2, Int.mul_comm 16 n]; done) | (simp [q1, q2, q3, Int.mul_comm]; done) | (congr 1; omega), by omega, by omega, HNN, ⟨by have := HK.out; omega⟩, HQ, ⟨HBX.out⟩, ⟨below_step HB.out (pw_below_drewN (Below.refl _ _) nd)⟩⟩
      · obtain rfl : j = 4 := by omega
        have HPE : some n = hv := by have := HP.out; rwa [List.drop_of_length_le (by omega)] at this
        subst HPE
        go_wp2_with fail
        go_ret2
        exact ⟨rfl, HB.out⟩
/-! ### The scanner -/
def scL (gr : Nat) (err pv : Value) (l : List Int) : List Value := [.iface 63 (.pointer (some ⟨gr, 0, none⟩)), err, pv] ++ bv l
def AtSc (w : World) (gs gr : Nat) (err pv : Value) (l : List Int) : Prop := w.heap[gs]? = some (.cells (scL gr err pv l).toArray 126 (0, 0))
theorem sc_splice (gr : Nat) (err pv : Value) (l ys : List Int) : splice (scL gr err pv l) 3 (bv ys) = scL gr err pv (ys ++ l.drop ys.length) := by
  have h : (scL gr err pv l).drop (3 + (bv ys).length) = bv (l.drop ys.length) := by
    rw [bv_len, scL, Nat.add_comm, ← List.drop_drop]
    simp [bv, List.map_drop]
  unfold splice
  rw [h]
  simp [scL, bv]
theorem sc_row {w : World} {gs gr : Nat} {err pv : Value} {l : List Int} (h : AtSc w gs gr err pv l) : w.rangeAt gs 3 (bv l) := by
  intro j v hj
  refine (blk_cell h (3 + j)).trans ?_
  rw [← Array.getElem?_toList]
  show (scL gr err pv l)[3 + j]? = _
  rw [scL, List.getElem?_append_right (by simp)]
  simpa using hj
theorem AtRd.below {w w' : World} {gr : Nat} {A : Option Addr} {n c i : Nat} (h : AtRd w gr A n c i) (hb : Below w.heap.size w w') : AtRd w' gr A n c i := by
  obtain ⟨pr, h⟩ := h
  exact ⟨pr, (hb.block _ (blk_lt h)).trans h⟩
/-- What the length ahead of a line says. -/
inductive PL where
  | eof
  | inv
  | len (n : Nat)
def plen (ys : List Int) : PL := if ys = [] then .eof else match hex4 ys with | none => .inv | some n => if n = 0 then .len 0 else if n ≤ 4 ∨ 65524 < n then .inv else .len (n - 4).toNat
def lenV (a1 a3 : Addr) (p : PL) : Value := match p with | .eof => .tuple #[.int .i64 0, (.iface 179 (.pointer (some a1)))] | .inv => .tuple #[.int .i64 0, (.iface 179 (.pointer (some a3)))] | .len n => .tuple #[.int .i64 (n : Int), .nilIface]
theorem Near.of_below {w w' : World} {g : Nat} {row : Option Nat} (h : Below w.heap.size w w') : Near w w' g row := ⟨h.os, h.tape, h.output, h.size, fun k hk _ _ => h.block k hk⟩
def LenPost (w : World) (gs gr : Nat) (A : Option Addr) (c : Nat) (xs : List Int) (i : Nat) (err pv : Value) (a1 a3 : Addr) (e : Ending) (w' : World) : Prop := Near w w' gr (some gs) ∧ AtRd w' gr A xs.length c (i + ((xs.drop i).take 4).length) ∧ (∃ l', l'.length = 4 ∧ AtSc w' gs gr err pv l') ∧ e = .returned (lenV a1 a3 (plen ((xs.drop i).take 4)))
theorem payloadLen_any (w0 w : World) (A : Option Addr) (c : Nat) (xs : List Int) (gs gr i : Nat) (err pv : Value) (l : List Int) (a1 a2 a3 : Addr) (hS : (Kd.int .u8).C w0 A xs.length xs) (hc : xs.length ≤ c) (hby : ∀ x ∈ xs, 0 ≤ x ∧ x < 256) (hB : Below w0.heap.size w0 w) (hR : AtRd w gr A xs.length c i) (hG : AtSc w gs gr err pv l) (hl : l.length = 4) (hne : gs ≠ gr) (hge : w0.heap.size ≤ gr) (hgs : w0.heap.size ≤ gs) (hi : i ≤ xs.length) (hx : xs.length ≤ 2147483647) (hE : Errs w0 a1 a2 a3) :
    Calls Tryd.prog 55 #[.pointer (some ⟨gs, 0, none⟩)] w (LenPost w gs gr A c xs i err pv a1 a3) := by
  have HRF := Aside0.mk (readFull_any w0 w.drew A c xs gr gs i 3 4 4 (scL gr err pv l) 126 a1 a2 a3 (by omega) (by omega) hS hc (below_drew1 hB) (by obtain ⟨pr, h⟩ := hR; exact ⟨pr, h⟩) hG hne (by simp [scL, bv, hl]) hge hgs hi hx (by omega) hE)
  have HSCd := Aside0.mk (show w.drew.heap[gs]? = some (.cells (scL gr err pv l).toArray 126 (0, 0)) from hG)
  have HB := Aside0.mk hB
  have HE := Aside0.mk hE
  have HNE := Aside0.mk hne
  have HGE := Aside0.mk hge
  have HGS := Aside0.mk hgs
  have HBY := Aside0.mk (show ∀ x ∈ (xs.drop i).take 4, 0 ≤ x ∧ x < 256 from fun x hx => hby x (List.mem_of_mem_drop (List.mem_of_mem_take hx)))
  have HYL := Aside0.mk (show ((xs.drop i).take 4).length ≤ 4 by rw [List.length_take]; omega)
  unfold FullPost at HRF
  rw [sc_splice] at HRF
  obtain ⟨ys, hys⟩ : ∃ ys, (xs.drop i).take 4 = ys := ⟨_, rfl⟩
  unfold LenPost
  rw [hys] at HRF HBY HYL ⊢
  obtain ⟨m, hm⟩ : ∃ m, ys.length = m := ⟨_, rfl⟩
  rw [hm] at HRF HYL ⊢
  obtain ⟨pl, hpl⟩ : ∃ pl, plen ys = pl := ⟨_, rfl⟩
  rw [hpl]
  have HPQ := Aside0.mk hpl
  clear hpl
  have HM := Aside0.mk hm
  have HL4 := Aside0.mk (show (ys ++ l.drop m).length = 4 by rw [List.length_append, List.length_drop, hm, hl]; have := HYL.out; omega)
  obtain ⟨l1, hl1⟩ : ∃ l1, ys ++ l.drop m = l1 := ⟨_, rfl⟩
  rw [hl1] at HRF HL4
  have HL1 := Aside0.mk hl1
  have h48 := Tryd.underlying124
  have hmle := HYL.out
  obtain ⟨ye, hye⟩ : ∃ ye : Value, (if m = 4 then .nilIface else if m = 0 then (.iface 179 (.pointer (some a1))) else (.iface 179 (.pointer (some a2)))) = ye := ⟨_, rfl⟩
  rw [hye] at HRF
  have HYE := Aside0.mk hye
  clear hS hR hG hB hne hge hgs hE hys hm hl1 hye hby
  go_enter Tryd.func55, Tryd.ntmps55
  go_wp2_with fail
  refine start_ (n := 14) (S := fun w' => w'.cell? ⟨gs, 0, none⟩ = some (.iface 63 (.pointer (some ⟨gr, 0, none⟩)))) (ds := [8]) #[false, false, false, false, false, false, false, false, false, false, false, false, false, false] (by kernel_rfl) rfl rfl ((blk_cell HSCd.out 0).trans rfl) (fun hHeld => ?_)
  refine pure_ (i := 0) (N := some 9) (v := ?_) (a' := ?_) #[true, false, false, false, false, false, false, false, false, false, false, false, false, false] rfl rfl (by kernel_rfl) (fun _ _ _ h => h) (Or.inl ⟨by rfl, ?_⟩) ?_ ?_
  rotate_left
  · intro w'
    go_simp
    with_reducible rfl
  rotate_left
  · simp only [Act.put, List.setIfInBounds_toArray, List.set_cons_zero, List.set_cons_succ, i64_w, i32_w]
    rfl
  refine pure_ (i := 1) (N := some 10) (v := ?_) (a' := ?_) #[true, true, false, false, false, false, false, false, false, false, false, false, false, false] rfl rfl (by kernel_rfl) (fun _ _ _ h => h) (Or.inl ⟨by rfl, ?_⟩) ?_ ?_
  rotate_left
  · intro w'
    go_simp
    with_reducible rfl
  rotate_left
  · simp only [Act.put, List.setIfInBounds_toArray, List.set_cons_zero, List.set_cons_succ, i64_w, i32_w]
    rfl
  refine pure_ (i := 2) (N := some 11) (v := ?_) (a' := ?_) #[true, true, true, false, false, false, false, false, false, false, false, false, false, false] rfl rfl (by kernel_rfl) (fun _ _ _ h => h) (Or.inl ⟨by rfl, ?_⟩) ?_ ?_
  rotate_left
  · intro w'
    go_simp
    with_reducible rfl
  rotate_left
  · simp only [Act.put, List.setIfInBounds_toArray, List.set_cons_zero, List.set_cons_succ, i64_w, i32_w]
    rfl
  refine pure_ (i := 4) (N := some 13) (v := ?_) (a' := ?_) #[true, true, true, false, true, false, false, false, false, false, false, false, false, false] rfl rfl (by kernel_rfl) (fun _ _ _ h => h) (Or.inl ⟨by rfl, ?_⟩) ?_ ?_
  rotate_left
  · intro w'
    go_simp
    with_reducible rfl
  rotate_left
  · simp only [Act.put, List.setIfInBounds_toArray, List.set_cons_zero, List.set_cons_succ, i64_w, i32_w]
    rfl
  refine pure_ (i := 5) (N := some 14) (v := ?_) (a' := ?_) #[true, true, true, false, true, true, false, false, false, false, false, false, false, false] rfl rfl (by kernel_rfl) (fun _ _ _ h => h) (Or.inl ⟨by rfl, ?_⟩) ?_ ?_
  rotate_left
  · intro w'
    go_simp
    with_reducible rfl
  rotate_left
  · simp only [Act.put, List.setIfInBounds_toArray, List.set_cons_zero, List.set_cons_succ, i64_w, i32_w]
    rfl
  refine pure_ (i := 6) (N := some 15) (v := ?_) (a' := ?_) #[true, true, true, false, true, true, true, false, false, false, false, false, false, false] rfl rfl (by kernel_rfl) (fun _ _ _ h => h) (Or.inl ⟨by rfl, ?_⟩) ?_ ?_
  rotate_left
  · intro w'
    go_simp
    with_reducible rfl
  rotate_left
  · simp only [Act.put, List.setIfInBounds_toArray, List.set_cons_zero, List.set_cons_succ, i64_w, i32_w]
    rfl
  refine pure_ (i := 7) (N := some 16) (v := ?_) (a' := ?_) #[true, true, true, false, true, true, true, true, false, false, false, false, false, false] rfl rfl (by kernel_rfl) (fun _ _ _ h => h) (Or.inl ⟨by rfl, ?_⟩) ?_ ?_
  rotate_left
  · intro w'
    go_simp
    with_reducible rfl
  rotate_left
  · simp only [Act.put, List.setIfInBounds_toArray, List.set_cons_zero, List.set_cons_succ, i64_w, i32_w]
    rfl
  refine take_ (i := 3) (N := some 12) (v := ?_) (a' := ?_) #[true, true, true, true, true, true, true, true, false, false, false, false, false, false] rfl rfl (by kernel_rfl) (fun _ _ _ h => h) (Or.inl ⟨by rfl, ?_⟩) hHeld ?_ ?_
  rotate_left
  · intro w' s0
    go_simp
    with_reducible rfl
  rotate_left
  · simp only [Act.put, List.setIfInBounds_toArray, List.set_cons_zero, List.set_cons_succ, i64_w, i32_w]
    rfl
  refine last_ (i := 8) (N := some 17) #[true, true, true, true, true, true, true, true, true, false, false, false, false, false] rfl rfl (by kernel_rfl) (by decide) (fun K hK => ?_)
  refine goes_ Tryd.func56 (by kernel_rfl) rfl #[.iface 63 (.pointer (some ⟨gr, 0, none⟩)), .slice (some ⟨gs, 3, none⟩) 4 4] (by rfl) rfl rfl (by simp only [List.map_toArray, List.map_cons, List.map_nil]; rfl) ?_
  with_reducible refine (HRF.out).mono ?_
  rintro e w1 ⟨hn1, hr1, hg1, rfl⟩
  refine ⟨_, rfl, ?_⟩
  have HN1 := Aside0.mk hn1
  have HR1 := Aside0.mk hr1
  have HG1 := Aside0.mk hg1
  clear hn1 hr1 hg1
  refine hK.out _ _ ?_
  clear hK K
  refine norm_ (a' := ?_) ?_ ?_
  rotate_left
  · show Act.put _ (some 17) _ = _
    simp only [Act.put, List.setIfInBounds_toArray, List.set_cons_zero, List.set_cons_succ, i64_w, i32_w]
    rfl
  refine pure_ (i := 9) (N := some 8) (v := ?_) (a' := ?_) #[true, true, true, true, true, true, true, true, true, true, false, false, false, false] rfl rfl (by kernel_rfl) (fun _ _ _ h => h) (Or.inl ⟨by rfl, ?_⟩) ?_ ?_
  rotate_left
  · intro w'
    go_simp
    with_reducible rfl
  rotate_left
  · simp only [Act.put, List.setIfInBounds_toArray, List.set_cons_zero, List.set_cons_succ, i64_w, i32_w]
    rfl
  refine pure_ (i := 10) (N := some 18) (v := ?_) (a' := ?_) #[true, true, true, true, true, true, true, true, true, true, true, false, false, false] rfl rfl (by kernel_rfl) (fun _ _ _ h => h) (Or.inl ⟨by rfl, ?_⟩) ?_ ?_
  rotate_left
  · intro w'
    go_simp
    with_reducible rfl
  rotate_left
  · simp only [Act.put, List.setIfInBounds_toArray, List.set_cons_zero, List.set_cons_succ, i64_w, i32_w]
    rfl
  refine pure_ (i := 11) (N := some 19) (v := ?_) (a' := ?_) #[true, true, true, true, true, true, true, true, true, true, true, true, false, false] rfl rfl (by kernel_rfl) (fun _ _ _ h => h) (Or.inl ⟨by rfl, ?_⟩) ?_ ?_
  rotate_left
  · intro w'
    go_simp
    with_reducible rfl
  rotate_left
  · simp only [Act.put, List.setIfInBounds_toArray, List.set_cons_zero, List.set_cons_succ, i64_w, i32_w]
    rfl
  refine pure_ (i := 12) (N := some 4) (v := ?_) (a' := ?_) #[true, true, true, true, true, true, true, true, true, true, true, true, true, false] rfl rfl (by kernel_rfl) (fun _ _ _ h => h) (Or.inl ⟨by rfl, ?_⟩) ?_ ?_
  rotate_left
  · intro w'
    go_simp
    with_reducible rfl
  rotate_left
  · simp only [Act.put, List.setIfInBounds_toArray, List.set_cons_zero, List.set_cons_succ, i64_w, i32_w]
    rfl
  refine pure_ (i := 13) (N := some 5) (v := ?_) (a' := ?_) #[true, true, true, true, true, true, true, true, true, true, true, true, true, true] rfl rfl (by kernel_rfl) (fun _ _ _ h => h) (Or.inl ⟨by rfl, ?_⟩) ?_ ?_
  rotate_left
  · intro w'
    go_simp
    with_reducible rfl
  rotate_left
  · simp only [Act.put, List.setIfInBounds_toArray, List.set_cons_zero, List.set_cons_succ, i64_w, i32_w]
    rfl
  refine done_ (by kernel_rfl) ?_
  have HNw1 := Aside0.mk (show Near w w1 gr (some gs) from (Near.refl w gr (some gs)).drew.trans HN1.out)
  have HBw1 := Aside0.mk (HB.out.trans (HNw1.out.below HB.out.size HGE.out (fun q hq => by injection hq with hq; rw [← hq]; exact HGS.out)))
  have HEw1 := Aside0.mk (HE.out.below HBw1.out)
  clear HRF HSCd HN1
  by_cases h4 : m = 4
  · have hye : Value.nilIface = ye := by have := HYE.out; rwa [if_pos h4] at this
    subst hye
    have hly : ys = l1 := by rw [← HL1.out, h4, ← hl, List.drop_length, List.append_nil]
    subst hly
    have HHD := Aside0.mk (hexDecode_any ys (by rw [HM.out]; exact h4) HBY.out a3 w1 HEw1.out.e3)
    have HPL := Aside0.mk (show pl = (match hex4 ys with | none => PL.inv | some n => if n = 0 then PL.len 0 else if n ≤ 4 ∨ 65524 < n then PL.inv else PL.len (n - 4).toNat) from HPQ.out.symm.trans (if_neg (fun h => by have := HM.out; rw [h] at this; simp at this; omega)))
    have HRG := Aside0.mk (sc_row HG1.out)
    have HRN := Aside0.mk (show ∀ n, hex4 ys = some n → 0 ≤ n ∧ n ≤ 65535 from fun n hn => ⟨(hex4_range hn).1, (hex4_range hn).2.1⟩)
    unfold hexV at HHD
    obtain ⟨hv, hhv⟩ : ∃ hv, hex4 ys = hv := ⟨_, rfl⟩
    rw [hhv] at HHD HPL HRN
    clear hhv h48
    cases hv with
    | none =>
      have hpl : pl = .inv := HPL.out
      subst hpl
      go_wp2_with (first | ((with_reducible show wpList _ _ _ (⟨some 31, _, _, _, _, _⟩ :: _) _ _); refine wpList_load_mid rfl 124 (.tmp 30) rfl gs 3 rfl (bv ys) _ HRG.out Tryd.underlying124 rfl (by rw [bv_len, HM.out, h4]; kernel_rfl) ?_) | fail)
      refine HHD.out.mono ?_
      rintro e w3 ⟨rfl, hb3⟩
      have HN3 := Aside0.mk (HNw1.out.trans (Near.of_below hb3))
      have HR3 := Aside0.mk (HR1.out.below hb3)
      have HG3 := Aside0.mk ((hb3.block gs (blk_lt HG1.out)).trans HG1.out)
      clear hb3 HHD
      go_wp2_with fail
      go_ret2
      exact ⟨HN3.out, HR3.out, ⟨_, HL4.out, HG3.out⟩, rfl⟩
    | some n =>
      obtain ⟨hn0, hn1⟩ := HRN.out n rfl
      have HPL2 : pl = if n = 0 then PL.len 0 else if n ≤ 4 ∨ 65524 < n then PL.inv else PL.len (n - 4).toNat := HPL.out
      have HPL3 := Aside0.mk HPL2
      clear HPL HPL2
      go_wp2_with (first | ((with_reducible show wpList _ _ _ (⟨some 31, _, _, _, _, _⟩ :: _) _ _); refine wpList_load_mid rfl 124 (.tmp 30) rfl gs 3 rfl (bv ys) _ HRG.out Tryd.underlying124 rfl (by rw [bv_len, HM.out, h4]; kernel_rfl) ?_) | fail)
      refine HHD.out.mono ?_
      rintro e w3 ⟨rfl, hb3⟩
      have HN3 := Aside0.mk (HNw1.out.trans (Near.of_below hb3))
      have HR3 := Aside0.mk (HR1.out.below hb3)
      have HG3 := Aside0.mk ((hb3.block gs (blk_lt HG1.out)).trans HG1.out)
      have HI3 := Aside0.mk (show w3.drew.cell? ⟨6, 0, none⟩ = some (.iface 179 (.pointer (some a3))) from (hb3.cell (World.block_lt_of_cell? w1 _ HEw1.out.e3)).trans HEw1.out.e3)
      clear hb3 HHD
      by_cases hz : n = 0
      · subst hz
        have hpl : pl = .len 0 := HPL3.out
        subst hpl
        go_wp2_with fail
        go_ret2
        exact ⟨HN3.out, HR3.out, ⟨_, HL4.out, HG3.out⟩, rfl⟩
      · have z1 : (n == 0) = false := beq_eq_false_iff_ne.mpr hz
        by_cases h4' : n ≤ 4
        · have z2 : decide (n ≤ 4) = true := decide_eq_true h4'
          have hpl : pl = .inv := by have := HPL3.out; rwa [if_neg hz, if_pos (Or.inl h4')] at this
          subst hpl
          go_wp2_with fail
          refine start_ (n := 3) (S := fun w' => w'.cell? ⟨6, 0, none⟩ = some (.iface 179 (.pointer (some a3)))) (ds := []) #[false, false, false] (by kernel_rfl) rfl rfl (HI3.out) (fun hHeld => ?_)
          refine pure_ (i := 1) (N := some 2) (v := ?_) (a' := ?_) #[false, true, false] rfl rfl (by kernel_rfl) (fun _ _ _ h => h) (Or.inl ⟨by rfl, ?_⟩) ?_ ?_
          rotate_left
          · intro w'
            go_simp
            with_reducible rfl
          rotate_left
          · simp only [Act.put, List.setIfInBounds_toArray, List.set_cons_zero, List.set_cons_succ, i64_w, i32_w]
            rfl
          refine take_ (i := 0) (N := some 46) (v := ?_) (a' := ?_) #[true, true, false] rfl rfl (by kernel_rfl) (fun _ _ _ h => h) (Or.inl ⟨by rfl, ?_⟩) hHeld ?_ ?_
          rotate_left
          · intro w' s0
            go_simp
            with_reducible rfl
          rotate_left
          · simp only [Act.put, List.setIfInBounds_toArray, List.set_cons_zero, List.set_cons_succ, i64_w, i32_w]
            rfl
          refine pure_ (i := 2) (N := some 3) (v := ?_) (a' := ?_) #[true, true, true] rfl rfl (by kernel_rfl) (fun _ _ _ h => h) (Or.inl ⟨by rfl, ?_⟩) ?_ ?_
          rotate_left
          · intro w'
            go_simp
            with_reducible rfl
          rotate_left
          · simp only [Act.put, List.setIfInBounds_toArray, List.set_cons_zero, List.set_cons_succ, i64_w, i32_w]
            rfl
          refine done_ (by kernel_rfl) ?_
          go_wp2
          go_ret2
          exact ⟨HN3.out.drew, (by obtain ⟨pr, h⟩ := HR3.out; exact ⟨pr, h⟩), ⟨_, HL4.out, HG3.out⟩, rfl⟩
        · have z2 : decide (n ≤ 4) = false := decide_eq_false h4'
          by_cases hbg : 65524 < n
          · have z3 : decide (65524 < n) = true := decide_eq_true hbg
            have hpl : pl = .inv := by have := HPL3.out; rwa [if_neg hz, if_pos (Or.inr hbg)] at this
            subst hpl
            go_wp2_with fail
            refine start_ (n := 3) (S := fun w' => w'.cell? ⟨6, 0, none⟩ = some (.iface 179 (.pointer (some a3)))) (ds := []) #[false, false, false] (by kernel_rfl) rfl rfl (HI3.out) (fun hHeld => ?_)
            refine pure_ (i := 1) (N := some 2) (v := ?_) (a' := ?_) #[false, true, false] rfl rfl (by kernel_rfl) (fun _ _ _ h => h) (Or.inl ⟨by rfl, ?_⟩) ?_ ?_
            rotate_left
            · intro w'
              go_simp
              with_reducible rfl
            rotate_left
            · simp only [Act.put, List.setIfInBounds_toArray, List.set_cons_zero, List.set_cons_succ, i64_w, i32_w]
              rfl
            refine take_ (i := 0) (N := some 50) (v := ?_) (a' := ?_) #[true, true, false] rfl rfl (by kernel_rfl) (fun _ _ _ h => h) (Or.inl ⟨by rfl, ?_⟩) hHeld ?_ ?_
            rotate_left
            · intro w' s0
              go_simp
              with_reducible rfl
            rotate_left
            · simp only [Act.put, List.setIfInBounds_toArray, List.set_cons_zero, List.set_cons_succ, i64_w, i32_w]
              rfl
            refine pure_ (i := 2) (N := some 3) (v := ?_) (a' := ?_) #[true, true, true] rfl rfl (by kernel_rfl) (fun _ _ _ h => h) (Or.inl ⟨by rfl, ?_⟩) ?_ ?_
            rotate_left
            · intro w'
              go_simp
              with_reducible rfl
            rotate_left
            · simp only [Act.put, List.setIfInBounds_toArray, List.set_cons_zero, List.set_cons_succ, i64_w, i32_w]
              rfl
            refine done_ (by kernel_rfl) ?_
            go_wp2
            go_ret2
            exact ⟨HN3.out.drew, (by obtain ⟨pr, h⟩ := HR3.out; exact ⟨pr, h⟩), ⟨_, HL4.out, HG3.out⟩, rfl⟩
          · have z3 : decide (65524 < n) = false := decide_eq_false hbg
            have hpl : pl = .len (n - 4).toNat := by have := HPL3.out; rwa [if_neg hz, if_neg (by omega)] at this
            subst hpl
            have z4 : wrap64 (n - 4) = n - 4 := w64 (by omega) (by omega)
            have z5 : ((n - 4).toNat : Int) = n - 4 := Int.toNat_of_nonneg (by omega)
            go_wp2_with fail
            go_ret2
            refine ⟨HN3.out, HR3.out, ⟨_, HL4.out, HG3.out⟩, ?_⟩
            show _ = Ending.returned (.tuple #[.int .i64 (((n - 4).toNat : Nat) : Int), .nilIface])
            rw [z5]
            rfl
  · by_cases h0 : m = 0
    · have hye : (.iface 179 (.pointer (some a1))) = ye := by have := HYE.out; rwa [if_neg h4, if_pos h0] at this
      subst hye
      have hpl : pl = .eof := by rw [← HPQ.out]; exact if_pos (List.length_eq_zero_iff.1 (by rw [HM.out]; exact h0))
      subst hpl
      have hu1 := HEw1.out.e2
      have hq := HEw1.out.ne12
      go_wp2_with fail
      go_ret2
      exact ⟨HNw1.out, HR1.out, ⟨_, HL4.out, HG1.out⟩, rfl⟩
    · have hye : (.iface 179 (.pointer (some a2))) = ye := by have := HYE.out; rwa [if_neg h4, if_neg h0] at this
      subst hye
      have hpl : pl = .inv := by
        rw [← HPQ.out]
        unfold plen
        rw [if_neg (fun h => by have := HM.out; rw [h] at this; simp at this; omega)]
        cases hx4 : hex4 ys with
        | none => rfl
        | some n => have := (hex4_range hx4).2.2; have := HM.out; omega
      subst hpl
      have hu1 := HEw1.out.e2
      have hq := same_err a2 w1
      have HI3 := Aside0.mk (show w1.drew.cell? ⟨6, 0, none⟩ = some (.iface 179 (.pointer (some a3))) from HEw1.out.e3)
      go_wp2_with fail
      refine start_ (n := 3) (S := fun w' => w'.cell? ⟨6, 0, none⟩ = some (.iface 179 (.pointer (some a3)))) (ds := []) #[false, false, false] (by kernel_rfl) rfl rfl (HI3.out) (fun hHeld => ?_)
      refine pure_ (i := 1) (N := some 2) (v := ?_) (a' := ?_) #[false, true, false] rfl rfl (by kernel_rfl) (fun _ _ _ h => h) (Or.inl ⟨by rfl, ?_⟩) ?_ ?_
      rotate_left
      · intro w'
        go_simp
        with_reducible rfl
      rotate_left
      · simp only [Act.put, List.setIfInBounds_toArray, List.set_cons_zero, List.set_cons_succ, i64_w, i32_w]
        rfl
      refine take_ (i := 0) (N := some 25) (v := ?_) (a' := ?_) #[true, true, false] rfl rfl (by kernel_rfl) (fun _ _ _ h => h) (Or.inl ⟨by rfl, ?_⟩) hHeld ?_ ?_
      rotate_left
      · intro w' s0
        go_simp
        with_reducible rfl
      rotate_left
      · simp only [Act.put, List.setIfInBounds_toArray, List.set_cons_zero, List.set_cons_succ, i64_w, i32_w]
        rfl
      refine pure_ (i := 2) (N := some 3) (v := ?_) (a' := ?_) #[true, true, true] rfl rfl (by kernel_rfl) (fun _ _ _ h => h) (Or.inl ⟨by rfl, ?_⟩) ?_ ?_
      rotate_left
      · intro w'
        go_simp
        with_reducible rfl
      rotate_left
      · simp only [Act.put, List.setIfInBounds_toArray, List.set_cons_zero, List.set_cons_succ, i64_w, i32_w]
        rfl
      refine done_ (by kernel_rfl) ?_
      go_wp2
      go_ret2
      exact ⟨HNw1.out.drew, (by obtain ⟨pr, h⟩ := HR1.out; exact ⟨pr, h⟩), ⟨_, HL4.out, HG1.out⟩, rfl⟩
end Go.Proofs.YtghcecngdhcjpaaDoor.pkt
