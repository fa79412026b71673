/- Packet lines: io.ReadFull; four digits in base 16. -/
import Derived.Test.YtghcecngdhcjpaaDoorPktB
namespace Go.Proofs.YtghcecngdhcjpaaDoor.pkt
open Go.RowKit Go.Proofs.YtghcecngdhcjpaaDoorW.PrintWords Go.Proofs.YtghcecngdhcjpaaDoorW.PrintLast Go.Proofs.YtghcecngdhcjpaaDoorW.PrintMore Go.Proofs.YtghcecngdhcjpaaDoor.PFnSideBack
set_option linter.unusedVariables false
set_option linter.unusedSimpArgs false
set_option maxHeartbeats 2000000
set_option maxRecDepth 100000
/-- The errors of which is spoken: three of their own. -/
structure Errs (w0 : World) (a1 a2 a3 : Addr) : Prop where
  e1 : w0.cell? ⟨0, 0, none⟩ = some (.iface 179 (.pointer (some a1)))
  e2 : w0.cell? ⟨5, 0, none⟩ = some (.iface 179 (.pointer (some a2)))
  e3 : w0.cell? ⟨6, 0, none⟩ = some (.iface 179 (.pointer (some a3)))
  n12 : a1 ≠ a2
  n31 : a3 ≠ a1
  n32 : a3 ≠ a2
  b1 : ∃ c t, w0.heap[a1.block]? = some (.cells c t (0, 0))
  b2 : ∃ c t, w0.heap[a2.block]? = some (.cells c t (0, 0))
  b3 : ∃ c t, w0.heap[a3.block]? = some (.cells c t (0, 0))
theorem Errs.below {w0 w : World} {a1 a2 a3 : Addr} (h : Errs w0 a1 a2 a3) (hb : Below w0.heap.size w0 w) : Errs w a1 a2 a3 :=
  have q : ∀ a : Addr, (∃ c t, w0.heap[a.block]? = some (.cells c t (0, 0))) → ∃ c t, w.heap[a.block]? = some (.cells c t (0, 0)) := fun a ⟨c, t, h⟩ => ⟨c, t, (hb.block _ (blk_lt h)).trans h⟩
  ⟨(hb.cell (World.block_lt_of_cell? w0 _ h.e1)).trans h.e1, (hb.cell (World.block_lt_of_cell? w0 _ h.e2)).trans h.e2, (hb.cell (World.block_lt_of_cell? w0 _ h.e3)).trans h.e3, h.n12, h.n31, h.n32, q a1 h.b1, q a2 h.b2, q a3 h.b3⟩
theorem Errs.ne12 {w : World} {a1 a2 a3 : Addr} (h : Errs w a1 a2 a3) : (binOp .eql 55 (.iface 179 (.pointer (some a1))) (.iface 179 (.pointer (some a2)))).run Tryd.prog w = .ok (.bool false) w := by
  obtain ⟨_, _, hb1⟩ := h.b1
  obtain ⟨_, _, hb2⟩ := h.b2
  exact other_err w h.n12 hb1 hb2
theorem Errs.ne31 {w : World} {a1 a2 a3 : Addr} (h : Errs w a1 a2 a3) : (binOp .eql 55 (.iface 179 (.pointer (some a3))) (.iface 179 (.pointer (some a1)))).run Tryd.prog w = .ok (.bool false) w := by
  obtain ⟨_, _, hb1⟩ := h.b3
  obtain ⟨_, _, hb2⟩ := h.b1
  exact other_err w h.n31 hb1 hb2
theorem Errs.ne21 {w : World} {a1 a2 a3 : Addr} (h : Errs w a1 a2 a3) : (binOp .eql 55 (.iface 179 (.pointer (some a2))) (.iface 179 (.pointer (some a1)))).run Tryd.prog w = .ok (.bool false) w := by
  obtain ⟨_, _, hb1⟩ := h.b2
  obtain ⟨_, _, hb2⟩ := h.b1
  exact other_err w (Ne.symm h.n12) hb1 hb2
theorem readFull_any (w0 w : World) (A : Option Addr) (c : Nat) (xs : List Int) (gr gb i o k cap : Nat) (cur : List Value) (tb : TypeId) (a1 a2 a3 : Addr) (hk : 0 < k) (hcap : k ≤ cap) (hS : (Kd.int .u8).C w0 A xs.length xs) (hc : xs.length ≤ c) (hB : Below w0.heap.size w0 w) (hR : AtRd w gr A xs.length c i) (hG : w.heap[gb]? = some (.cells cur.toArray tb (0, 0))) (hne : gb ≠ gr) (hfit : o + k ≤ cur.length) (hge : w0.heap.size ≤ gr) (hgb : w0.heap.size ≤ gb) (hi : i ≤ xs.length) (hx : xs.length ≤ 2147483647) (hkk : k ≤ 2147483647) (hE : Errs w0 a1 a2 a3) :
    Calls Tryd.prog 56 #[.iface 63 (.pointer (some ⟨gr, 0, none⟩)), .slice (some ⟨gb, o, none⟩) k cap] w (FullPost w gr gb A c xs i o k cur tb (.iface 179 (.pointer (some a1))) (.iface 179 (.pointer (some a2)))) := by
  have HC := Aside0.mk (atLeast_any w0 w A c xs gr gb i o k cap cur tb 0 0 a1 a2 hk hcap hS hc hB hR hG hne hfit hge hgb hi hx hkk hE.e1 hE.e2)
  clear hS hB hR hG hne hfit hge hgb hE
  obtain ⟨ye, hye⟩ : ∃ ye : Value, (if ((xs.drop i).take k).length = k then .nilIface else if ((xs.drop i).take k).length = 0 then (.iface 179 (.pointer (some a1))) else (.iface 179 (.pointer (some a2)))) = ye := ⟨_, rfl⟩
  unfold FullPost at HC ⊢
  rw [hye] at HC ⊢
  clear hye
  obtain ⟨m, hm⟩ : ∃ m, ((xs.drop i).take k).length = m := ⟨_, rfl⟩
  rw [hm] at HC ⊢
  clear hm
  go_enter Tryd.func56, Tryd.ntmps56
  go_wp2_with fail
  refine HC.out.mono ?_
  rintro e w1 ⟨hn, hr, hg, rfl⟩
  have HN := Aside0.mk hn
  have HR := Aside0.mk hr
  have HG := Aside0.mk hg
  clear hn hr hg HC
  go_wp2_with fail
  go_ret2
  exact ⟨HN.out, HR.out, HG.out, rfl⟩
theorem readFull0_any (rd : Value) (a : Option Addr) (cap : Nat) (w : World) :
    Calls Tryd.prog 56 #[rd, .slice a 0 cap] w fun e w' => e = .returned (.tuple #[.int .i64 0, .nilIface]) ∧ w = w' := by
  have HC : Calls Tryd.prog 75 #[rd, .slice a 0 cap, .int .i64 0] w fun e w' => e = .returned (.tuple #[.int .i64 0, .nilIface]) ∧ w = w' := by
    go_enter Tryd.func75, Tryd.ntmps75
    go_wp2_with fail
    go_loopg [6, 7] 1 (fun kq v6 v7 w' => v6 = .int .i64 0 ∧ v7 = .nilIface ∧ Aside0 (w = w'))
    case atStart => exact ⟨rfl, rfl, ⟨rfl⟩⟩
    case round =>
      obtain ⟨rfl, rfl, HWW⟩ := hrel
      obtain rfl := HWW.out
      go_wp2_with fail
      go_ret2
      exact ⟨rfl, rfl⟩
  have HCC := Aside0.mk HC
  clear HC
  go_enter Tryd.func56, Tryd.ntmps56
  go_wp2_with fail
  refine HCC.out.mono ?_
  rintro e w1 ⟨rfl, rfl⟩
  clear HCC
  go_wp2_with fail
  go_ret2
  exact ⟨rfl, rfl⟩
/-! ### Digits -/
/-- A digit's value, or an error. -/
def digitV (a3 : Addr) (c : Int) : Value := match hexd c with | some x => .tuple #[.int .u8 x, .nilIface] | none => .tuple #[.int .u8 0, (.iface 179 (.pointer (some a3)))]
theorem asciiHex_any (c : Int) (a3 : Addr) (w : World) (h0 : 0 ≤ c) (h1 : c < 256) (hE : w.cell? ⟨6, 0, none⟩ = some (.iface 179 (.pointer (some a3)))) :
    Calls Tryd.prog 85 #[.int .u8 c] w fun e w' => e = .returned (digitV a3 c) ∧ Drawn0 w w' := by
  have HE := Aside0.mk (show w.drew.cell? ⟨6, 0, none⟩ = some (.iface 179 (.pointer (some a3))) from hE)
  clear hE
  unfold digitV hexd
  by_cases c1 : 48 ≤ c
  · have d1 : decide (48 ≤ c) = true := decide_eq_true c1
    by_cases c2 : c ≤ 57
    · have d2 : decide (c ≤ 57) = true := decide_eq_true c2
      rw [if_pos ⟨c1, c2⟩]
      have m1 : (c - 48) % 256 = c - 48 := by omega
      go_enter Tryd.func85, Tryd.ntmps85
      go_wp2
      go_ret2
      exact ⟨by first | rfl | (simp [m1]; done) | (rw [m1]), by repeat (first | exact Drawn0.refl _ | apply Drawn0.step)⟩
    · have d2 : decide (c ≤ 57) = false := decide_eq_false c2
      rw [if_neg (by omega)]
      by_cases c3 : 97 ≤ c
      · have d3 : decide (97 ≤ c) = true := decide_eq_true c3
        by_cases c4 : c ≤ 102
        · have d4 : decide (c ≤ 102) = true := decide_eq_true c4
          rw [if_pos ⟨c3, c4⟩]
          have m1 : (c - 97) % 256 = c - 97 := by omega
          have m2 : (c - 97 + 10) % 256 = c - 87 := by omega
          go_enter Tryd.func85, Tryd.ntmps85
          go_wp2
          go_ret2
          exact ⟨by first | rfl | (simp [m1, m2]; done) | (simp; omega), by repeat (first | exact Drawn0.refl _ | apply Drawn0.step)⟩
        · have d4 : decide (c ≤ 102) = false := decide_eq_false c4
          rw [if_neg (by omega), if_neg (by omega)]
          have d5 : decide (65 ≤ c) = true := decide_eq_true (by omega)
          have d6 : decide (c ≤ 70) = false := decide_eq_false (by omega)
          go_enter Tryd.func85, Tryd.ntmps85
          go_wp2_with fail
          refine start_ (n := 3) (S := fun w' => w'.cell? ⟨6, 0, none⟩ = some (.iface 179 (.pointer (some a3)))) (ds := []) #[false, false, false] (by kernel_rfl) rfl rfl (HE.out) (fun hHeld => ?_)
          refine pure_ (i := 1) (N := some 2) (v := ?_) (a' := ?_) #[false, true, false] rfl rfl (by kernel_rfl) (fun _ _ _ h => h) (Or.inl ⟨by rfl, ?_⟩) ?_ ?_
          rotate_left
          · intro w'
            go_simp
            with_reducible rfl
          rotate_left
          · simp only [Act.put, List.setIfInBounds_toArray, List.set_cons_zero, List.set_cons_succ, i64_w, i32_w]
            rfl
          refine take_ (i := 0) (N := some 4) (v := ?_) (a' := ?_) #[true, true, false] rfl rfl (by kernel_rfl) (fun _ _ _ h => h) (Or.inl ⟨by rfl, ?_⟩) hHeld ?_ ?_
          rotate_left
          · intro w' s0
            go_simp
            with_reducible rfl
          rotate_left
          · simp only [Act.put, List.setIfInBounds_toArray, List.set_cons_zero, List.set_cons_succ, i64_w, i32_w]
            rfl
          refine pure_ (i := 2) (N := some 3) (v := ?_) (a' := ?_) #[true, true, true] rfl rfl (by kernel_rfl) (fun _ _ _ h => h) (Or.inl ⟨by rfl, ?_⟩) ?_ ?_
          rotate_left
          · intro w'
            go_simp
            with_reducible rfl
          rotate_left
          · simp only [Act.put, List.setIfInBounds_toArray, List.set_cons_zero, List.set_cons_succ, i64_w, i32_w]
            rfl
          refine done_ (by kernel_rfl) ?_
          go_wp2
          go_ret2
          exact ⟨rfl, by repeat (first | exact Drawn0.refl _ | apply Drawn0.step)⟩
      · have d3 : decide (97 ≤ c) = false := decide_eq_false c3
        rw [if_neg (by omega)]
        by_cases c5 : 65 ≤ c
        · have d5 : decide (65 ≤ c) = true := decide_eq_true c5
          by_cases c6 : c ≤ 70
          · have d6 : decide (c ≤ 70) = true := decide_eq_true c6
            rw [if_pos ⟨c5, c6⟩]
            have m1 : (c - 65) % 256 = c - 65 := by omega
            have m2 : (c - 65 + 10) % 256 = c - 55 := by omega
            go_enter Tryd.func85, Tryd.ntmps85
            go_wp2
            go_ret2
            exact ⟨by first | rfl | (simp [m1, m2]; done) | (simp; omega), by repeat (first | exact Drawn0.refl _ | apply Drawn0.step)⟩
          · have d6 : decide (c ≤ 70) = false := decide_eq_false c6
            rw [if_neg (by omega)]
            go_enter Tryd.func85, Tryd.ntmps85
            go_wp2_with fail
            refine start_ (n := 3) (S := fun w' => w'.cell? ⟨6, 0, none⟩ = some (.iface 179 (.pointer (some a3)))) (ds := []) #[false, false, false] (by kernel_rfl) rfl rfl (HE.out) (fun hHeld => ?_)
            refine pure_ (i := 1) (N := some 2) (v := ?_) (a' := ?_) #[false, true, false] rfl rfl (by kernel_rfl) (fun _ _ _ h => h) (Or.inl ⟨by rfl, ?_⟩) ?_ ?_
            rotate_left
            · intro w'
              go_simp
              with_reducible rfl
            rotate_left
            · simp only [Act.put, List.setIfInBounds_toArray, List.set_cons_zero, List.set_cons_succ, i64_w, i32_w]
              rfl
            refine take_ (i := 0) (N := some 4) (v := ?_) (a' := ?_) #[true, true, false] rfl rfl (by kernel_rfl) (fun _ _ _ h => h) (Or.inl ⟨by rfl, ?_⟩) hHeld ?_ ?_
            rotate_left
            · intro w' s0
              go_simp
              with_reducible rfl
            rotate_left
            · simp only [Act.put, List.setIfInBounds_toArray, List.set_cons_zero, List.set_cons_succ, i64_w, i32_w]
              rfl
            refine pure_ (i := 2) (N := some 3) (v := ?_) (a' := ?_) #[true, true, true] rfl rfl (by kernel_rfl) (fun _ _ _ h => h) (Or.inl ⟨by rfl, ?_⟩) ?_ ?_
            rotate_left
            · intro w'
              go_simp
              with_reducible rfl
            rotate_left
            · simp only [Act.put, List.setIfInBounds_toArray, List.set_cons_zero, List.set_cons_succ, i64_w, i32_w]
              rfl
            refine done_ (by kernel_rfl) ?_
            go_wp2
            go_ret2
            exact ⟨rfl, by repeat (first | exact Drawn0.refl _ | apply Drawn0.step)⟩
        · have d5 : decide (65 ≤ c) = false := decide_eq_false c5
          rw [if_neg (by omega)]
          go_enter Tryd.func85, Tryd.ntmps85
          go_wp2_with fail
          refine start_ (n := 3) (S := fun w' => w'.cell? ⟨6, 0, none⟩ = some (.iface 179 (.pointer (some a3)))) (ds := []) #[false, false, false] (by kernel_rfl) rfl rfl (HE.out) (fun hHeld => ?_)
          refine pure_ (i := 1) (N := some 2) (v := ?_) (a' := ?_) #[false, true, false] rfl rfl (by kernel_rfl) (fun _ _ _ h => h) (Or.inl ⟨by rfl, ?_⟩) ?_ ?_
          rotate_left
          · intro w'
            go_simp
            with_reducible rfl
          rotate_left
          · simp only [Act.put, List.setIfInBounds_toArray, List.set_cons_zero, List.set_cons_succ, i64_w, i32_w]
            rfl
          refine take_ (i := 0) (N := some 4) (v := ?_) (a' := ?_) #[true, true, false] rfl rfl (by kernel_rfl) (fun _ _ _ h => h) (Or.inl ⟨by rfl, ?_⟩) hHeld ?_ ?_
          rotate_left
          · intro w' s0
            go_simp
            with_reducible rfl
          rotate_left
          · simp only [Act.put, List.setIfInBounds_toArray, List.set_cons_zero, List.set_cons_succ, i64_w, i32_w]
            rfl
          refine pure_ (i := 2) (N := some 3) (v := ?_) (a' := ?_) #[true, true, true] rfl rfl (by kernel_rfl) (fun _ _ _ h => h) (Or.inl ⟨by rfl, ?_⟩) ?_ ?_
          rotate_left
          · intro w'
            go_simp
            with_reducible rfl
          rotate_left
          · simp only [Act.put, List.setIfInBounds_toArray, List.set_cons_zero, List.set_cons_succ, i64_w, i32_w]
            rfl
          refine done_ (by kernel_rfl) ?_
          go_wp2
          go_ret2
          exact ⟨rfl, by repeat (first | exact Drawn0.refl _ | apply Drawn0.step)⟩
  · have d1 : decide (48 ≤ c) = false := decide_eq_false c1
    have d3 : decide (97 ≤ c) = false := decide_eq_false (by omega)
    have d5 : decide (65 ≤ c) = false := decide_eq_false (by omega)
    rw [if_neg (by omega), if_neg (by omega), if_neg (by omega)]
    go_enter Tryd.func85, Tryd.ntmps85
    go_wp2_with fail
    refine start_ (n := 3) (S := fun w' => w'.cell? ⟨6, 0, none⟩ = some (.iface 179 (.pointer (some a3)))) (ds := []) #[false, false, false] (by kernel_rfl) rfl rfl (HE.out) (fun hHeld => ?_)
    refine pure_ (i := 1) (N := some 2) (v := ?_) (a' := ?_) #[false, true, false] rfl rfl (by kernel_rfl) (fun _ _ _ h => h) (Or.inl ⟨by rfl, ?_⟩) ?_ ?_
    rotate_left
    · intro w'
      go_simp
      with_reducible rfl
    rotate_left
    · simp only [Act.put, List.setIfInBounds_toArray, List.set_cons_zero, List.set_cons_succ, i64_w, i32_w]
      rfl
    refine take_ (i := 0) (N := some 4) (v := ?_) (a' := ?_) #[true, true, false] rfl rfl (by kernel_rfl) (fun _ _ _ h => h) (Or.inl ⟨by rfl, ?_⟩) hHeld ?_ ?_
    rotate_left
    · intro w' s0
      go_simp
      with_reducible rfl
    rotate_left
    · simp only [Act.put, List.setIfInBounds_toArray, List.set_cons_zero, List.set_cons_succ, i64_w, i32_w]
      rfl
    refine pure_ (i := 2) (N := some 3) (v := ?_) (a' := ?_) #[true, true, true] rfl rfl (by kernel_rfl) (fun _ _ _ h => h) (Or.inl ⟨by rfl, ?_⟩) ?_ ?_
    rotate_left
    · intro w'
      go_simp
      with_reducible rfl
    rotate_left
    · simp only [Act.put, List.setIfInBounds_toArray, List.set_cons_zero, List.set_cons_succ, i64_w, i32_w]
      rfl
    refine done_ (by kernel_rfl) ?_
    go_wp2
    go_ret2
    exact ⟨rfl, by repeat (first | exact Drawn0.refl _ | apply Drawn0.step)⟩
end Go.Proofs.YtghcecngdhcjpaaDoor.pkt
