/- Revisions: bufio.Reader.ReadRune, UnreadRune at ASCII bytes. -/
import Derived.Test.YtiibeefadgmicaaDoorRevE
import Derived.BigQuiet
import Derived.Deep.QuietTactic
namespace Go.Proofs.YtiibeefadgmicaaDoor.rev
open Go.RowKit Go.Proofs.YtiibeefadgmicaaDoorW.PrintWords Go.Proofs.YtiibeefadgmicaaDoorW.PrintLast Go.Proofs.YtiibeefadgmicaaDoorW.PrintMore Go.Proofs.YtiibeefadgmicaaDoor.PFnRevSteps
set_option linter.unusedVariables false
set_option linter.unusedSimpArgs false
set_option maxHeartbeats 2000000
set_option maxRecDepth 100000
/-- The text that is left, and the byte that may be read again. -/
def AtR (w : World) (d : Ad) (l : List UInt8) (b : Option UInt8) : Prop := (Fresh w d l ∧ b = none) ∨ ∃ r lr, Loaded w d l r .nilIface lr ∧ ∀ x, b = some x → 0 < r ∧ lr = 1 ∧ w.cell? ⟨d.gb, r - 1, none⟩ = some (.int .u8 (x.toNat : Int))
theorem Fresh.off {S : Nat → Prop} {w w' : World} {d : Ad} {l : List UInt8} (h : Fresh w d l) (ho : Off S w w') (hS : ¬ S d.gx ∧ ¬ S d.gu ∧ ¬ S d.gl ∧ ¬ S d.gr ∧ ¬ S d.gb) : Fresh w' d l := by
  obtain ⟨s0, s1, s2, s3, s4⟩ := hS
  obtain ⟨lb, lr, hr⟩ := h.hr
  obtain ⟨cur, hb, hcur⟩ := h.hb
  obtain ⟨c, op, hu, hc⟩ := h.hu
  exact ⟨⟨lb, lr, ho.blk hr s3⟩, ⟨cur, ho.blk hb s4, hcur⟩, ho.blk h.hl s2, ⟨c, op, ho.blk hu s1, hc⟩, fun j v hj => (cell_same d.gx j (ho.block _ (World.block_lt_of_cell? w _ (h.x j v hj)) s0)).trans (h.x j v hj), h.pos, h.max⟩
theorem Loaded.off {S : Nat → Prop} {w w' : World} {d : Ad} {l : List UInt8} {r : Nat} {er : Value} {lr : Int} (h : Loaded w d l r er lr) (ho : Off S w w') (hS : ¬ S d.gu ∧ ¬ S d.gl ∧ ¬ S d.gr ∧ ¬ S d.gb) : Loaded w' d l r er lr := by
  obtain ⟨s1, s2, s3, s4⟩ := hS
  obtain ⟨lb, hr⟩ := h.hr
  obtain ⟨cur, hb, hcur⟩ := h.hb
  obtain ⟨N, h0, h1, hl⟩ := h.hl
  obtain ⟨A, n, c, off, op, hu, hc⟩ := h.hu
  exact ⟨⟨lb, ho.blk hr s3⟩, ⟨cur, ho.blk hb s4, hcur⟩, ⟨N, h0, h1, ho.blk hl s2⟩, ⟨A, n, c, off, op, ho.blk hu s1, hc⟩, h.max⟩
theorem AtR.off {S : Nat → Prop} {w w' : World} {d : Ad} {l : List UInt8} {b : Option UInt8} (h : AtR w d l b) (ho : Off S w w') (hS : ¬ S d.gx ∧ ¬ S d.gu ∧ ¬ S d.gl ∧ ¬ S d.gr ∧ ¬ S d.gb) : AtR w' d l b := by
  rcases h with ⟨h, hb⟩ | ⟨r, lr, h, hb⟩
  · exact .inl ⟨h.off ho hS, hb⟩
  · exact .inr ⟨r, lr, h.off ho hS.2, fun x hx => ⟨(hb x hx).1, (hb x hx).2.1, (cell_same _ _ (ho.block _ (World.block_lt_of_cell? w _ (hb x hx).2.2) hS.2.2.2.2)).trans (hb x hx).2.2⟩⟩
/-- New cells of the reader itself. -/
theorem Loaded.set {w w' : World} {d : Ad} {l l' : List UInt8} {r r' : Nat} {er er' : Value} {lr lr' : Int} (hD : Dis d) (h : Loaded w d l r er lr) (lb' : Int) (ho : ∀ j, j ≠ d.gr → w'.heap[j]? = w.heap[j]?) (hr : w'.heap[d.gr]? = some (.cells (rdC d.gl d.gb r' (r' + l'.length) er' lb' lr') 128 (0, 0)))
    (hl : ∀ cur : List Value, (∀ (j : Nat) (v : Value), (bv l)[j]? = some v → cur[r + j]? = some v) → w.heap[d.gb]? = some (.cells cur.toArray 5 (0, 0)) → ∀ (j : Nat) (v : Value), (bv l')[j]? = some v → cur[r' + j]? = some v) (hm : r' + l'.length ≤ 4000) : Loaded w' d l' r' er' lr' := by
  obtain ⟨cur, hb, hcur, hx⟩ := h.hb
  obtain ⟨N, h0, h1, hl'⟩ := h.hl
  obtain ⟨A, n, c, off, op, hu, hc⟩ := h.hu
  exact ⟨⟨lb', hr⟩, ⟨cur, (ho _ (Ne.symm hD.rb)).trans hb, hcur, hl cur hx hb⟩, ⟨N, h0, h1, (ho _ hD.lr).trans hl'⟩, ⟨A, n, c, off, op, (ho _ hD.ur).trans hu, hc⟩, hm⟩
theorem readErr_any (w : World) (d : Ad) (hD : Dis d) (r : Nat) (lr : Int) (ea : Addr) (h : Loaded w d [] r (.iface 145 (.pointer (some ea))) lr) :
    Calls Tryd.prog 62 #[.pointer (some ⟨d.gr, 0, none⟩)] w fun e w' => e = .returned (.iface 145 (.pointer (some ea))) ∧ Off d.S w w' ∧ Loaded w' d [] r .nilIface lr := by
  have H := Aside0.mk h
  obtain ⟨lb, hr⟩ := h.hr
  have HR := Aside0.mk hr
  obtain ⟨gr, hg⟩ : ∃ gr, d.gr = gr := ⟨_, rfl⟩
  have HG := Aside0.mk hg
  rw [hg] at hr ⊢
  have q4 := (blk_cell hr 4).trans (show _ = some (Value.iface 145 (.pointer (some ea))) from rfl)
  have f4 := blk_frozen hr 4
  clear h hr hg
  go_enter Tryd.func62, Tryd.ntmps62
  go_wp2
  go_ret
  obtain rfl := HG.out
  refine ⟨rfl, (Off.refl _ w).cell (g := d.gr) (by simp [Ad.S, In]) 4 _, ?_⟩
  exact H.out.set hD lb (fun j hj => Below.heap_setCell w ⟨d.gr, 4, none⟩ _ j hj) (blk_put HR.out 4 _ rfl) (fun cur hx _ => hx) H.out.max
theorem unread_any (w : World) (d : Ad) (hD : Dis d) (c : UInt8) (l : List UInt8) (h : AtR w d l (some c)) :
    Calls Tryd.prog 65 #[.pointer (some ⟨d.gr, 0, none⟩)] w fun e w' => e = .returned .nilIface ∧ Off d.S w w' ∧ AtR w' d (c :: l) none := by
  obtain ⟨r, lr, hL, hb⟩ : ∃ r lr, Loaded w d l r .nilIface lr ∧ ∀ x, some c = some x → 0 < r ∧ lr = 1 ∧ w.cell? ⟨d.gb, r - 1, none⟩ = some (.int .u8 (x.toNat : Int)) := by
    rcases h with ⟨_, hb⟩ | h
    · cases hb
    · exact h
  obtain ⟨h0, rfl, hcell⟩ := hb c rfl
  obtain ⟨k, rfl⟩ : ∃ k, r = k + 1 := ⟨r - 1, by omega⟩
  rw [Nat.add_sub_cancel] at hcell
  have H := Aside0.mk hL
  have HC := Aside0.mk hcell
  obtain ⟨lb, hr⟩ := hL.hr
  have HR := Aside0.mk hr
  have HM := Aside0.mk hL.max
  obtain ⟨gr, hg⟩ : ∃ gr, d.gr = gr := ⟨_, rfl⟩
  have HG := Aside0.mk hg
  obtain ⟨m, hm⟩ : ∃ m, k + 1 = m := ⟨_, rfl⟩
  have HK := Aside0.mk hm
  have hmb := hL.max
  rw [hg] at hr ⊢
  have q2 := (blk_cell hr 2).trans (show _ = some (Value.int .i64 ((k + 1 : Nat) : Int)) from rfl)
  have q6 := (blk_cell hr 6).trans (show _ = some (Value.int .i64 1) from rfl)
  have q5 := (blk_cell hr 5).trans (show _ = some (Value.int .i64 lb) from rfl)
  rw [hm] at q2 hmb
  have f2 := blk_frozen hr 2
  have f5 := blk_frozen hr 5
  have f6 := blk_frozen hr 6
  have c1 : decide ((m : Int) < 1) = false := decide_eq_false (by omega)
  have c2 : decide (m < 1) = false := decide_eq_false (by omega)
  have w1 : wrap64 ((m : Int) - 1) = (m : Int) - 1 := w64 (by omega) (by omega)
  have HW := Aside0.mk (show ((m : Int) - 1) = ((k : Nat) : Int) by omega)
  clear h hr hg hL hb hcell hm h0 hmb
  go_enter Tryd.func65, Tryd.ntmps65
  go_wp2_with fail
  go_quiet (fail)
  go_wp2_with fail
  obtain ⟨W1, hW1⟩ : ∃ W1 : World, W1.heap = w.heap ∧ Off d.S w W1 ∧ w.drewN nq = W1 := ⟨w.drewN nq, rfl, (Off.refl _ w).drewN _, rfl⟩
  have HH := Aside0.mk hW1.1
  have HO := Aside0.mk hW1.2.1
  have hWW := hW1.2.2
  clear hW1
  simp only [hWW]
  have HR1 := Aside0.mk ((congrArg (fun h : Array Obj => h[gr]?) HH.out).trans (HG.out ▸ HR.out))
  clear hWW q2 q5 q6 f2 f5 f6
  have q2 := (blk_cell HR1.out 2).trans (show _ = some (Value.int .i64 ((k + 1 : Nat) : Int)) from rfl)
  have q6 := (blk_cell HR1.out 6).trans (show _ = some (Value.int .i64 1) from rfl)
  have q5 := (blk_cell HR1.out 5).trans (show _ = some (Value.int .i64 lb) from rfl)
  have f2 := blk_frozen HR1.out 2
  have f5 := blk_frozen HR1.out 5
  have f6 := blk_frozen HR1.out 6
  rw [HK.out] at q2
  refine start_ (n := 12) (S := fun w' => w'.cell? ⟨gr, 2, none⟩ = some (.int .i64 (m : Int)) ∧ w'.cell? ⟨gr, 6, none⟩ = some (.int .i64 1)) (ds := [11]) #[false, false, false, false, false, false, false, false, false, false, false, false] (by kernel_rfl) rfl rfl ⟨q2, q6⟩ (fun hHeld => ?_)
  refine pure_ (i := 0) (N := some 20) (v := ?_) (a' := ?_) #[true, false, false, false, false, false, false, false, false, false, false, false] rfl rfl (by kernel_rfl) (fun _ _ _ h => h) (Or.inl ⟨by rfl, ?_⟩) ?_ ?_
  rotate_left
  · intro w'
    go_simp
    with_reducible rfl
  rotate_left
  · simp only [Act.put, List.setIfInBounds_toArray, List.set_cons_zero, List.set_cons_succ, i64_w, i32_w]
    rfl
  refine pure_ (i := 1) (N := some 21) (v := ?_) (a' := ?_) #[true, true, false, false, false, false, false, false, false, false, false, false] rfl rfl (by kernel_rfl) (fun _ _ _ h => h) (Or.inl ⟨by rfl, ?_⟩) ?_ ?_
  rotate_left
  · intro w'
    go_simp
    with_reducible rfl
  rotate_left
  · simp only [Act.put, List.setIfInBounds_toArray, List.set_cons_zero, List.set_cons_succ, i64_w, i32_w]
    rfl
  refine pure_ (i := 2) (N := some 22) (v := ?_) (a' := ?_) #[true, true, true, false, false, false, false, false, false, false, false, false] rfl rfl (by kernel_rfl) (fun _ _ _ h => h) (Or.inl ⟨by rfl, ?_⟩) ?_ ?_
  rotate_left
  · intro w'
    go_simp
    with_reducible rfl
  rotate_left
  · simp only [Act.put, List.setIfInBounds_toArray, List.set_cons_zero, List.set_cons_succ, i64_w, i32_w]
    rfl
  refine pure_ (i := 4) (N := some 24) (v := ?_) (a' := ?_) #[true, true, true, false, true, false, false, false, false, false, false, false] rfl rfl (by kernel_rfl) (fun _ _ _ h => h) (Or.inl ⟨by rfl, ?_⟩) ?_ ?_
  rotate_left
  · intro w'
    go_simp
    with_reducible rfl
  rotate_left
  · simp only [Act.put, List.setIfInBounds_toArray, List.set_cons_zero, List.set_cons_succ, i64_w, i32_w]
    rfl
  refine pure_ (i := 5) (N := some 25) (v := ?_) (a' := ?_) #[true, true, true, false, true, true, false, false, false, false, false, false] rfl rfl (by kernel_rfl) (fun _ _ _ h => h) (Or.inl ⟨by rfl, ?_⟩) ?_ ?_
  rotate_left
  · intro w'
    go_simp
    with_reducible rfl
  rotate_left
  · simp only [Act.put, List.setIfInBounds_toArray, List.set_cons_zero, List.set_cons_succ, i64_w, i32_w]
    rfl
  refine pure_ (i := 6) (N := some 26) (v := ?_) (a' := ?_) #[true, true, true, false, true, true, true, false, false, false, false, false] rfl rfl (by kernel_rfl) (fun _ _ _ h => h) (Or.inl ⟨by rfl, ?_⟩) ?_ ?_
  rotate_left
  · intro w'
    go_simp
    with_reducible rfl
  rotate_left
  · simp only [Act.put, List.setIfInBounds_toArray, List.set_cons_zero, List.set_cons_succ, i64_w, i32_w]
    rfl
  refine take_ (i := 3) (N := some 23) (v := ?_) (a' := ?_) #[true, true, true, true, true, true, true, false, false, false, false, false] rfl rfl (by kernel_rfl) (fun _ _ _ h => h) (Or.inl ⟨by rfl, ?_⟩) hHeld ?_ ?_
  rotate_left
  · rintro w' ⟨s0, s1⟩
    go_simp
    with_reducible rfl
  rotate_left
  · simp only [Act.put, List.setIfInBounds_toArray, List.set_cons_zero, List.set_cons_succ, i64_w, i32_w]
    rfl
  refine take_ (i := 7) (N := some 27) (v := ?_) (a' := ?_) #[true, true, true, true, true, true, true, true, false, false, false, false] rfl rfl (by kernel_rfl) (fun _ _ _ h => h) (Or.inl ⟨by rfl, ?_⟩) hHeld ?_ ?_
  rotate_left
  · rintro w' ⟨s0, s1⟩
    go_simp
    with_reducible rfl
  rotate_left
  · simp only [Act.put, List.setIfInBounds_toArray, List.set_cons_zero, List.set_cons_succ, i64_w, i32_w]
    rfl
  refine pure_ (i := 8) (N := some 28) (v := ?_) (a' := ?_) #[true, true, true, true, true, true, true, true, true, false, false, false] rfl rfl (by kernel_rfl) (fun _ _ _ h => h) (Or.inl ⟨by rfl, ?_⟩) ?_ ?_
  rotate_left
  · intro w'
    go_simp
    with_reducible rfl
  rotate_left
  · simp only [Act.put, List.setIfInBounds_toArray, List.set_cons_zero, List.set_cons_succ, i64_w, i32_w]
    rfl
  refine pure_ (i := 9) (N := some 29) (v := ?_) (a' := ?_) #[true, true, true, true, true, true, true, true, true, true, false, false] rfl rfl (by kernel_rfl) (fun _ _ _ h => h) (Or.inl ⟨by rfl, ?_⟩) ?_ ?_
  rotate_left
  · intro w'
    go_simp
    with_reducible rfl
  rotate_left
  · simp only [Act.put, List.setIfInBounds_toArray, List.set_cons_zero, List.set_cons_succ, i64_w, i32_w]
    rfl
  refine pure_ (i := 10) (N := some 30) (v := ?_) (a' := ?_) #[true, true, true, true, true, true, true, true, true, true, true, false] rfl rfl (by kernel_rfl) (fun _ _ _ h => h) (Or.inl ⟨by rfl, ?_⟩) ?_ ?_
  rotate_left
  · intro w'
    go_simp
    with_reducible rfl
  rotate_left
  · simp only [Act.put, List.setIfInBounds_toArray, List.set_cons_zero, List.set_cons_succ, i64_w, i32_w]
    rfl
  refine last_ (i := 11) (N := none) #[true, true, true, true, true, true, true, true, true, true, true, true] rfl rfl (by kernel_rfl) (by decide) (fun K hK => ?_)
  refine skip_ (w1 := ?_) (by rfl) rfl ?_ ?_
  rotate_left
  · go_simp
    rfl
  refine hK.out _ _ ?_
  clear hK K
  refine done_ (by kernel_rfl) ?_

  go_wp2_with fail
  go_ret
  obtain rfl := HG.out
  refine ⟨rfl, ((HO.out.cell (g := d.gr) (by simp [Ad.S, In]) 2 _).cell (g := d.gr) (by simp [Ad.S, In]) 5 _).cell (g := d.gr) (by simp [Ad.S, In]) 6 _ |>.drew, .inr ⟨k, -1, ?_, fun x hx => by cases hx⟩⟩
  have hset := blk_put (blk_put (blk_put HR1.out 2 (.int .i64 ((m : Int) - 1)) rfl) 5 (.int .i64 (-1)) rfl) 6 (.int .i64 (-1)) rfl
  refine H.out.set hD (-1) (fun j hj => (Below.heap_setCell _ ⟨d.gr, 6, none⟩ _ j hj).trans ((Below.heap_setCell _ ⟨d.gr, 5, none⟩ _ j hj).trans ((Below.heap_setCell _ ⟨d.gr, 2, none⟩ _ j hj).trans (congrArg (fun h : Array Obj => h[j]?) HH.out)))) (hset.trans ?_) (fun cur hx hb j v hj => ?_) (by rw [List.length_cons]; have := HM.out; omega)
  · rw [HW.out, show k + (c :: l).length = k + 1 + l.length by rw [List.length_cons]; omega]
    rfl
  · cases j with
    | zero =>
      have h1 := HC.out
      rw [blk_cell hb k, List.getElem?_toArray] at h1
      rw [Nat.add_zero, h1]
      exact hj
    | succ j =>
      have := hx j v hj
      rw [← this]
      congr 1
      omega
end Go.Proofs.YtiibeefadgmicaaDoor.rev
