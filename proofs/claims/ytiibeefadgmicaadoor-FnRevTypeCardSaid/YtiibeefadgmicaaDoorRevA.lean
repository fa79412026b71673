/- Revisions: reading of a bytes.Buffer behind an io.LimitedReader. -/
import Derived.Test.YtiibeefadgmicaaDoorRevP
import Derived.Test.YtiibeefadgmicaaDoorMFnRevStepsx2
import Derived.Laws.CopyOwn
import Derived.Laws.CopyRow
import Derived.Deep.DeepMust
import Derived.LaidEql
namespace Go.Proofs.YtiibeefadgmicaaDoor.rev
open Go.RowKit Go.Proofs.YtiibeefadgmicaaDoorW.PrintWords Go.Proofs.YtiibeefadgmicaaDoorW.PrintLast Go.Proofs.YtiibeefadgmicaaDoorW.PrintMore Go.Proofs.YtiibeefadgmicaaDoor.PFnRevSteps
set_option linter.unusedVariables false
set_option linter.unusedSimpArgs false
set_option maxHeartbeats 2000000
set_option maxRecDepth 100000
theorem w64 {n : Int} (h0 : -9223372036854775808 ≤ n) (h1 : n < 9223372036854775808) : wrap64 n = n := by
  unfold wrap64; first | omega | (simp [IntKind.wrap_i64]; omega)
/-- Bytes as cells. -/
def bv (l : List UInt8) : List Value := l.map fun b => Value.int .u8 (b.toNat : Int)
theorem bv_len (l : List UInt8) : (bv l).length = l.length := by simp [bv]
theorem bv_one (l : List UInt8) : ∀ v ∈ bv l, v.oneCell' = true := by
  intro v hv
  obtain ⟨b, _, rfl⟩ := List.mem_map.1 hv
  rfl
/-- One of some blocks. -/
def In (L : List Nat) (k : Nat) : Prop := k ∈ L
/-- Nothing of what was there has changed but some blocks. -/
structure Off (S : Nat → Prop) (w w' : World) : Prop where
  os : w'.os = w.os
  tape : w'.tape = w.tape
  output : w'.output = w.output
  size : w.heap.size ≤ w'.heap.size
  block : ∀ k, k < w.heap.size → ¬ S k → w'.heap[k]? = w.heap[k]?
section
variable {S S' : Nat → Prop} {w w1 w2 w' : World}
theorem Off.refl (S : Nat → Prop) (w : World) : Off S w w := ⟨rfl, rfl, rfl, Nat.le_refl _, fun _ _ _ => rfl⟩
theorem Off.mono (h : Off S w w') (hs : ∀ k, S k → S' k) : Off S' w w' := ⟨h.os, h.tape, h.output, h.size, fun k hk n => h.block k hk (fun a => n (hs k a))⟩
theorem Off.trans (h : Off S w w1) (h2 : Off S w1 w2) : Off S w w2 :=
  ⟨h2.os.trans h.os, h2.tape.trans h.tape, h2.output.trans h.output, Nat.le_trans h.size h2.size, fun k hk n => (h2.block k (Nat.lt_of_lt_of_le hk h.size) n).trans (h.block k hk n)⟩
theorem Off.drew (h : Off S w w1) : Off S w w1.drew := ⟨h.os, h.tape, h.output, h.size, h.block⟩
theorem Off.drewN (h : Off S w w1) (n : Nat) : Off S w (w1.drewN n) := ⟨h.os, h.tape, h.output, h.size, h.block⟩
theorem Off.cell (h : Off S w w1) {g : Nat} (hg : S g) (j : Nat) (u : Value) : Off S w (w1.setCell ⟨g, j, none⟩ u) :=
  have hb : Below g w1 (w1.setCell ⟨g, j, none⟩ u) := (Below.refl g w1).setCell (Nat.le_refl g) u
  h.trans ⟨hb.os, hb.tape, hb.output, hb.size, fun k hk n => Below.heap_setCell w1 ⟨g, j, none⟩ u k (fun he => n (he ▸ hg))⟩
theorem Off.row (h : Off S w w1) {g : Nat} (hg : S g) (cs : Array Value) : Off S w (w1.setRow g cs) :=
  h.trans ⟨rfl, rfl, rfl, by simp, fun k hk n => setRow_other _ _ _ _ (fun he => n (he ▸ hg))⟩
theorem Off.then_ (h : Off S w w1) (hb : Below w1.heap.size w1 w2) : Off S w w2 := h.trans ⟨hb.os, hb.tape, hb.output, hb.size, fun k hk _ => hb.block k hk⟩
theorem Off.below {base : Nat} (h : Off S w w') (hs : base ≤ w.heap.size) (hS : ∀ k, S k → base ≤ k) : Below base w w' :=
  ⟨h.os, h.tape, h.output, h.size, fun k hk => h.block k (by omega) (fun a => by have := hS k a; omega)⟩
theorem Off.blk {k : Nat} {o : Obj} (h : Off S w w') (hk : w.heap[k]? = some o) (n : ¬ S k) : w'.heap[k]? = some o := (h.block k (blk_lt hk) n).trans hk
end
theorem cell_same {w w' : World} (g j : Nat) (h : w'.heap[g]? = w.heap[g]?) : w'.cell? ⟨g, j, none⟩ = w.cell? ⟨g, j, none⟩ := World.cell?_of_block (w := w) h
theorem step_copy {P : Program} {ops : Array Oper} {o : Oper} {a : Act} {w : World} {K : Act → World → Prop} {Q : Exit → Act → World → Prop} {E : Prop} (hw : Region.wanted o (yielded ops a.tmps) = true) (d s : Operand) (dT sT : TypeId)
    (ho : o.op = .call { callee := .builtin .copy, args := #[d, s], argTypes := #[dT, sT] }) (elem : TypeId) (hu : P.underlying dT = some (.slice elem)) (hsz : (P.info? elem).map (·.size) = some 1)
    (g off dLen dCap : Nat) (ad : Addr) (sLen sCap : Nat) (hd : a.eval d = .slice (some ⟨g, off, none⟩) dLen dCap) (hs : a.eval s = .slice (some ad) sLen sCap)
    (cur : List Value) (t : TypeId) (hg : w.heap[g]? = some (.cells cur.toArray t (0, 0))) (cs : List Value) (hn : cs.length = Nat.min sLen dLen)
    (hsrc : ∀ j v, cs[j]? = some v → w.cell? (ad.add j) = some v) (hfit : off + cs.length ≤ cur.length) (h1 : ∀ v ∈ cs, v.oneCell' = true)
    (h : K (a.put o.dst (.int .i64 (cs.length : Int))) (w.setRow g (splice cur off cs).toArray)) : if Region.wanted o (yielded ops a.tmps) = true then Oper.wp P o a w K Q else E := by
  rw [if_pos hw]
  have hrun := run_copy_row (P := P) w dT sT o.type elem g off dLen dCap ad sLen sCap cur.toArray t cs hu hsz hg hn hsrc (by simpa using hfit) h1
  unfold Oper.wp
  simp [execOp, ho, resolve, invoke, builtin, hd, hs, hrun, Result.andThen]
  exact (show K (a.put o.dst (goInt cs.length)) _ from by simpa [splice, goInt] using h)
/-- The cells of a bytes.Buffer. -/
def buC (A : Option Addr) (n c off : Nat) (op : Int) : Array Value := #[.slice A n c, .int .i64 (off : Int), .int .i8 op]
theorem empty_any (w : World) (gu n c off : Nat) (A : Option Addr) (op : Int) (b : Bool) (hU : w.heap[gu]? = some (.cells (buC A n c off op) 94 (0, 0))) (hb : decide ((n : Int) ≤ (off : Int)) = b) (hb2 : decide (n ≤ off) = b) :
    Calls Tryd.prog 106 #[.pointer (some ⟨gu, 0, none⟩)] w fun e w' => e = .returned (.bool b) ∧ Below w.heap.size w w' ∧ w'.heap = w.heap := by
  have q0 := (blk_cell hU 0).trans (show _ = some (Value.slice A n c) from rfl)
  have q1 := (blk_cell hU 1).trans (show _ = some (Value.int .i64 (off : Int)) from rfl)
  go_enter Tryd.func106, Tryd.ntmps106
  go_wp2_with fail
  go_quiet (fail)
  go_wp2
  go_ret
  exact ⟨rfl, pw_below_drewN (Below.refl _ _) _, rfl⟩
theorem bufReset_any (w : World) (gu n c off : Nat) (A : Option Addr) (op : Int) (hn : n ≤ c) (hU : w.heap[gu]? = some (.cells (buC A n c off op) 94 (0, 0))) :
    Calls Tryd.prog 104 #[.pointer (some ⟨gu, 0, none⟩)] w fun e w' => e = .returned (.tuple #[]) ∧ Off (In [gu]) w w' ∧ w'.heap[gu]? = some (.cells (buC A 0 c 0 0) 94 (0, 0)) := by
  have HU := Aside0.mk hU
  have q0 := (blk_cell hU 0).trans (show _ = some (Value.slice A n c) from rfl)
  have q1 := (blk_cell hU 1).trans (show _ = some (Value.int .i64 (off : Int)) from rfl)
  have q2 := (blk_cell hU 2).trans (show _ = some (Value.int .i8 op) from rfl)
  have f0 := blk_frozen hU 0
  have f1 := blk_frozen hU 1
  have f2 := blk_frozen hU 2
  clear hU
  go_enter Tryd.func104, Tryd.ntmps104
  go_wp2
  refine bodyPost_end (results_none rfl _ _ _) rfl ?_
  exact ⟨rfl, (((Off.refl _ w).cell (by simp [In]) 0 _).cell (by simp [In]) 1 _).cell (by simp [In]) 2 _, blk_put (blk_put (blk_put HU.out 0 _ rfl) 1 _ rfl) 2 _ rfl⟩
theorem bufRead_end (w : World) (gu gb n c off k kc : Nat) (A : Option Addr) (op : Int) (eof : Value) (hn : n ≤ c) (ho : n ≤ off) (hk : 0 < k) (hU : w.heap[gu]? = some (.cells (buC A n c off op) 94 (0, 0))) (hE : w.cell? ⟨0, 0, none⟩ = some eof) (hg : 0 ≠ gu) :
    Calls Tryd.prog 103 #[.pointer (some ⟨gu, 0, none⟩), .slice (some ⟨gb, 0, none⟩) k kc] w fun e w' => e = .returned (.tuple #[.int .i64 0, eof]) ∧ Off (In [gu]) w w' ∧ w'.heap[gu]? = some (.cells (buC A 0 c 0 0) 94 (0, 0)) := by
  have HU := Aside0.mk hU
  have HE := Aside0.mk hE
  have HG := Aside0.mk hg
  have q2 := (blk_cell hU 2).trans (show _ = some (Value.int .i8 op) from rfl)
  have f2 := blk_frozen hU 2
  have k1 : ((k : Int) == 0) = false := beq_eq_false_iff_ne.2 (by omega)
  have k2 : (k == 0) = false := beq_eq_false_iff_ne.2 (by omega)
  clear hU hE hg
  go_enter Tryd.func103, Tryd.ntmps103
  go_wp2_with fail
  refine (empty_any _ gu n c off A 0 true (blk_put HU.out 2 _ rfl) (decide_eq_true (by omega)) (decide_eq_true ho)).mono ?_
  rintro e w1 ⟨rfl, hb1, hh1⟩
  have HB1 := Aside0.mk (((Off.refl (In [gu]) w).cell (by simp [In]) 2 _).then_ hb1)
  have HU1 := Aside0.mk (blk_below (blk_put HU.out 2 (.int .i8 0) rfl) hb1)
  clear hb1 hh1 q2 f2
  go_wp2_with fail
  refine (bufReset_any _ gu n c off A 0 hn HU1.out).mono ?_
  rintro e w2 ⟨rfl, hb2, hu2⟩
  have HB2 := Aside0.mk (HB1.out.trans hb2)
  have HU2 := Aside0.mk hu2
  have qe := (cell_same _ 0 (HB2.out.block _ (World.block_lt_of_cell? w _ HE.out) (by simp [In]; exact HG.out))).trans HE.out
  clear hb2 hu2 HE
  go_wp2_with fail
  go_quiet (fail)
  go_wp2
  go_ret2
  exact ⟨rfl, HB2.out.drewN _, HU2.out⟩
theorem bufRead_full (w : World) (gu gb gx c : Nat) (l : List UInt8) (op : Int) (cur : List Value) (tb : TypeId) (hl : 0 < l.length) (h100 : l.length ≤ 4096) (hc : l.length ≤ c) (hcur : cur.length = 4096) (hub : gu ≠ gb)
    (hU : w.heap[gu]? = some (.cells (buC (some ⟨gx, 0, none⟩) l.length c 0 op) 94 (0, 0))) (hX : ∀ (j : Nat) (v : Value), (bv l)[j]? = some v → w.cell? ⟨gx, j, none⟩ = some v) (hxu : gx ≠ gu) (hB : w.heap[gb]? = some (.cells cur.toArray tb (0, 0))) :
    Calls Tryd.prog 103 #[.pointer (some ⟨gu, 0, none⟩), .slice (some ⟨gb, 0, none⟩) 4096 4096] w fun e w' => e = .returned (.tuple #[.int .i64 (l.length : Int), .nilIface]) ∧ Off (In [gu, gb]) w w' ∧ w'.heap[gb]? = some (.cells (splice cur 0 (bv l)).toArray tb (0, 0)) ∧ w'.heap[gu]? = some (.cells (buC (some ⟨gx, 0, none⟩) l.length c l.length (-1)) 94 (0, 0)) := by
  have HU := Aside0.mk hU
  have HB := Aside0.mk hB
  have HX := Aside0.mk hX
  have HXU := Aside0.mk hxu
  have HUB := Aside0.mk hub
  have HCUR := Aside0.mk hcur
  have q2 := (blk_cell hU 2).trans (show _ = some (Value.int .i8 op) from rfl)
  have f2 := blk_frozen hU 2
  clear hU hB hX hxu hub hcur
  go_enter Tryd.func103, Tryd.ntmps103
  go_wp2_with fail
  refine (empty_any _ gu l.length c 0 _ 0 false (blk_put HU.out 2 _ rfl) (decide_eq_false (by omega)) (decide_eq_false (by omega))).mono ?_
  rintro e w1 ⟨rfl, hb1, hh1⟩
  have HN1 := Aside0.mk (((Off.refl (In [gu, gb]) w).cell (g := gu) (by simp [In]) 2 (.int .i8 0)).then_ hb1)
  have HU1 := Aside0.mk (blk_below (blk_put HU.out 2 (.int .i8 0) rfl) hb1)
  have HB1 := Aside0.mk (blk_below (show (w.setCell ⟨gu, 2, none⟩ (.int .i8 0)).heap[gb]? = _ from (Below.heap_setCell w ⟨gu, 2, none⟩ _ gb (Ne.symm HUB.out)).trans HB.out) hb1)
  have HX1 := Aside0.mk (show ∀ (j : Nat) (v : Value), (bv l)[j]? = some v → w1.cell? ⟨gx, j, none⟩ = some v from fun j v hv => by
    have h0 := HX.out j v hv
    have h1 : (w.setCell ⟨gu, 2, none⟩ (.int .i8 0)).heap[gx]? = w.heap[gx]? := Below.heap_setCell w ⟨gu, 2, none⟩ _ gx HXU.out
    exact (cell_same gx j ((congrArg (fun h : Array Obj => h[gx]?) hh1).trans h1)).trans h0)
  clear hb1 hh1 q2 f2 HU HB HX
  have c1 : decide ((0 : Int) < (l.length : Int)) = true := decide_eq_true (by omega)
  have c2 : decide (0 < l.length) = true := decide_eq_true hl
  have v1 : (0 : Int) ≤ (0 : Int) := by omega
  have v2 : (0 : Int) ≤ (l.length : Int) := by omega
  have v4 : (c = 0) = False := eq_false (by omega)
  have HN : Aside0 ((bv l).length = Nat.min l.length 4096) := ⟨by rw [bv_len]; show _ = min _ _; omega⟩
  have HF : Aside0 (0 + (bv l).length ≤ cur.length) := ⟨by rw [bv_len, HCUR.out]; omega⟩
  have HXX := Aside0.mk (show ∀ (j : Nat) (v : Value), (bv l)[j]? = some v → w1.drew.cell? ((⟨gx, 0, none⟩ : Addr).add j) = some v from fun j v hv => by
    have h := HX1.out j v hv
    show w1.cell? _ = _
    rw [show (⟨gx, 0, none⟩ : Addr).add j = ⟨gx, j, none⟩ by unfold Addr.add; by_cases e : j = 0 <;> simp [e]]
    exact h)
  go_wp2_with fail
  refine start_ (n := 12) (S := fun w' => w'.cell? ⟨gu, 0, none⟩ = some (.slice (some ⟨gx, 0, none⟩) l.length c) ∧ w'.cell? ⟨gu, 1, none⟩ = some (.int .i64 0)) (ds := [10, 11]) #[false, false, false, false, false, false, false, false, false, false, false, false] (by kernel_rfl) rfl rfl ⟨(blk_cell (blk_drew HU1.out) 0).trans rfl, (blk_cell (blk_drew HU1.out) 1).trans rfl⟩ (fun hHeld => ?_)
  refine pure_ (i := 0) (N := some 17) (v := ?_) (a' := ?_) #[true, false, false, false, false, false, false, false, false, false, false, false] rfl rfl (by kernel_rfl) (fun _ _ _ h => h) (Or.inl ⟨by rfl, ?_⟩) ?_ ?_
  rotate_left
  · intro w'
    go_simp
    with_reducible rfl
  rotate_left
  · simp only [Act.put, List.setIfInBounds_toArray, List.set_cons_zero, List.set_cons_succ, i64_w, i32_w]
    rfl
  refine pure_ (i := 1) (N := some 18) (v := ?_) (a' := ?_) #[true, true, false, false, false, false, false, false, false, false, false, false] rfl rfl (by kernel_rfl) (fun _ _ _ h => h) (Or.inl ⟨by rfl, ?_⟩) ?_ ?_
  rotate_left
  · intro w'
    go_simp
    with_reducible rfl
  rotate_left
  · simp only [Act.put, List.setIfInBounds_toArray, List.set_cons_zero, List.set_cons_succ, i64_w, i32_w]
    rfl
  refine pure_ (i := 2) (N := some 19) (v := ?_) (a' := ?_) #[true, true, true, false, false, false, false, false, false, false, false, false] rfl rfl (by kernel_rfl) (fun _ _ _ h => h) (Or.inl ⟨by rfl, ?_⟩) ?_ ?_
  rotate_left
  · intro w'
    go_simp
    with_reducible rfl
  rotate_left
  · simp only [Act.put, List.setIfInBounds_toArray, List.set_cons_zero, List.set_cons_succ, i64_w, i32_w]
    rfl
  refine pure_ (i := 3) (N := some 20) (v := ?_) (a' := ?_) #[true, true, true, true, false, false, false, false, false, false, false, false] rfl rfl (by kernel_rfl) (fun _ _ _ h => h) (Or.inl ⟨by rfl, ?_⟩) ?_ ?_
  rotate_left
  · intro w'
    go_simp
    with_reducible rfl
  rotate_left
  · simp only [Act.put, List.setIfInBounds_toArray, List.set_cons_zero, List.set_cons_succ, i64_w, i32_w]
    rfl
  refine pure_ (i := 5) (N := some 22) (v := ?_) (a' := ?_) #[true, true, true, true, false, true, false, false, false, false, false, false] rfl rfl (by kernel_rfl) (fun _ _ _ h => h) (Or.inl ⟨by rfl, ?_⟩) ?_ ?_
  rotate_left
  · intro w'
    go_simp
    with_reducible rfl
  rotate_left
  · simp only [Act.put, List.setIfInBounds_toArray, List.set_cons_zero, List.set_cons_succ, i64_w, i32_w]
    rfl
  refine pure_ (i := 6) (N := some 23) (v := ?_) (a' := ?_) #[true, true, true, true, false, true, true, false, false, false, false, false] rfl rfl (by kernel_rfl) (fun _ _ _ h => h) (Or.inl ⟨by rfl, ?_⟩) ?_ ?_
  rotate_left
  · intro w'
    go_simp
    with_reducible rfl
  rotate_left
  · simp only [Act.put, List.setIfInBounds_toArray, List.set_cons_zero, List.set_cons_succ, i64_w, i32_w]
    rfl
  refine pure_ (i := 7) (N := some 24) (v := ?_) (a' := ?_) #[true, true, true, true, false, true, true, true, false, false, false, false] rfl rfl (by kernel_rfl) (fun _ _ _ h => h) (Or.inl ⟨by rfl, ?_⟩) ?_ ?_
  rotate_left
  · intro w'
    go_simp
    with_reducible rfl
  rotate_left
  · simp only [Act.put, List.setIfInBounds_toArray, List.set_cons_zero, List.set_cons_succ, i64_w, i32_w]
    rfl
  refine take_ (i := 4) (N := some 21) (v := ?_) (a' := ?_) #[true, true, true, true, true, true, true, true, false, false, false, false] rfl rfl (by kernel_rfl) (fun _ _ _ h => h) (Or.inl ⟨by rfl, ?_⟩) hHeld ?_ ?_
  rotate_left
  · rintro w' ⟨s0, s1⟩
    go_simp
    with_reducible rfl
  rotate_left
  · simp only [Act.put, List.setIfInBounds_toArray, List.set_cons_zero, List.set_cons_succ, i64_w, i32_w]
    rfl
  refine take_ (i := 8) (N := some 25) (v := ?_) (a' := ?_) #[true, true, true, true, true, true, true, true, true, false, false, false] rfl rfl (by kernel_rfl) (fun _ _ _ h => h) (Or.inl ⟨by rfl, ?_⟩) hHeld ?_ ?_
  rotate_left
  · rintro w' ⟨s0, s1⟩
    go_simp
    with_reducible rfl
  rotate_left
  · simp only [Act.put, List.setIfInBounds_toArray, List.set_cons_zero, List.set_cons_succ, i64_w, i32_w]
    rfl
  refine pure_ (i := 9) (N := some 26) (v := ?_) (a' := ?_) #[true, true, true, true, true, true, true, true, true, true, false, false] rfl rfl (by kernel_rfl) (fun _ _ _ h => h) (Or.inl ⟨by rfl, ?_⟩) ?_ ?_
  rotate_left
  · intro w'
    go_simp
    with_reducible rfl
  rotate_left
  · simp only [Act.put, List.setIfInBounds_toArray, List.set_cons_zero, List.set_cons_succ, i64_w, i32_w]
    rfl
  refine last_ (i := 10) (N := some 27) #[true, true, true, true, true, true, true, true, true, true, true, false] rfl rfl (by kernel_rfl) (by decide) (fun K hK => ?_)
  refine step_copy (by rfl) (.tmp 17) (.tmp 26) 90 90 rfl 5 Tryd.underlying90 (by kernel_rfl) gb 0 4096 4096 ⟨gx, 0, none⟩ l.length c rfl rfl cur tb (blk_drew HB1.out) (bv l) HN.out HXX.out HF.out (bv_one l) ?_
  rw [bv_len]
  refine hK.out _ _ ?_
  clear hK K
  refine norm_ (a' := ?_) ?_ ?_
  rotate_left
  · show Act.put _ (some 27) _ = _
    simp only [Act.put, List.setIfInBounds_toArray, List.set_cons_zero, List.set_cons_succ, i64_w, i32_w]
    rfl
  refine pure_ (i := 11) (N := some 4) (v := ?_) (a' := ?_) #[true, true, true, true, true, true, true, true, true, true, true, true] rfl rfl (by kernel_rfl) (fun _ _ _ h => h) (Or.inl ⟨by rfl, ?_⟩) ?_ ?_
  rotate_left
  · intro w'
    go_simp
    with_reducible rfl
  rotate_left
  · simp only [Act.put, List.setIfInBounds_toArray, List.set_cons_zero, List.set_cons_succ, i64_w, i32_w]
    rfl
  refine done_ (by kernel_rfl) ?_

  have HN2 := Aside0.mk (HN1.out.drew.row (g := gb) (by simp [In]) (splice cur 0 (bv l)).toArray)
  have HB2 := Aside0.mk (setRow_heap w1.drew gb _ (splice cur 0 (bv l)).toArray tb (0, 0) (blk_drew HB1.out))
  have HU2 := Aside0.mk ((setRow_other w1.drew gb gu (splice cur 0 (bv l)).toArray HUB.out).trans (blk_drew HU1.out))
  generalize hW2 : w1.drew.setRow gb (splice cur 0 (bv l)).toArray = W2
  rw [hW2] at HN2 HB2 HU2
  clear hW2
  have q1 := (blk_cell HU2.out 1).trans (show _ = some (Value.int .i64 0) from rfl)
  have q2 := (blk_cell HU2.out 2).trans (show _ = some (Value.int .i8 0) from rfl)
  have f1 := blk_frozen HU2.out 1
  have f2 := blk_frozen HU2.out 2
  go_wp2_with fail
  go_ret2
  refine ⟨rfl, (HN2.out.cell (g := gu) (by simp [In]) 1 _).cell (g := gu) (by simp [In]) 2 _, ?_, blk_put (blk_put HU2.out 1 _ (by simp [buC]; rfl)) 2 _ rfl⟩
  exact (Below.heap_setCell _ ⟨gu, 2, none⟩ _ gb (Ne.symm HUB.out)).trans ((Below.heap_setCell _ ⟨gu, 1, none⟩ _ gb (Ne.symm HUB.out)).trans HB2.out)
end Go.Proofs.YtiibeefadgmicaaDoor.rev
