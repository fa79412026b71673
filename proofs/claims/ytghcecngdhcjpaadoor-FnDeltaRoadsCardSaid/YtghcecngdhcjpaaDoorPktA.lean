/- Packet lines: reading of a bytes.Reader. -/
import Derived.Test.YtghcecngdhcjpaaDoorPktP
import Derived.Test.YtghcecngdhcjpaaDoorMFnSideBackx1
import Derived.Laws.CopyOwn
import Derived.Laws.CopyRow
namespace Go.Proofs.YtghcecngdhcjpaaDoor.pkt
open Go.RowKit Go.Proofs.YtghcecngdhcjpaaDoorW.PrintWords Go.Proofs.YtghcecngdhcjpaaDoorW.PrintLast Go.Proofs.YtghcecngdhcjpaaDoorW.PrintMore Go.Proofs.YtghcecngdhcjpaaDoor.PFnSideBack
set_option linter.unusedVariables false
set_option linter.unusedSimpArgs false
set_option maxHeartbeats 2000000
set_option maxRecDepth 100000
theorem w64 {n : Int} (h0 : -9223372036854775808 ≤ n) (h1 : n < 9223372036854775808) : wrap64 n = n := by
  unfold wrap64; first | omega | (simp [IntKind.wrap_i64]; omega)
/-- Bytes as cells. -/
def bv (l : List Int) : List Value := l.map (Value.int .u8)
theorem bv_len (l : List Int) : (bv l).length = l.length := by simp [bv]
theorem bv_one (l : List Int) : ∀ v ∈ bv l, v.oneCell' = true := by
  intro v hv
  obtain ⟨b, _, rfl⟩ := List.mem_map.1 hv
  rfl
/-- Nothing of what was there has changed but two blocks. -/
structure Near (w w' : World) (g : Nat) (row : Option Nat) : Prop where
  os : w'.os = w.os
  tape : w'.tape = w.tape
  output : w'.output = w.output
  size : w.heap.size ≤ w'.heap.size
  block : ∀ k, k < w.heap.size → k ≠ g → some k ≠ row → w'.heap[k]? = w.heap[k]?
theorem Near.refl (w : World) (g : Nat) (row : Option Nat) : Near w w g row := ⟨rfl, rfl, rfl, Nat.le_refl _, fun _ _ _ _ => rfl⟩
theorem Near.drew {w w' : World} {g : Nat} {row : Option Nat} (h : Near w w' g row) : Near w w'.drew g row := ⟨h.os, h.tape, h.output, h.size, h.block⟩
theorem Near.trans {w w1 w2 : World} {g : Nat} {row : Option Nat} (h : Near w w1 g row) (h2 : Near w1 w2 g row) : Near w w2 g row :=
  ⟨h2.os.trans h.os, h2.tape.trans h.tape, h2.output.trans h.output, Nat.le_trans h.size h2.size, fun k hk a b => (h2.block k (Nat.lt_of_lt_of_le hk h.size) a b).trans (h.block k hk a b)⟩
theorem Near.cell {w w' : World} {g : Nat} {row : Option Nat} (h : Near w w' g row) (j : Nat) (u : Value) : Near w (w'.setCell ⟨g, j, none⟩ u) g row :=
  have hb : Below g w' (w'.setCell ⟨g, j, none⟩ u) := (Below.refl g w').setCell (Nat.le_refl g) u
  h.trans ⟨hb.os, hb.tape, hb.output, hb.size, fun k hk h1 h2 => Below.heap_setCell w' ⟨g, j, none⟩ u k h1⟩
theorem Near.row {w w' : World} {g gb : Nat} (h : Near w w' g (some gb)) (cs : Array Value) : Near w (w'.setRow gb cs) g (some gb) :=
  h.trans ⟨rfl, rfl, rfl, by simp, fun k hk h1 h2 => setRow_other _ _ _ _ (fun he => h2 (by rw [he]))⟩
theorem Near.below {w w' : World} {g base : Nat} {row : Option Nat} (h : Near w w' g row) (hs : base ≤ w.heap.size) (hg : base ≤ g) (hr : ∀ k, row = some k → base ≤ k) : Below base w w' :=
  ⟨h.os, h.tape, h.output, h.size, fun k hk => h.block k (by omega) (by omega) (fun he => by have := hr k he.symm; omega)⟩
theorem step_copy {P : Program} {ops : Array Oper} {o : Oper} {a : Act} {w : World} {K : Act → World → Prop} {Q : Exit → Act → World → Prop} {E : Prop} (hw : Region.wanted o (yielded ops a.tmps) = true) (d s : Operand) (dT sT : TypeId)
    (ho : o.op = .call { callee := .builtin .copy, args := #[d, s], argTypes := #[dT, sT] }) (elem : TypeId) (hu : P.underlying dT = some (.slice elem)) (hsz : (P.info? elem).map (·.size) = some 1)
    (g off dLen dCap : Nat) (ad : Addr) (sLen sCap : Nat) (hd : a.eval d = .slice (some ⟨g, off, none⟩) dLen dCap) (hs : a.eval s = .slice (some ad) sLen sCap)
    (cur : List Value) (t : TypeId) (hg : w.heap[g]? = some (.cells cur.toArray t (0, 0))) (cs : List Value) (hn : cs.length = Nat.min sLen dLen)
    (hsrc : ∀ j v, cs[j]? = some v → w.cell? (ad.add j) = some v) (hfit : off + cs.length ≤ cur.length) (h1 : ∀ v ∈ cs, v.oneCell' = true)
    (h : K (a.put o.dst (.int .i64 (cs.length : Int))) (w.setRow g (splice cur off cs).toArray)) : if Region.wanted o (yielded ops a.tmps) = true then Oper.wp P o a w K Q else E := by
  rw [if_pos hw]
  have hrun := run_copy_row (P := P) w dT sT o.type elem g off dLen dCap ad sLen sCap cur.toArray t cs hu hsz hg hn hsrc (by simpa using hfit) h1
  unfold Oper.wp
  simp [execOp, ho, resolve, invoke, builtin, hd, hs, hrun, Result.andThen]
  exact (show K (a.put o.dst (goInt cs.length)) _ from by simpa [splice, goInt] using h)
theorem src_at {w : World} {A : Option Addr} {xs : List Int} (h : (Kd.int .u8).C w A xs.length xs) (j : Nat) (hj : j < xs.length) : ∃ ad, A = some ad ∧ ∀ (k : Nat) (hk : k < xs.length), w.cell? (ad.add k) = some (.int .u8 xs[k]) := by
  obtain ⟨ad, e, _⟩ := Kd.at_int h (j : Int) (by omega) (by omega)
  refine ⟨ad, e, fun k hk => ?_⟩
  obtain ⟨ad', e', hc⟩ := Kd.at_int h (k : Int) (by omega) (by omega)
  rw [e] at e'
  injection e' with e'
  subst e'
  rw [Int.toNat_natCast] at hc
  rw [hc]
  unfold rd
  rw [Int.toNat_natCast, List.getD_eq_getElem?_getD, List.getElem?_eq_getElem hk]; rfl
/-- The cells of a bytes.Reader. -/
def rdCells (A : Option Addr) (n c : Nat) (i pr : Int) : Array Value := #[.slice A n c, .int .i64 i, .int .i64 pr]
def AtRd (w : World) (gr : Nat) (A : Option Addr) (n c i : Nat) : Prop := ∃ pr : Int, w.heap[gr]? = some (.cells (rdCells A n c i pr) 95 (0, 0))
/-- What Read tells, of a row that is not empty. -/
def ReadPost (w : World) (gr gb : Nat) (A : Option Addr) (c : Nat) (xs : List Int) (i o k : Nat) (cur : List Value) (tb : TypeId) (eof : Value) (e : Ending) (w' : World) : Prop := Near w w' gr (some gb) ∧ AtRd w' gr A xs.length c (i + ((xs.drop i).take k).length) ∧
  w'.heap[gb]? = some (.cells (splice cur o (bv ((xs.drop i).take k))).toArray tb (0, 0)) ∧ e = .returned (.tuple #[.int .i64 (((xs.drop i).take k).length : Int), if i < xs.length then .nilIface else eof])
theorem read_any (w0 w : World) (A : Option Addr) (c : Nat) (xs : List Int) (gr gb i o k cap : Nat) (cur : List Value) (tb : TypeId) (eof : Value) (hS : (Kd.int .u8).C w0 A xs.length xs) (hc : xs.length ≤ c) (hB : Below w0.heap.size w0 w) (hR : AtRd w gr A xs.length c i) (hG : w.heap[gb]? = some (.cells cur.toArray tb (0, 0))) (hne : gb ≠ gr) (hfit : o + k ≤ cur.length) (hge : w0.heap.size ≤ gr) (hi : i ≤ xs.length) (hx : xs.length ≤ 9000000000000000000) (hE : w.cell? ⟨0, 0, none⟩ = some eof) :
    Calls Tryd.prog 120 #[.pointer (some ⟨gr, 0, none⟩), .slice (some ⟨gb, o, none⟩) k cap] w (ReadPost w gr gb A c xs i o k cur tb eof) := by
  obtain ⟨pr, hR⟩ := hR
  have HR := Aside0.mk hR
  have HS := Aside0.mk hS
  have HG := Aside0.mk hG
  have HB := Aside0.mk hB
  have HE1 := Aside0.mk (show w.drew.drew.cell? ⟨0, 0, none⟩ = some eof from hE)
  have HNE := Aside0.mk hne
  have HFIT := Aside0.mk hfit
  have HGE := Aside0.mk hge
  clear hR hS hG hE hB hne hfit hge
  by_cases hlt : i < xs.length
  · have d1 : decide ((xs.length : Int) ≤ (i : Int)) = false := decide_eq_false (by omega)
    have d2 : decide (xs.length ≤ i) = false := decide_eq_false (by omega)
    obtain ⟨ad, eA, hsrc⟩ := src_at HS.out i hlt
    subst eA
    have v1 : (0 : Int) ≤ (i : Int) := by omega
    have v2 : (i : Int) ≤ (xs.length : Int) := by omega
    have v3 : xs.length ≤ c := hc
    have v4 : (c = i) = False := eq_false (by omega)
    obtain ⟨ys, hys⟩ : ∃ ys, (xs.drop i).take k = ys := ⟨_, rfl⟩
    have HYN := Aside0.mk (show (bv ys).length = Nat.min (xs.length - i) k by rw [bv_len, ← hys, List.length_take, List.length_drop]; show min k (xs.length - i) = min (xs.length - i) k; omega)
    have HYL := Aside0.mk (show ys.length ≤ k by rw [← hys, List.length_take]; omega)
    have HYM := Aside0.mk (show i + ys.length ≤ xs.length by rw [← hys, List.length_take, List.length_drop]; omega)
    have HFY := Aside0.mk (show o + (bv ys).length ≤ cur.length by rw [bv_len]; have := HFIT.out; have := HYL.out; omega)
    have HYX := Aside0.mk (show ∀ (j : Nat) (v : Value), (bv ys)[j]? = some v → w0.cell? ((ad.add i).add j) = some v from fun j v hv => by
      rw [bv, List.getElem?_map, ← hys, Option.map_eq_some_iff] at hv
      obtain ⟨u, hu, rfl⟩ := hv
      have hj := (List.getElem?_eq_some_iff.1 hu).1
      rw [List.length_take, List.length_drop] at hj
      rw [List.getElem?_take, if_pos (by omega), List.getElem?_drop, List.getElem?_eq_getElem (by omega)] at hu
      injection hu with hu
      rw [add_add, hsrc (i + j) (by omega), hu])
    have HYS := Aside0.mk hys
    clear hys hsrc
    go_enter Tryd.func120, Tryd.ntmps120
    go_wp2_with fail
    refine start_ (n := 10) (S := fun w' => w'.cell? ⟨gr, 0, none⟩ = some (.slice (some ad) xs.length c) ∧ w'.cell? ⟨gr, 1, none⟩ = some (.int .i64 (i : Int))) (ds := []) #[false, false, false, false, false, false, false, false, false, false] (by kernel_rfl) rfl rfl ⟨(blk_cell (blk_drew HR.out) 0).trans rfl, (blk_cell (blk_drew HR.out) 1).trans rfl⟩ (fun hHeld => ?_)
    refine pure_ (i := 0) (N := some 6) (v := ?_) (a' := ?_) #[true, false, false, false, false, false, false, false, false, false] rfl rfl (by kernel_rfl) (fun _ _ _ h => h) (Or.inl ⟨by rfl, ?_⟩) ?_ ?_
    rotate_left
    · intro w'
      go_simp
      with_reducible rfl
    rotate_left
    · simp only [Act.put, List.setIfInBounds_toArray, List.set_cons_zero, List.set_cons_succ, i64_w, i32_w]
      rfl
    refine pure_ (i := 1) (N := some 7) (v := ?_) (a' := ?_) #[true, true, false, false, false, false, false, false, false, false] rfl rfl (by kernel_rfl) (fun _ _ _ h => h) (Or.inl ⟨by rfl, ?_⟩) ?_ ?_
    rotate_left
    · intro w'
      go_simp
      with_reducible rfl
    rotate_left
    · simp only [Act.put, List.setIfInBounds_toArray, List.set_cons_zero, List.set_cons_succ, i64_w, i32_w]
      rfl
    refine pure_ (i := 2) (N := some 8) (v := ?_) (a' := ?_) #[true, true, true, false, false, false, false, false, false, false] rfl rfl (by kernel_rfl) (fun _ _ _ h => h) (Or.inl ⟨by rfl, ?_⟩) ?_ ?_
    rotate_left
    · intro w'
      go_simp
      with_reducible rfl
    rotate_left
    · simp only [Act.put, List.setIfInBounds_toArray, List.set_cons_zero, List.set_cons_succ, i64_w, i32_w]
      rfl
    refine pure_ (i := 4) (N := some 10) (v := ?_) (a' := ?_) #[true, true, true, false, true, false, false, false, false, false] rfl rfl (by kernel_rfl) (fun _ _ _ h => h) (Or.inl ⟨by rfl, ?_⟩) ?_ ?_
    rotate_left
    · intro w'
      go_simp
      with_reducible rfl
    rotate_left
    · simp only [Act.put, List.setIfInBounds_toArray, List.set_cons_zero, List.set_cons_succ, i64_w, i32_w]
      rfl
    refine pure_ (i := 5) (N := some 11) (v := ?_) (a' := ?_) #[true, true, true, false, true, true, false, false, false, false] rfl rfl (by kernel_rfl) (fun _ _ _ h => h) (Or.inl ⟨by rfl, ?_⟩) ?_ ?_
    rotate_left
    · intro w'
      go_simp
      with_reducible rfl
    rotate_left
    · simp only [Act.put, List.setIfInBounds_toArray, List.set_cons_zero, List.set_cons_succ, i64_w, i32_w]
      rfl
    refine pure_ (i := 6) (N := some 12) (v := ?_) (a' := ?_) #[true, true, true, false, true, true, true, false, false, false] rfl rfl (by kernel_rfl) (fun _ _ _ h => h) (Or.inl ⟨by rfl, ?_⟩) ?_ ?_
    rotate_left
    · intro w'
      go_simp
      with_reducible rfl
    rotate_left
    · simp only [Act.put, List.setIfInBounds_toArray, List.set_cons_zero, List.set_cons_succ, i64_w, i32_w]
      rfl
    refine take_ (i := 3) (N := some 9) (v := ?_) (a' := ?_) #[true, true, true, true, true, true, true, false, false, false] rfl rfl (by kernel_rfl) (fun _ _ _ h => h) (Or.inl ⟨by rfl, ?_⟩) hHeld ?_ ?_
    rotate_left
    · rintro w' ⟨s0, s1⟩
      go_simp
      with_reducible rfl
    rotate_left
    · simp only [Act.put, List.setIfInBounds_toArray, List.set_cons_zero, List.set_cons_succ, i64_w, i32_w]
      rfl
    refine take_ (i := 7) (N := some 13) (v := ?_) (a' := ?_) #[true, true, true, true, true, true, true, true, false, false] rfl rfl (by kernel_rfl) (fun _ _ _ h => h) (Or.inl ⟨by rfl, ?_⟩) hHeld ?_ ?_
    rotate_left
    · rintro w' ⟨s0, s1⟩
      go_simp
      with_reducible rfl
    rotate_left
    · simp only [Act.put, List.setIfInBounds_toArray, List.set_cons_zero, List.set_cons_succ, i64_w, i32_w]
      rfl
    refine pure_ (i := 8) (N := some 14) (v := ?_) (a' := ?_) #[true, true, true, true, true, true, true, true, true, false] rfl rfl (by kernel_rfl) (fun _ _ _ h => h) (Or.inl ⟨by rfl, ?_⟩) ?_ ?_
    rotate_left
    · intro w'
      go_simp
      with_reducible rfl
    rotate_left
    · simp only [Act.put, List.setIfInBounds_toArray, List.set_cons_zero, List.set_cons_succ, i64_w, i32_w]
      rfl
    refine pure_ (i := 9) (N := some 15) (v := ?_) (a' := ?_) #[true, true, true, true, true, true, true, true, true, true] rfl rfl (by kernel_rfl) (fun _ _ _ h => h) (Or.inl ⟨by rfl, ?_⟩) ?_ ?_
    rotate_left
    · intro w'
      go_simp
      with_reducible rfl
    rotate_left
    · simp only [Act.put, List.setIfInBounds_toArray, List.set_cons_zero, List.set_cons_succ, i64_w, i32_w]
      rfl
    refine done_ (by kernel_rfl) ?_
    have hr2 := blk_cell (blk_drew HR.out) 2
    have hr2f := blk_frozen (blk_drew HR.out) 2
    go_wp2_with fail
    have HR4 := Aside0.mk (show ((w.setCell ⟨gr, 2, none⟩ (.int .i64 (-1))).drew).drew.heap[gr]? = some (.cells (rdCells (some ad) xs.length c (i : Int) (-1)) 95 (0, 0)) from blk_drew (blk_drew (blk_put (cs := rdCells (some ad) xs.length c (i : Int) pr) HR.out 2 _ rfl)))
    have HN4 := Aside0.mk (((Near.refl w gr (some gb)).cell 2 (.int .i64 (-1))).drew.drew)
    have HG4 := Aside0.mk (show ((w.setCell ⟨gr, 2, none⟩ (.int .i64 (-1))).drew).drew.heap[gb]? = some (.cells cur.toArray tb (0, 0)) from (Below.heap_setCell w ⟨gr, 2, none⟩ _ gb HNE.out).trans HG.out)
    have HSRC := Aside0.mk (show ∀ (j : Nat) (v : Value), (bv ys)[j]? = some v → ((w.setCell ⟨gr, 2, none⟩ (.int .i64 (-1))).drew).drew.cell? ((ad.add i).add j) = some v from fun j v hv => by
      have h0 := HYX.out j v hv
      have hbw : Below w0.heap.size w0 ((w.setCell ⟨gr, 2, none⟩ (.int .i64 (-1))).drew).drew := below_drew1 (below_drew1 (HB.out.setCell (by exact HGE.out) _))
      exact (hbw.cell (World.block_lt_of_cell? w0 _ h0)).trans h0)
    generalize hW4 : (w.setCell ⟨gr, 2, none⟩ (.int .i64 (-1))).drew = W4
    rw [hW4] at HR4 HN4 HG4 HSRC
    clear hW4 hr2 hr2f
    refine start_ (n := 12) (S := fun w' => w'.cell? ⟨gr, 0, none⟩ = some (.slice (some ad) xs.length c) ∧ w'.cell? ⟨gr, 1, none⟩ = some (.int .i64 (i : Int))) (ds := [10, 11]) #[false, false, false, false, false, false, false, false, false, false, false, false] (by kernel_rfl) rfl rfl ⟨(blk_cell HR4.out 0).trans rfl, (blk_cell HR4.out 1).trans rfl⟩ (fun hHeld => ?_)
    refine pure_ (i := 0) (N := some 20) (v := ?_) (a' := ?_) #[true, false, false, false, false, false, false, false, false, false, false, false] rfl rfl (by kernel_rfl) (fun _ _ _ h => h) (Or.inl ⟨by rfl, ?_⟩) ?_ ?_
    rotate_left
    · intro w'
      go_simp
      with_reducible rfl
    rotate_left
    · simp only [Act.put, List.setIfInBounds_toArray, List.set_cons_zero, List.set_cons_succ, i64_w, i32_w]
      rfl
    refine pure_ (i := 1) (N := some 21) (v := ?_) (a' := ?_) #[true, true, false, false, false, false, false, false, false, false, false, false] rfl rfl (by kernel_rfl) (fun _ _ _ h => h) (Or.inl ⟨by rfl, ?_⟩) ?_ ?_
    rotate_left
    · intro w'
      go_simp
      with_reducible rfl
    rotate_left
    · simp only [Act.put, List.setIfInBounds_toArray, List.set_cons_zero, List.set_cons_succ, i64_w, i32_w]
      rfl
    refine pure_ (i := 2) (N := some 22) (v := ?_) (a' := ?_) #[true, true, true, false, false, false, false, false, false, false, false, false] rfl rfl (by kernel_rfl) (fun _ _ _ h => h) (Or.inl ⟨by rfl, ?_⟩) ?_ ?_
    rotate_left
    · intro w'
      go_simp
      with_reducible rfl
    rotate_left
    · simp only [Act.put, List.setIfInBounds_toArray, List.set_cons_zero, List.set_cons_succ, i64_w, i32_w]
      rfl
    refine pure_ (i := 3) (N := some 23) (v := ?_) (a' := ?_) #[true, true, true, true, false, false, false, false, false, false, false, false] rfl rfl (by kernel_rfl) (fun _ _ _ h => h) (Or.inl ⟨by rfl, ?_⟩) ?_ ?_
    rotate_left
    · intro w'
      go_simp
      with_reducible rfl
    rotate_left
    · simp only [Act.put, List.setIfInBounds_toArray, List.set_cons_zero, List.set_cons_succ, i64_w, i32_w]
      rfl
    refine pure_ (i := 5) (N := some 25) (v := ?_) (a' := ?_) #[true, true, true, true, false, true, false, false, false, false, false, false] rfl rfl (by kernel_rfl) (fun _ _ _ h => h) (Or.inl ⟨by rfl, ?_⟩) ?_ ?_
    rotate_left
    · intro w'
      go_simp
      with_reducible rfl
    rotate_left
    · simp only [Act.put, List.setIfInBounds_toArray, List.set_cons_zero, List.set_cons_succ, i64_w, i32_w]
      rfl
    refine pure_ (i := 6) (N := some 26) (v := ?_) (a' := ?_) #[true, true, true, true, false, true, true, false, false, false, false, false] rfl rfl (by kernel_rfl) (fun _ _ _ h => h) (Or.inl ⟨by rfl, ?_⟩) ?_ ?_
    rotate_left
    · intro w'
      go_simp
      with_reducible rfl
    rotate_left
    · simp only [Act.put, List.setIfInBounds_toArray, List.set_cons_zero, List.set_cons_succ, i64_w, i32_w]
      rfl
    refine pure_ (i := 7) (N := some 27) (v := ?_) (a' := ?_) #[true, true, true, true, false, true, true, true, false, false, false, false] rfl rfl (by kernel_rfl) (fun _ _ _ h => h) (Or.inl ⟨by rfl, ?_⟩) ?_ ?_
    rotate_left
    · intro w'
      go_simp
      with_reducible rfl
    rotate_left
    · simp only [Act.put, List.setIfInBounds_toArray, List.set_cons_zero, List.set_cons_succ, i64_w, i32_w]
      rfl
    refine take_ (i := 4) (N := some 24) (v := ?_) (a' := ?_) #[true, true, true, true, true, true, true, true, false, false, false, false] rfl rfl (by kernel_rfl) (fun _ _ _ h => h) (Or.inl ⟨by rfl, ?_⟩) hHeld ?_ ?_
    rotate_left
    · rintro w' ⟨s0, s1⟩
      go_simp
      with_reducible rfl
    rotate_left
    · simp only [Act.put, List.setIfInBounds_toArray, List.set_cons_zero, List.set_cons_succ, i64_w, i32_w]
      rfl
    refine take_ (i := 8) (N := some 28) (v := ?_) (a' := ?_) #[true, true, true, true, true, true, true, true, true, false, false, false] rfl rfl (by kernel_rfl) (fun _ _ _ h => h) (Or.inl ⟨by rfl, ?_⟩) hHeld ?_ ?_
    rotate_left
    · rintro w' ⟨s0, s1⟩
      go_simp
      with_reducible rfl
    rotate_left
    · simp only [Act.put, List.setIfInBounds_toArray, List.set_cons_zero, List.set_cons_succ, i64_w, i32_w]
      rfl
    refine pure_ (i := 9) (N := some 29) (v := ?_) (a' := ?_) #[true, true, true, true, true, true, true, true, true, true, false, false] rfl rfl (by kernel_rfl) (fun _ _ _ h => h) (Or.inl ⟨by rfl, ?_⟩) ?_ ?_
    rotate_left
    · intro w'
      go_simp
      with_reducible rfl
    rotate_left
    · simp only [Act.put, List.setIfInBounds_toArray, List.set_cons_zero, List.set_cons_succ, i64_w, i32_w]
      rfl
    refine last_ (i := 10) (N := some 30) #[true, true, true, true, true, true, true, true, true, true, true, false] rfl rfl (by kernel_rfl) (by decide) (fun K hK => ?_)
    refine step_copy (by rfl) (.tmp 20) (.tmp 29) 25 25 rfl 5 Tryd.underlying25 (by kernel_rfl) gb o k cap (ad.add i) (xs.length - i) (c - i) rfl rfl cur tb HG4.out (bv ys) HYN.out HSRC.out HFY.out (bv_one ys) ?_
    rw [bv_len]
    refine hK.out _ _ ?_
    clear hK K
    refine norm_ (a' := ?_) ?_ ?_
    rotate_left
    · show Act.put _ (some 30) _ = _
      simp only [Act.put, List.setIfInBounds_toArray, List.set_cons_zero, List.set_cons_succ, i64_w, i32_w]
      rfl
    refine pure_ (i := 11) (N := some 4) (v := ?_) (a' := ?_) #[true, true, true, true, true, true, true, true, true, true, true, true] rfl rfl (by kernel_rfl) (fun _ _ _ h => h) (Or.inl ⟨by rfl, ?_⟩) ?_ ?_
    rotate_left
    · intro w'
      go_simp
      with_reducible rfl
    rotate_left
    · simp only [Act.put, List.setIfInBounds_toArray, List.set_cons_zero, List.set_cons_succ, i64_w, i32_w]
      rfl
    refine done_ (by kernel_rfl) ?_
    have HN5 := Aside0.mk (HN4.out.row (splice cur o (bv ys)).toArray)
    have HR5 := Aside0.mk (show (W4.drew.setRow gb (splice cur o (bv ys)).toArray).heap[gr]? = _ from (setRow_other W4.drew gb gr _ (Ne.symm HNE.out)).trans HR4.out)
    have HG5 := Aside0.mk (setRow_heap W4.drew gb _ (splice cur o (bv ys)).toArray tb (0, 0) HG4.out)
    have w9 : wrap64 ((i : Int) + (ys.length : Int)) = (i : Int) + (ys.length : Int) := by have := HYM.out; exact w64 (by omega) (by omega)
    generalize hW5 : W4.drew.setRow gb (splice cur o (bv ys)).toArray = W5
    rw [hW5] at HN5 HR5 HG5
    clear hW5
    have r1 : W5.cell? ⟨gr, 1, none⟩ = some (.int .i64 (i : Int)) := (blk_cell HR5.out 1).trans rfl
    have r1f := blk_frozen HR5.out 1
    go_wp2_with fail
    go_ret2
    refine ⟨HN5.out.cell 1 _, ⟨-1, ?_⟩, ?_, ?_⟩
    · have := blk_put (cs := rdCells (some ad) xs.length c (i : Int) (-1)) HR5.out 1 (.int .i64 ((i : Int) + (ys.length : Int))) rfl
      rw [HYS.out]
      simpa [rdCells] using this
    · rw [HYS.out]
      exact (Below.heap_setCell W5 ⟨gr, 1, none⟩ _ gb HNE.out).trans HG5.out
    · rw [HYS.out, if_pos hlt]
      rfl
  · obtain rfl : i = xs.length := by omega
    have d1 : decide ((xs.length : Int) ≤ (xs.length : Int)) = true := decide_eq_true (by omega)
    have d2 : decide (xs.length ≤ xs.length) = true := decide_eq_true (by omega)
    go_enter Tryd.func120, Tryd.ntmps120
    go_wp2_with fail
    refine start_ (n := 10) (S := fun w' => w'.cell? ⟨gr, 0, none⟩ = some (.slice A xs.length c) ∧ w'.cell? ⟨gr, 1, none⟩ = some (.int .i64 (xs.length : Int))) (ds := []) #[false, false, false, false, false, false, false, false, false, false] (by kernel_rfl) rfl rfl ⟨(blk_cell (blk_drew HR.out) 0).trans rfl, (blk_cell (blk_drew HR.out) 1).trans rfl⟩ (fun hHeld => ?_)
    refine pure_ (i := 0) (N := some 6) (v := ?_) (a' := ?_) #[true, false, false, false, false, false, false, false, false, false] rfl rfl (by kernel_rfl) (fun _ _ _ h => h) (Or.inl ⟨by rfl, ?_⟩) ?_ ?_
    rotate_left
    · intro w'
      go_simp
      with_reducible rfl
    rotate_left
    · simp only [Act.put, List.setIfInBounds_toArray, List.set_cons_zero, List.set_cons_succ, i64_w, i32_w]
      rfl
    refine pure_ (i := 1) (N := some 7) (v := ?_) (a' := ?_) #[true, true, false, false, false, false, false, false, false, false] rfl rfl (by kernel_rfl) (fun _ _ _ h => h) (Or.inl ⟨by rfl, ?_⟩) ?_ ?_
    rotate_left
    · intro w'
      go_simp
      with_reducible rfl
    rotate_left
    · simp only [Act.put, List.setIfInBounds_toArray, List.set_cons_zero, List.set_cons_succ, i64_w, i32_w]
      rfl
    refine pure_ (i := 2) (N := some 8) (v := ?_) (a' := ?_) #[true, true, true, false, false, false, false, false, false, false] rfl rfl (by kernel_rfl) (fun _ _ _ h => h) (Or.inl ⟨by rfl, ?_⟩) ?_ ?_
    rotate_left
    · intro w'
      go_simp
      with_reducible rfl
    rotate_left
    · simp only [Act.put, List.setIfInBounds_toArray, List.set_cons_zero, List.set_cons_succ, i64_w, i32_w]
      rfl
    refine pure_ (i := 4) (N := some 10) (v := ?_) (a' := ?_) #[true, true, true, false, true, false, false, false, false, false] rfl rfl (by kernel_rfl) (fun _ _ _ h => h) (Or.inl ⟨by rfl, ?_⟩) ?_ ?_
    rotate_left
    · intro w'
      go_simp
      with_reducible rfl
    rotate_left
    · simp only [Act.put, List.setIfInBounds_toArray, List.set_cons_zero, List.set_cons_succ, i64_w, i32_w]
      rfl
    refine pure_ (i := 5) (N := some 11) (v := ?_) (a' := ?_) #[true, true, true, false, true, true, false, false, false, false] rfl rfl (by kernel_rfl) (fun _ _ _ h => h) (Or.inl ⟨by rfl, ?_⟩) ?_ ?_
    rotate_left
    · intro w'
      go_simp
      with_reducible rfl
    rotate_left
    · simp only [Act.put, List.setIfInBounds_toArray, List.set_cons_zero, List.set_cons_succ, i64_w, i32_w]
      rfl
    refine pure_ (i := 6) (N := some 12) (v := ?_) (a' := ?_) #[true, true, true, false, true, true, true, false, false, false] rfl rfl (by kernel_rfl) (fun _ _ _ h => h) (Or.inl ⟨by rfl, ?_⟩) ?_ ?_
    rotate_left
    · intro w'
      go_simp
      with_reducible rfl
    rotate_left
    · simp only [Act.put, List.setIfInBounds_toArray, List.set_cons_zero, List.set_cons_succ, i64_w, i32_w]
      rfl
    refine take_ (i := 3) (N := some 9) (v := ?_) (a' := ?_) #[true, true, true, true, true, true, true, false, false, false] rfl rfl (by kernel_rfl) (fun _ _ _ h => h) (Or.inl ⟨by rfl, ?_⟩) hHeld ?_ ?_
    rotate_left
    · rintro w' ⟨s0, s1⟩
      go_simp
      with_reducible rfl
    rotate_left
    · simp only [Act.put, List.setIfInBounds_toArray, List.set_cons_zero, List.set_cons_succ, i64_w, i32_w]
      rfl
    refine take_ (i := 7) (N := some 13) (v := ?_) (a' := ?_) #[true, true, true, true, true, true, true, true, false, false] rfl rfl (by kernel_rfl) (fun _ _ _ h => h) (Or.inl ⟨by rfl, ?_⟩) hHeld ?_ ?_
    rotate_left
    · rintro w' ⟨s0, s1⟩
      go_simp
      with_reducible rfl
    rotate_left
    · simp only [Act.put, List.setIfInBounds_toArray, List.set_cons_zero, List.set_cons_succ, i64_w, i32_w]
      rfl
    refine pure_ (i := 8) (N := some 14) (v := ?_) (a' := ?_) #[true, true, true, true, true, true, true, true, true, false] rfl rfl (by kernel_rfl) (fun _ _ _ h => h) (Or.inl ⟨by rfl, ?_⟩) ?_ ?_
    rotate_left
    · intro w'
      go_simp
      with_reducible rfl
    rotate_left
    · simp only [Act.put, List.setIfInBounds_toArray, List.set_cons_zero, List.set_cons_succ, i64_w, i32_w]
      rfl
    refine pure_ (i := 9) (N := some 15) (v := ?_) (a' := ?_) #[true, true, true, true, true, true, true, true, true, true] rfl rfl (by kernel_rfl) (fun _ _ _ h => h) (Or.inl ⟨by rfl, ?_⟩) ?_ ?_
    rotate_left
    · intro w'
      go_simp
      with_reducible rfl
    rotate_left
    · simp only [Act.put, List.setIfInBounds_toArray, List.set_cons_zero, List.set_cons_succ, i64_w, i32_w]
      rfl
    refine done_ (by kernel_rfl) ?_
    go_wp2_with fail
    refine start_ (n := 3) (S := fun w' => w'.cell? ⟨0, 0, none⟩ = some eof) (ds := []) #[false, false, false] (by kernel_rfl) rfl rfl (HE1.out) (fun hHeld => ?_)
    refine pure_ (i := 1) (N := some 4) (v := ?_) (a' := ?_) #[false, true, false] rfl rfl (by kernel_rfl) (fun _ _ _ h => h) (Or.inl ⟨by rfl, ?_⟩) ?_ ?_
    rotate_left
    · intro w'
      go_simp
      with_reducible rfl
    rotate_left
    · simp only [Act.put, List.setIfInBounds_toArray, List.set_cons_zero, List.set_cons_succ, i64_w, i32_w]
      rfl
    refine take_ (i := 0) (N := some 16) (v := ?_) (a' := ?_) #[true, true, false] rfl rfl (by kernel_rfl) (fun _ _ _ h => h) (Or.inl ⟨by rfl, ?_⟩) hHeld ?_ ?_
    rotate_left
    · intro w' s0
      go_simp
      with_reducible rfl
    rotate_left
    · simp only [Act.put, List.setIfInBounds_toArray, List.set_cons_zero, List.set_cons_succ, i64_w, i32_w]
      rfl
    refine pure_ (i := 2) (N := some 5) (v := ?_) (a' := ?_) #[true, true, true] rfl rfl (by kernel_rfl) (fun _ _ _ h => h) (Or.inl ⟨by rfl, ?_⟩) ?_ ?_
    rotate_left
    · intro w'
      go_simp
      with_reducible rfl
    rotate_left
    · simp only [Act.put, List.setIfInBounds_toArray, List.set_cons_zero, List.set_cons_succ, i64_w, i32_w]
      rfl
    refine done_ (by kernel_rfl) ?_
    go_wp2
    go_ret2
    refine ⟨((Near.refl w gr (some gb)).drew).drew, ⟨pr, ?_⟩, ?_, ?_⟩
    · show w.heap[gr]? = _
      simpa using HR.out
    · show w.heap[gb]? = _
      simpa [bv, splice] using HG.out
    · simp
end Go.Proofs.YtghcecngdhcjpaaDoor.pkt
