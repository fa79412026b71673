/- A bytes.Buffer that has only been written, with its row told: grow. What changes is the buffer's own block and, later, its row. A bytes.Buffer with its row told: grow of a buffer without a byte, grow of any, Write. A bytes.Buffer with its row told: Write of any number of bytes, with the blocks that change. -/
import Derived.Test.YtghcecngdhcjpaaDoorShelf
import Derived.Test.YtghcecngdhcjpaaDoorWMore
import Derived.Test.YtghcecngdhcjpaaDoorSlw
import Derived.Lib.BufferOwn
import Derived.Lib.BufferMore
import Derived.Lib.BufferGrow
import Derived.Lib.BufferWrite
import Derived.Lib.BufferSrc
import Derived.Laws.MakeOwn
import Derived.Laws.CopyRow
import Derived.Laws.IdiomCopy
import Derived.RegionTactic
import Derived.Deep.RegionWith
import Derived.Deep.Draws
import Derived.BigCall
import Derived.BigGuard
namespace Go.Proofs.YtghcecngdhcjpaaDoor.bf
section
open Go.RowKit Go.Proofs.YtghcecngdhcjpaaDoorW.PrintWords Go.Proofs.YtghcecngdhcjpaaDoor.off
set_option linter.unusedVariables false
set_option linter.unusedSimpArgs false
set_option maxHeartbeats 4000000
set_option maxRecDepth 100000
abbrev IsB (B b : Nat) (bs : List Value) (w : World) : Prop := Lib.IsBuffer 47 5 B b bs w
/-- A buffer at block b that holds bs, and its slice. -/
structure Bf (w : World) (b : Nat) (v : Value) (bs : List Value) : Prop where
  isB : IsB 0 b bs w
  c0 : w.cell? ⟨b, 0, none⟩ = some v
theorem Bf.open_ {w : World} {b : Nat} {v : Value} {bs : List Value} (h : Bf w b v bs) : ∃ lr, w.heap[b]? = some (.cells #[v, .int .i64 0, .int .i8 lr] 47 (0, 0)) ∧ w.ownsRow 0 5 1 v bs.length bs ∧ v.ownBlock ≠ some b := by
  obtain ⟨⟨_, v', lr, h1, h2, h3⟩, h4⟩ := h
  rw [Lib.cell_of_heap h1] at h4
  obtain rfl : v' = v := Option.some.inj h4
  exact ⟨lr, h1, h2, h3⟩
theorem Bf.of {w : World} {b : Nat} {v : Value} {bs : List Value} {lr : Int} (h1 : w.heap[b]? = some (.cells #[v, .int .i64 0, .int .i8 lr] 47 (0, 0))) (h2 : w.ownsRow 0 5 1 v bs.length bs) (h3 : v.ownBlock ≠ some b) : Bf w b v bs :=
  ⟨⟨Nat.zero_le _, v, lr, h1, h2, h3⟩, by rw [Lib.cell_of_heap h1]; rfl⟩
theorem Bf.new (w : World) : Bf (w.alloc (.cells #[.slice none 0 0, .int .i64 0, .int .i8 0] 47 (0, 0))) w.heap.size (.slice none 0 0) [] :=
  Bf.of (blk_new w _) (World.ownsRow_nil _ _ _ _) (by simp [Value.ownBlock])
theorem Bf.nil_of {w : World} {b : Nat} {lr : Int} (h : w.heap[b]? = some (.cells #[.slice none 0 0, .int .i64 0, .int .i8 lr] 47 (0, 0))) : Bf w b (.slice none 0 0) [] :=
  Bf.of h (World.ownsRow_nil _ _ _ _) (by simp [Value.ownBlock])
theorem Bf.lt {w : World} {b : Nat} {v : Value} {bs : List Value} (h : Bf w b v bs) : b < w.heap.size := h.isB.lt
theorem Bf.row_lt {w : World} {b : Nat} {v : Value} {bs : List Value} (h : Bf w b v bs) (k : Nat) (hk : v.ownBlock = some k) : k < w.heap.size := by
  obtain ⟨lr, _, h2, _⟩ := h.open_
  rcases h2.2 with ⟨rfl, _⟩ | ⟨g, cap, cur, rfl, _, hg, _⟩
  · cases hk
  · cases hk
    exact blk_lt hg
theorem Bf.ne {w : World} {b : Nat} {v : Value} {bs : List Value} (h : Bf w b v bs) : v.ownBlock ≠ some b := by
  obtain ⟨lr, _, _, h3⟩ := h.open_
  exact h3
/-- The blocks of a buffer. -/
def Of (b : Nat) (v : Value) (k : Nat) : Prop := k = b ∨ v.ownBlock = some k
theorem Bf.keep {w w' : World} {b : Nat} {v : Value} {bs : List Value} (h : Bf w b v bs) (hk : ∀ k, Of b v k → w'.heap[k]? = w.heap[k]?) : Bf w' b v bs := by
  obtain ⟨lr, h1, h2, h3⟩ := h.open_
  refine Bf.of ((hk b (.inl rfl)).trans h1) ⟨h2.1, ?_⟩ h3
  rcases h2.2 with h0 | ⟨g, cap, cur, e1, e2, e3, e4⟩
  · exact .inl h0
  · exact .inr ⟨g, cap, cur, e1, e2, (hk g (.inr (by rw [e1]; rfl))).trans e3, e4⟩
theorem Bf.off {S : Nat → Prop} {w w' : World} {b : Nat} {v : Value} {bs : List Value} (h : Bf w b v bs) (ho : Off S w w') (hS : ∀ k, Of b v k → ¬ S k) : Bf w' b v bs :=
  h.keep (fun k hk => ho.block k (by rcases hk with rfl | hk; exact h.lt; exact h.row_lt k hk) (hS k hk))
theorem Bf.below {w w' : World} {b : Nat} {v : Value} {bs : List Value} (h : Bf w b v bs) (hb : Below w.heap.size w w') : Bf w' b v bs :=
  h.off (Off.of_below (S := fun _ => False) hb) (fun _ _ h => h)
theorem Bf.alloc {w : World} {b : Nat} {v : Value} {bs : List Value} (h : Bf w b v bs) (o : Obj) : Bf (w.alloc o) b v bs := h.below (below_alloc (Below.refl _ _) o)
theorem Bf.drewN {w : World} {b : Nat} {v : Value} {bs : List Value} (h : Bf w b v bs) (n : Nat) : Bf (w.drewN n) b v bs := h.keep (fun _ _ => rfl)
theorem Bf.last {w : World} {b : Nat} {v : Value} {bs : List Value} (h : Bf w b v bs) (x : Int) : Bf (w.setCell ⟨b, 2, none⟩ (.int .i8 x)) b v bs := by
  refine ⟨h.isB.setLast x, ?_⟩
  obtain ⟨lr, h1, _⟩ := h.open_
  rw [Lib.cell_of_heap (Lib.heap_setCell_same (i := 2) h1 _)]
  rfl
/-- What a grown buffer is: n more of whatever. -/
structure Grown (w w' : World) (b n : Nat) (v : Value) (bs : List Value) : Prop where
  out : ∃ xs v', xs.length = n ∧ Bf w' b v' (bs ++ xs) ∧ Off (fun k => k = b) w w' ∧ (v'.ownBlock = v.ownBlock ∨ ∃ g, v'.ownBlock = some g ∧ w.heap.size ≤ g)
theorem nil_run (W : World) (A : Addr) (n c : Nat) : (binOp .eql 25 (.slice (some A) n c) (.slice none 0 0)).run Tryd.prog W = .ok (.bool false) W := Lib.run_eql_slice_some_nil W _ _ _ Tryd.underlying25
theorem nil_nil (W : World) : (binOp .eql 25 (.slice none 0 0) (.slice none 0 0)).run Tryd.prog W = .ok (.bool true) W := Lib.run_eql_slice_nil_nil W _ _ Tryd.underlying25
theorem put3 {w2 : World} {b : Nat} {cs : Array Value} (h : w2.heap[b]? = some (.cells cs 47 (0, 0))) (u v : Value) (x : Value) (h0 : 0 < cs.size) : (((w2.setCell ⟨b, 0, none⟩ u).setCell ⟨b, 1, none⟩ x).setCell ⟨b, 0, none⟩ v).cell? ⟨b, 0, none⟩ = some v := by
  rw [Lib.cell_of_heap (Lib.heap_setCell_same (i := 0) (Lib.heap_setCell_same (i := 1) (Lib.heap_setCell_same (i := 0) h u) x) v)]
  simp [h0]
theorem off3 {w w2 : World} {b : Nat} (h : Off (fun k => k = b) w w2) (u v x : Value) : Off (fun k => k = b) w (((w2.setCell ⟨b, 0, none⟩ u).setCell ⟨b, 1, none⟩ x).setCell ⟨b, 0, none⟩ v) :=
  ((h.cell rfl 0 u).cell rfl 1 x).cell rfl 0 v
theorem grow_row (b g l cap n : Nat) (lr : Int) (cur : Array Value) (bs : List Value) (w : World)
    (hbk : w.heap[b]? = some (.cells #[.slice (some ⟨g, 0, none⟩) l cap, .int .i64 0, .int .i8 lr] 47 (0, 0)))
    (hl : bs.length = l) (hg : w.heap[g]? = some (.cells cur 5 (0, 0))) (hlc : l ≤ cap) (hcm : cap ≤ maxLen) (hcs : cur.size = cap) (htake : cur.toList.take l = bs) (hgb : g ≠ b)
    (h1 : ∀ v ∈ bs, v.oneCell' = true) (hn : 1 ≤ n) (hroom : cap - l < n) (hlim : l + n ≤ 140737488355328) (hl0 : l ≠ 0) :
    Calls Tryd.prog 42 #[.pointer (some ⟨b, 0, none⟩), .int .i64 n] w fun e w' => e = .returned (.int .i64 l) ∧ Grown w w' b n (.slice (some ⟨g, 0, none⟩) l cap) bs := by
  have hIs : IsB 0 b bs w := ⟨Nat.zero_le _, _, _, hbk, ⟨by rw [hl, Nat.mul_one], .inr ⟨g, cap, cur, by rw [hl], Nat.zero_le _, hg, by omega, hcm, by omega, by rw [hl, Nat.mul_one]; exact htake⟩⟩, by simp [Value.ownBlock]; exact hgb⟩
  have hnil := fun W => nil_run W ⟨g, 0, none⟩ l cap
  go_enter Tryd.func42, Tryd.ntmps42
  go_wp2_with (go_at_call 50; refine (Tryd.Buffer_Len 0 b bs _ hIs).mono ?_)
  rintro e W0 ⟨rfl, k, hW0⟩
  rw [hl]
  have hbk0 : W0.heap[b]? = some (.cells #[.slice (some ⟨g, 0, none⟩) l cap, .int .i64 0, .int .i8 lr] 47 (0, 0)) := by rw [hW0]; exact hbk
  have hg0 : W0.heap[g]? = some (.cells cur 5 (0, 0)) := by rw [hW0]; exact hg
  have c0 : W0.cell? ⟨b, 0, none⟩ = some (.slice (some ⟨g, 0, none⟩) l cap) := by rw [Lib.cell_of_heap hbk0]; rfl
  have c1 : W0.cell? ⟨b, 1, none⟩ = some (.int .i64 0) := by rw [Lib.cell_of_heap hbk0]; rfl
  have f0 : W0.frozen? ⟨b, 0, none⟩ = false := Lib.frozen_of_heap hbk0 0
  have f1 : W0.frozen? ⟨b, 1, none⟩ = false := Lib.frozen_of_heap hbk0 1
  have HW0 := Aside0.mk hW0
  clear hW0 hIs
  have hcm' := hcm
  unfold maxLen at hcm'
  go_wp2_with (go_at_call 41; refine (Tryd.Buffer_tryGrow_none b _ l cap n _ c0 hlc hcm hroom).mono ?_; rintro e w' ⟨rfl, rfl⟩)
  have hc2 : cap ≤ 140737488355328 := by omega
  have h1' : ∀ v ∈ cur.toList.take l, v.oneCell' = true := by rw [htake]; exact h1
  have hbW := Lib.lt_of_heap hbk0
  have hwn : IntKind.i64.wrap (n : Int) = n := by rw [IntKind.wrap_i64]; omega
  go_region_with (
      go_at_call 64
      refine (Tryd.bytes_growSlice_row g l cap n cur _ ?_ hcs hlc hn hlim hc2 h1').mono ?_
      exact hg0
      rintro e w2 ⟨cap2, cells, rfl, hN, hcsz, htk, hcap2, hcm2, hbel⟩
      have hbk2 : w2.heap[b]? = some (.cells #[.slice (some ⟨g, 0, none⟩) l cap, .int .i64 0, .int .i8 lr] 47 (0, 0)) := (hbel.block b hbW).trans hbk0
      have d0 : w2.cell? ⟨b, 0, none⟩ = some (.slice (some ⟨g, 0, none⟩) l cap) := by rw [Lib.cell_of_heap hbk2]; rfl
      have d1 : w2.cell? ⟨b, 1, none⟩ = some (.int .i64 0) := by rw [Lib.cell_of_heap hbk2]; rfl
      have e0 : w2.frozen? ⟨b, 0, none⟩ = false := Lib.frozen_of_heap hbk2 0
      have e1 : w2.frozen? ⟨b, 1, none⟩ = false := Lib.frozen_of_heap hbk2 1)
  all_goals (
    go_wp2
    go_ret
    have hsz0 : w'.heap.size = w.heap.size := by rw [HW0.out]; rfl
    have hb0 : Below 0 w w'.drew := by rw [HW0.out]; exact ⟨rfl, rfl, rfl, Nat.le_refl _, fun _ _ => rfl⟩
    have ho2 : Off (fun k => k = b) w w2 := by
      refine Off.trans (w1 := w'.drew) (by rw [HW0.out]; exact (Off.drewN (Off.refl _ _) _).drew) (Off.of_below hbel)
    obtain ⟨xs, q1, q2, q3⟩ := Lib.grow_end (B := 0) (Nat.zero_le _) hbk2 hN (Nat.zero_le _) (by show w'.heap.size ≠ b; omega) hcsz (htk.trans htake) hcap2 hcm2 (hb0.trans (hbel.mono (Nat.zero_le _))) _
    exact ⟨rfl, ⟨xs, _, q1, ⟨q2, put3 hbk2 _ _ _ (Nat.zero_lt_succ _)⟩, off3 ho2 _ _ _, .inr ⟨w'.heap.size, rfl, by omega⟩⟩⟩)
end
section
open Go.RowKit Go.Proofs.YtghcecngdhcjpaaDoorW.PrintWords Go.Proofs.YtghcecngdhcjpaaDoor.off
set_option linter.unusedVariables false
set_option linter.unusedSimpArgs false
set_option maxHeartbeats 4000000
set_option maxRecDepth 100000
theorem grow_row0 (b g cap n : Nat) (lr : Int) (cur : Array Value) (bs : List Value) (w : World)
    (hbk : w.heap[b]? = some (.cells #[.slice (some ⟨g, 0, none⟩) 0 cap, .int .i64 0, .int .i8 lr] 47 (0, 0)))
    (hl : bs.length = 0) (hg : w.heap[g]? = some (.cells cur 5 (0, 0))) (hlc : 0 ≤ cap) (hcm : cap ≤ maxLen) (hcs : cur.size = cap) (htake : cur.toList.take 0 = bs) (hgb : g ≠ b)
    (h1 : ∀ v ∈ bs, v.oneCell' = true) (hn : 1 ≤ n) (hroom : cap - 0 < n) (hlim : 0 + n ≤ 140737488355328) :
    Calls Tryd.prog 42 #[.pointer (some ⟨b, 0, none⟩), .int .i64 n] w fun e w' => e = .returned (.int .i64 0) ∧ Grown w w' b n (.slice (some ⟨g, 0, none⟩) 0 cap) bs := by
  have hIs : IsB 0 b bs w := ⟨Nat.zero_le _, _, _, hbk, ⟨by rw [hl, Nat.mul_one], .inr ⟨g, cap, cur, by rw [hl], Nat.zero_le _, hg, by omega, hcm, by omega, by rw [hl, Nat.mul_one]; exact htake⟩⟩, by simp [Value.ownBlock]; exact hgb⟩
  have hnil := fun W => nil_run W ⟨g, 0, none⟩ 0 cap
  go_enter Tryd.func42, Tryd.ntmps42
  go_wp2_with (go_at_call 50; refine (Tryd.Buffer_Len 0 b bs _ hIs).mono ?_)
  rintro e W0 ⟨rfl, k, hW0⟩
  rw [hl]
  have hbk0 : W0.heap[b]? = some (.cells #[.slice (some ⟨g, 0, none⟩) 0 cap, .int .i64 0, .int .i8 lr] 47 (0, 0)) := by rw [hW0]; exact hbk
  have hg0 : W0.heap[g]? = some (.cells cur 5 (0, 0)) := by rw [hW0]; exact hg
  have c0 : W0.cell? ⟨b, 0, none⟩ = some (.slice (some ⟨g, 0, none⟩) 0 cap) := by rw [Lib.cell_of_heap hbk0]; rfl
  have c1 : W0.cell? ⟨b, 1, none⟩ = some (.int .i64 0) := by rw [Lib.cell_of_heap hbk0]; rfl
  have f0 : W0.frozen? ⟨b, 0, none⟩ = false := Lib.frozen_of_heap hbk0 0
  have f1 : W0.frozen? ⟨b, 1, none⟩ = false := Lib.frozen_of_heap hbk0 1
  have HW0 := Aside0.mk hW0
  clear hW0 hIs
  have hcm' := hcm
  unfold maxLen at hcm'
  go_wp2_with (go_at_call 41; refine (Tryd.Buffer_tryGrow_none b _ 0 cap n _ c0 hlc hcm hroom).mono ?_; rintro e w' ⟨rfl, rfl⟩)
  have hc2 : cap ≤ 140737488355328 := by omega
  have h1' : ∀ v ∈ cur.toList.take 0, v.oneCell' = true := by rw [htake]; exact h1
  have hbW := Lib.lt_of_heap hbk0
  have hwn : IntKind.i64.wrap (n : Int) = n := by rw [IntKind.wrap_i64]; omega
  go_region_with (
      go_at_call 64
      refine (Tryd.bytes_growSlice_row g 0 cap n cur _ ?_ hcs hlc hn hlim hc2 h1').mono ?_
      exact hg0
      rintro e w2 ⟨cap2, cells, rfl, hN, hcsz, htk, hcap2, hcm2, hbel⟩
      have hbk2 : w2.heap[b]? = some (.cells #[.slice (some ⟨g, 0, none⟩) 0 cap, .int .i64 0, .int .i8 lr] 47 (0, 0)) := (hbel.block b hbW).trans hbk0
      have d0 : w2.cell? ⟨b, 0, none⟩ = some (.slice (some ⟨g, 0, none⟩) 0 cap) := by rw [Lib.cell_of_heap hbk2]; rfl
      have d1 : w2.cell? ⟨b, 1, none⟩ = some (.int .i64 0) := by rw [Lib.cell_of_heap hbk2]; rfl
      have e0 : w2.frozen? ⟨b, 0, none⟩ = false := Lib.frozen_of_heap hbk2 0
      have e1 : w2.frozen? ⟨b, 1, none⟩ = false := Lib.frozen_of_heap hbk2 1)
  all_goals (
    go_wp2
    go_ret
    have hsz0 : w'.heap.size = w.heap.size := by rw [HW0.out]; rfl
    have hb0 : Below 0 w w'.drew := by rw [HW0.out]; exact ⟨rfl, rfl, rfl, Nat.le_refl _, fun _ _ => rfl⟩
    have ho2 : Off (fun k => k = b) w w2 := by
      refine Off.trans (w1 := w'.drew) (by rw [HW0.out]; exact (Off.drewN (Off.refl _ _) _).drew) (Off.of_below hbel)
    obtain ⟨xs, q1, q2, q3⟩ := Lib.grow_end (l := 0) (n := n) (B := 0) (Nat.zero_le _) hbk2 hN (Nat.zero_le _) (by show w'.heap.size ≠ b; omega) hcsz (htk.trans htake) hcap2 hcm2 (hb0.trans (hbel.mono (Nat.zero_le _))) _
    exact ⟨rfl, ⟨xs, _, q1, ⟨by simpa using q2, put3 hbk2 _ _ _ (Nat.zero_lt_succ _)⟩, off3 ho2 _ _ _, .inr ⟨w'.heap.size, rfl, by omega⟩⟩⟩)
theorem info5 : (Tryd.prog.info? 5).map (fun i => (i.zero, i.size, i.bytes)) = some (some (.int .u8 0), 1, 1) := by kernel_rfl
theorem off1 {w w2 : World} {b : Nat} (h : Off (fun k => k = b) w w2) (u : Value) (o : Obj) : Off (fun k => k = b) w ((w2.alloc o).setCell ⟨b, 0, none⟩ u) :=
  (h.then_ (below_alloc (Below.refl _ _) o)).cell rfl 0 u
theorem grow_small (b n : Nat) (lr : Int) (w : World) (hbk : w.heap[b]? = some (.cells #[.slice none 0 0, .int .i64 0, .int .i8 lr] 47 (0, 0))) (hn : 1 ≤ n) (h64 : n ≤ 64) :
    Calls Tryd.prog 42 #[.pointer (some ⟨b, 0, none⟩), .int .i64 n] w fun e w' => e = .returned (.int .i64 0) ∧ Grown w w' b n (.slice none 0 0) [] := by
  obtain ⟨i0, hi, hzz⟩ := Option.map_eq_some_iff.1 info5
  simp only [Prod.mk.injEq] at hzz
  obtain ⟨hz0, hz1, hz2⟩ := hzz
  obtain ⟨M, hM⟩ : ∃ M, M = madeCells (Value.int .u8 0).cells ((64 : Int).toNat * i0.size) := ⟨_, rfl⟩
  have hMs : M.size = 64 := by rw [hM, size_madeCells, hz1]; rfl
  have hmk : ∀ W : World, (Instr.makeSlice 25 (.int .i64 (n : Int)) (.int .i64 64)).run Tryd.prog W = .ok (.slice (some ⟨W.heap.size, 0, none⟩) n 64) (W.alloc (.cells M 5)) := fun W => by
    have h := run_makeSlice (P := Tryd.prog) W 25 5 i0 (.int .u8 0) Tryd.underlying25 hi hz0 .i64 .i64 (n : Int) 64 (by omega) (by omega) (by rw [hz1]; decide) (by rw [hz2]; decide) (by decide)
    rw [← hM] at h
    simpa using h
  clear hM hi hz0 hz1 hz2
  have hIs : IsB 0 b [] w := ⟨Nat.zero_le _, _, _, hbk, World.ownsRow_nil _ _ _ _, by simp [Value.ownBlock]⟩
  have hnil := nil_nil
  go_enter Tryd.func42, Tryd.ntmps42
  go_wp2_with (go_at_call 50; refine (Tryd.Buffer_Len 0 b [] _ hIs).mono ?_)
  rintro e W0 ⟨rfl, k, hW0⟩
  have hbk0 : W0.heap[b]? = some (.cells #[.slice none 0 0, .int .i64 0, .int .i8 lr] 47 (0, 0)) := by rw [hW0]; exact hbk
  have c0 : W0.cell? ⟨b, 0, none⟩ = some (.slice none 0 0) := by rw [Lib.cell_of_heap hbk0]; rfl
  have c1 : W0.cell? ⟨b, 1, none⟩ = some (.int .i64 0) := by rw [Lib.cell_of_heap hbk0]; rfl
  have f0 : W0.frozen? ⟨b, 0, none⟩ = false := Lib.frozen_of_heap hbk0 0
  have hbW0 := Lib.lt_of_heap hbk0
  have c0a : ∀ o, (W0.alloc o).cell? ⟨b, 0, none⟩ = some (.slice none 0 0) := fun o => (World.cell?_of_block (a := ⟨b, 0, none⟩) (Below.heap_alloc W0 o b hbW0)).trans c0
  have f0a : ∀ o, (W0.alloc o).frozen? ⟨b, 0, none⟩ = false := fun o => (World.frozen?_of_block (a := ⟨b, 0, none⟩) (Below.heap_alloc W0 o b hbW0)).trans f0
  have HW0 := Aside0.mk hW0
  clear hW0 hIs
  go_wp2_with (go_at_call 41; refine (Tryd.Buffer_tryGrow_none b _ 0 0 n _ c0 (Nat.le_refl _) (Nat.zero_le _) (by omega)).mono ?_; rintro e w' ⟨rfl, rfl⟩)
  go_ret
  have hsz0 : w'.heap.size = w.heap.size := by rw [HW0.out]; rfl
  have hb0 : Below 0 w w' := by rw [HW0.out]; exact ⟨rfl, rfl, rfl, Nat.le_refl _, fun _ _ => rfl⟩
  have ho0 : Off (fun k => k = b) w w' := by rw [HW0.out]; exact (Off.refl _ _).drewN _
  obtain ⟨xs, q1, q2, q3⟩ := Lib.grow_small_end (B := 0) (Nat.zero_le _) hbk0 (Nat.zero_le _) hMs h64 (by unfold maxLen; omega) hb0
  exact ⟨rfl, ⟨xs, _, q1, ⟨q2, by first | (rw [World.cell?_alloc_old]; done) | (rw [Lib.cell_of_heap (show _ = some (Obj.cells #[_, _, _] _ _) from (Below.heap_alloc _ _ b (by simpa [World.setCell] using hbW0)).trans (Lib.heap_setCell_same (i := 0) hbk0 _))]; rfl) | (rw [Lib.cell_of_heap (Lib.heap_setCell_same (i := 0) ((Below.heap_alloc _ _ b hbW0).trans hbk0) _)]; rfl)⟩, by first | exact (ho0.cell rfl 0 _).then_ (below_alloc (Below.refl _ _) _) | exact (ho0.then_ (below_alloc (Below.refl _ _) _)).cell rfl 0 _, .inr ⟨w'.heap.size, rfl, by omega⟩⟩⟩
theorem grow_big (b n : Nat) (lr : Int) (w : World) (hbk : w.heap[b]? = some (.cells #[.slice none 0 0, .int .i64 0, .int .i8 lr] 47 (0, 0))) (h64 : 64 < n) (hlim : n ≤ 140737488355328) :
    Calls Tryd.prog 42 #[.pointer (some ⟨b, 0, none⟩), .int .i64 n] w fun e w' => e = .returned (.int .i64 0) ∧ Grown w w' b n (.slice none 0 0) [] := by
  have hIs : IsB 0 b [] w := ⟨Nat.zero_le _, _, _, hbk, World.ownsRow_nil _ _ _ _, by simp [Value.ownBlock]⟩
  have hnil := nil_nil
  go_enter Tryd.func42, Tryd.ntmps42
  go_wp2_with (go_at_call 50; refine (Tryd.Buffer_Len 0 b [] _ hIs).mono ?_)
  rintro e W0 ⟨rfl, k, hW0⟩
  have hbk0 : W0.heap[b]? = some (.cells #[.slice none 0 0, .int .i64 0, .int .i8 lr] 47 (0, 0)) := by rw [hW0]; exact hbk
  have c0 : W0.cell? ⟨b, 0, none⟩ = some (.slice none 0 0) := by rw [Lib.cell_of_heap hbk0]; rfl
  have c1 : W0.cell? ⟨b, 1, none⟩ = some (.int .i64 0) := by rw [Lib.cell_of_heap hbk0]; rfl
  have f0 : W0.frozen? ⟨b, 0, none⟩ = false := Lib.frozen_of_heap hbk0 0
  have f1 : W0.frozen? ⟨b, 1, none⟩ = false := Lib.frozen_of_heap hbk0 1
  have hbW := Lib.lt_of_heap hbk0
  have HW0 := Aside0.mk hW0
  clear hW0 hIs
  have hwn : IntKind.i64.wrap (n : Int) = n := by rw [IntKind.wrap_i64]; omega
  have hcmp : decide (n ≤ 64) = false := decide_eq_false (by omega)
  have hcmp2 : decide ((n : Int) ≤ 64) = false := decide_eq_false (by omega)
  go_wp2_with (go_at_call 41; refine (Tryd.Buffer_tryGrow_none b _ 0 0 n _ c0 (Nat.le_refl _) (Nat.zero_le _) (by omega)).mono ?_; rintro e w' ⟨rfl, rfl⟩)
  go_region_with (
      go_at_call 64
      refine (Tryd.bytes_growSlice_nil n _ (by omega) hlim).mono ?_
      rintro e w2 ⟨cap2, cells, rfl, hN, hcsz, hcap2, hcm2, hbel⟩
      have hbk2 : w2.heap[b]? = some (.cells #[.slice none 0 0, .int .i64 0, .int .i8 lr] 47 (0, 0)) := (hbel.block b hbW).trans hbk0
      have d0 : w2.cell? ⟨b, 0, none⟩ = some (.slice none 0 0) := by rw [Lib.cell_of_heap hbk2]; rfl
      have d1 : w2.cell? ⟨b, 1, none⟩ = some (.int .i64 0) := by rw [Lib.cell_of_heap hbk2]; rfl
      have e0 : w2.frozen? ⟨b, 0, none⟩ = false := Lib.frozen_of_heap hbk2 0
      have e1 : w2.frozen? ⟨b, 1, none⟩ = false := Lib.frozen_of_heap hbk2 1)
  all_goals (
    go_wp2
    go_ret
    have hsz0 : w'.heap.size = w.heap.size := by rw [HW0.out]; rfl
    have hb0 : Below 0 w w'.drew := by rw [HW0.out]; exact ⟨rfl, rfl, rfl, Nat.le_refl _, fun _ _ => rfl⟩
    have ho2 : Off (fun k => k = b) w w2 := by
      refine Off.trans (w1 := w'.drew) (by rw [HW0.out]; exact (Off.drewN (Off.refl _ _) _).drew) (Off.of_below hbel)
    obtain ⟨xs, q1, q2, q3⟩ := Lib.grow_end (l := 0) (n := n) (bs := []) (B := 0) (Nat.zero_le _) hbk2 hN (Nat.zero_le _) (by show w'.heap.size ≠ b; omega) hcsz rfl (by omega) hcm2 (hb0.trans (hbel.mono (Nat.zero_le _))) _
    exact ⟨rfl, ⟨xs, _, q1, ⟨by simpa using q2, put3 hbk2 _ _ _ (Nat.zero_lt_succ _)⟩, off3 ho2 _ _ _, .inr ⟨w'.heap.size, rfl, by omega⟩⟩⟩)
theorem grow_any (b n : Nat) (v : Value) (bs : List Value) (w : World) (h : Bf w b v bs) (hnr : Lib.NoRoom b n w) (h1 : ∀ v ∈ bs, v.oneCell' = true) (hlim : bs.length + n ≤ 140737488355328) :
    Calls Tryd.prog 42 #[.pointer (some ⟨b, 0, none⟩), .int .i64 n] w fun e w' => e = .returned (.int .i64 bs.length) ∧ Grown w w' b n v bs := by
  obtain ⟨ao, l0, cap0, hc, hlt⟩ := hnr
  obtain ⟨lr, hbk, hown, hne⟩ := h.open_
  rcases hown.2 with ⟨rfl, h0⟩ | ⟨g, cap, cur, rfl, _, hg, hnc, hcm, hcs, htk⟩
  · have hb0 : bs = [] := by
      have := hown.1
      exact List.eq_nil_of_length_eq_zero (by first | omega | simpa using h0)
    subst hb0
    rw [h.c0] at hc
    cases hc
    by_cases h64 : n ≤ 64
    · exact grow_small b n lr w hbk (by omega) h64
    · exact grow_big b n lr w hbk (by omega) (by simpa using hlim)
  · rw [h.c0] at hc
    cases hc
    rw [Nat.mul_one] at htk hcs
    by_cases hl0 : bs.length = 0
    · rw [hl0] at hbk hlt hnc htk hlim ⊢
      exact grow_row0 b g _ n lr cur bs w hbk hl0 hg hnc hcm hcs htk (by simpa [Value.ownBlock] using hne) h1 (by omega) hlt hlim
    · exact grow_row b g bs.length _ n lr cur bs w hbk rfl hg hnc hcm hcs htk (by simpa [Value.ownBlock] using hne) h1 (by omega) hlt hlim hl0
end
section
open Go.RowKit Go.Proofs.YtghcecngdhcjpaaDoorW.PrintWords Go.Proofs.YtghcecngdhcjpaaDoor.off
set_option linter.unusedVariables false
set_option linter.unusedSimpArgs false
set_option maxHeartbeats 4000000
set_option maxRecDepth 100000
theorem u8size : (Tryd.prog.info? 5).map (·.size) = some 1 := by kernel_rfl
theorem Bf.shape {w : World} {b : Nat} {v : Value} {bs : List Value} (h : Bf w b v bs) : ∃ A c, v = .slice A bs.length c ∧ bs.length ≤ c ∧ c ≤ maxLen := by
  obtain ⟨lr, hbk, hown, hne⟩ := h.open_
  rcases hown.2 with ⟨rfl, h0⟩ | ⟨g, cap, cur, rfl, _, hg, hnc, hcm, _⟩
  · exact ⟨none, 0, by rw [h0], by omega, by unfold maxLen; omega⟩
  · exact ⟨_, cap, rfl, hnc, hcm⟩
theorem Bf.f0 {w : World} {b : Nat} {v : Value} {bs : List Value} (h : Bf w b v bs) (i : Nat) : w.frozen? ⟨b, i, none⟩ = false := by
  obtain ⟨lr, hbk, _⟩ := h.open_
  exact Lib.frozen_of_heap hbk i
theorem Bf.c2 {w : World} {b : Nat} {v : Value} {bs : List Value} (h : Bf w b v bs) : ∃ lr, w.cell? ⟨b, 2, none⟩ = some (.int .i8 lr) := by
  obtain ⟨lr, hbk, _⟩ := h.open_
  exact ⟨lr, by rw [Lib.cell_of_heap hbk]; rfl⟩
theorem Bf.c1 {w : World} {b : Nat} {v : Value} {bs : List Value} (h : Bf w b v bs) : w.cell? ⟨b, 1, none⟩ = some (.int .i64 0) := by
  obtain ⟨lr, hbk, _⟩ := h.open_
  rw [Lib.cell_of_heap hbk]; rfl
/-- n more places, or no room. -/
theorem tryGrow_any (b n : Nat) (v : Value) (bs : List Value) (w : World) (h : Bf w b v bs) :
    Calls Tryd.prog 41 #[.pointer (some ⟨b, 0, none⟩), .int .i64 n] w fun e w' =>
      (e = .returned (.tuple #[.int .i64 bs.length, .bool true]) ∧ Grown w w' b n v bs) ∨ (e = .returned (.tuple #[.int .i64 0, .bool false]) ∧ w' = w ∧ Lib.NoRoom b n w) := by
  obtain ⟨A, c, rfl, hc, hcm⟩ := h.shape
  by_cases hr : n ≤ c - bs.length
  · refine (Tryd.Buffer_tryGrow_room b A bs.length c n w h.c0 (h.f0 0) hc hcm hr).mono ?_
    rintro e w' ⟨rfl, rfl⟩
    refine .inl ⟨rfl, ⟨?_⟩⟩
    obtain ⟨lr, hbk, hown, hne⟩ := h.open_
    have hcell : (w.setCell ⟨b, 0, none⟩ (.slice A (bs.length + n) c)).cell? ⟨b, 0, none⟩ = some (.slice A (bs.length + n) c) := by
      rw [Lib.cell_of_heap (Lib.heap_setCell_same (i := 0) hbk _)]; rfl
    rcases hown.2 with ⟨e1, h0⟩ | ⟨g, cap, cur, e1, _, hg, hnc, hcm2, hcs, htk⟩
    · injection e1 with e1 e2 e3
      subst e1 e3
      obtain rfl : n = 0 := by omega
      have hb0 : bs = [] := List.eq_nil_of_length_eq_zero e2
      subst hb0
      refine ⟨[], _, rfl, ⟨⟨Nat.zero_le _, _, lr, Lib.heap_setCell_same (i := 0) hbk _, World.ownsRow_nil _ _ _ _, by simp [Value.ownBlock]⟩, hcell⟩, (Off.refl (fun k => k = b) _).cell rfl 0 _, .inl rfl⟩
    · injection e1 with e1 e2 e3
      subst e1 e3
      rw [Nat.mul_one] at hcs htk
      obtain ⟨xs, q1, q2, q3⟩ := Lib.room_end (B := 0) (n := n) (Nat.zero_le _) hbk (Nat.zero_le _) hg hcm2 hcs htk (by simpa [Value.ownBlock] using hne) (by omega)
      exact ⟨xs, _, q1, ⟨q2, hcell⟩, (Off.refl (fun k => k = b) _).cell rfl 0 _, .inl rfl⟩
  · refine (Tryd.Buffer_tryGrow_none b A bs.length c n w h.c0 hc hcm (by omega)).mono ?_
    rintro e w' ⟨rfl, rfl⟩
    exact .inr ⟨rfl, rfl, A, bs.length, c, h.c0, by omega⟩
/-- What Write leaves. -/
structure Wr (w w' : World) (b : Nat) (v : Value) (bs : List Value) : Prop where
  out : ∃ v', Bf w' b v' bs ∧ Off (Of b v) w w' ∧ (v'.ownBlock = v.ownBlock ∨ ∃ g, v'.ownBlock = some g ∧ w.heap.size ≤ g)
theorem src_grown {w w1 : World} {b n : Nat} {v : Value} {A : Option Addr} {m : Nat} {news : List Value} (hs : Src w A m news) (ho : Off (fun k => k = b) w w1) (hA : ∀ ad, A = some ad → ad.block ≠ b) (hlt : ∀ ad, A = some ad → ad.block < w.heap.size) : Src w1 A m news :=
  hs.keep (fun ad e => ho.block _ (hlt ad e) (hA ad e))
/-- The last places are filled. -/
theorem fill_end {w w1 : World} {b n g cap : Nat} {v : Value} {bs cs xs : List Value} (hF : Bf w1 b (.slice (some ⟨g, 0, none⟩) (bs.length + n) cap) (bs ++ xs)) (hx : xs.length = n) (hcn : cs.length = n) (cur : Array Value) (hg : w1.heap[g]? = some (.cells cur 5 (0, 0))) (hcm : cap ≤ maxLen) (hcs : cur.size = cap) (hn : bs.length + n ≤ cap) (htk : cur.toList.take (bs.length + n) = bs ++ xs) :
    Bf (w1.setRow g (cur.toList.take bs.length ++ cs ++ cur.toList.drop (bs.length + n)).toArray) b (.slice (some ⟨g, 0, none⟩) (bs.length + n) cap) (bs ++ cs) := by
  obtain ⟨lr, hbk, _, hne⟩ := hF.open_
  have hgb : g ≠ b := by simpa [Value.ownBlock] using hne
  have e1 : cur.toList.take bs.length = bs := by
    have h3 := congrArg (List.take bs.length) htk
    rwa [List.take_take, Nat.min_eq_left (Nat.le_add_right _ _), List.take_left' rfl] at h3
  obtain ⟨r1, _⟩ := Lib.written_end (B := 0) (news := cs) (l := bs.length) (Nat.zero_le _) (by rw [hcn]; exact hbk) (Nat.zero_le _) hg hcm hcs hgb (by rw [hcn]; exact hn)
  rw [hcn] at r1
  refine ⟨by rw [e1] at r1 ⊢; exact r1, ?_⟩
  rw [World.cell?_of_block (a := ⟨b, 0, none⟩) (setRow_other _ _ _ _ (fun e => hgb e.symm))]
  exact hF.c0
theorem Grown.row {w w1 : World} {b n : Nat} {v : Value} {bs : List Value} (h : Grown w w1 b n v bs) (hn : 0 < n) : ∃ xs g cap, ∃ cur : Array Value, xs.length = n ∧ Bf w1 b (.slice (some ⟨g, 0, none⟩) (bs.length + n) cap) (bs ++ xs) ∧ Off (fun k => k = b) w w1 ∧ (v.ownBlock = some g ∨ w.heap.size ≤ g) ∧
    w1.heap[g]? = some (.cells cur 5 (0, 0)) ∧ cap ≤ maxLen ∧ cur.size = cap ∧ bs.length + n ≤ cap ∧ cur.toList.take (bs.length + n) = bs ++ xs ∧ g ≠ b := by
  obtain ⟨xs, v', hx, hF, ho, hv⟩ := h.out
  obtain ⟨lr, hbk, hown, hne⟩ := hF.open_
  rcases hown.2 with ⟨_, h0⟩ | ⟨g, cap, cur, rfl, _, hg, hnc, hcm, hcs, htk⟩
  · rw [List.length_append, hx] at h0; omega
  · have hl : (bs ++ xs).length = bs.length + n := by rw [List.length_append, hx]
    rw [Nat.mul_one] at hcs htk
    rw [hl] at hnc htk hF
    refine ⟨xs, g, cap, cur, hx, hF, ho, ?_, hg, hcm, hcs, hnc, htk, by simpa [Value.ownBlock] using hne⟩
    rcases hv with hv | ⟨g', hv, hlt⟩
    · exact .inl hv.symm
    · have hv2 : g = g' := by simpa [Value.ownBlock] using hv
      exact .inr (hv2 ▸ hlt)
theorem write_any (b n c : Nat) (v : Value) (bs cs : List Value) (A : Option Addr) (w : World) (h : Bf w b v bs) (h1 : ∀ u ∈ bs, u.oneCell' = true) (hs : Src w A n cs) (hA : ∀ ad, A = some ad → ¬ Of b v ad.block) (hlt : ∀ ad, A = some ad → ad.block < w.heap.size) (hlim : bs.length + n ≤ 140737488355328) :
    Calls Tryd.prog 27 #[.pointer (some ⟨b, 0, none⟩), .slice A n c] w fun e w' => e = .returned (.tuple #[.int .i64 n, .nilIface]) ∧ Wr w w' b v (bs ++ cs) := by
  obtain ⟨lr, c2⟩ := h.c2
  have f2 := h.f0 2
  have hF0 := h.last 0
  have ho0 : Off (fun k => k = b) w (w.setCell ⟨b, 2, none⟩ (.int .i8 0)) := (Off.refl (fun k => k = b) _).cell rfl 2 _
  obtain ⟨W0, hW0⟩ : ∃ W0, w.setCell ⟨b, 2, none⟩ (.int .i8 0) = W0 := ⟨_, rfl⟩
  rw [hW0] at hF0 ho0
  have HS := Aside0.mk hs
  have HAA := Aside0.mk hA
  have HLT := Aside0.mk hlt
  have HO0 := Aside0.mk ho0
  have HF0 := Aside0.mk hF0
  have HF := Aside0.mk h
  have HW0 := Aside0.mk hW0
  have hcn := hs.len
  clear hs hA hlt ho0 hF0 h hW0
  have hlast := HW0.out
  by_cases hn0 : n = 0
  · subst hn0
    have hc0 : cs = [] := List.eq_nil_of_length_eq_zero hcn
    subst hc0
    have hce : ∀ d dLen dCap W, (Builtin.copy_ #[25, 25] 3 #[.slice d dLen dCap, .slice A 0 c]).run Tryd.prog W = .ok (goInt 0) W := fun d dLen dCap W => run_copy_none W 25 25 3 5 d A dLen dCap 0 c Tryd.underlying25 u8size (by simp)
    go_enter Tryd.func27, Tryd.ntmps27
    go_wp2_with fail
    refine (tryGrow_any b 0 v bs W0 HF0.out).mono ?_
    rintro e W1 (⟨rfl, hG⟩ | ⟨rfl, rfl, hnr⟩)
    · obtain ⟨xs, v', hx, hF1, ho1, hv1⟩ := hG.out
      obtain rfl : xs = [] := List.eq_nil_of_length_eq_zero hx
      rw [List.append_nil] at hF1
      obtain ⟨A1, c1, rfl, hc1, hcm1⟩ := hF1.shape
      have d0 := hF1.c0
      have HF1 := Aside0.mk hF1
      have HO1 := Aside0.mk (HO0.out.trans ho1)
      have HV1 := Aside0.mk hv1
      unfold maxLen at hcm1
      clear hF1 ho1 hv1 hG hlast c2 f2
      cases A1 with
      | none =>
        have hz : bs.length = 0 ∧ c1 = 0 := by
          obtain ⟨_, _, hown, _⟩ := HF1.out.open_
          rcases hown.2 with ⟨e, _⟩ | ⟨_, _, _, e, _⟩
          · injection e with _ e2 e3
            exact ⟨e2, e3⟩
          · injection e with e _ _
            cases e
        obtain ⟨hz1, hz2⟩ := hz
        have hbn : bs = [] := List.eq_nil_of_length_eq_zero hz1
        subst hbn hz2
        go_wp2
        go_ret2
        exact ⟨rfl, ⟨_, HF1.out, HO1.out.mono (fun k hk => .inl hk), by
          rcases HV1.out with hv | ⟨g, hv, hlt⟩
          · exact .inl hv
          · exact .inr ⟨g, hv, Nat.le_trans HO0.out.size hlt⟩⟩⟩
      | some a1 =>
        go_wp2
        all_goals go_ret2
        all_goals exact ⟨rfl, ⟨_, by simpa using HF1.out, HO1.out.mono (fun k hk => .inl hk), by
          rcases HV1.out with hv | ⟨g, hv, hlt⟩
          · exact .inl hv
          · exact .inr ⟨g, hv, Nat.le_trans HO0.out.size hlt⟩⟩⟩
    · obtain ⟨_, _, _, _, hlt⟩ := hnr
      omega
  · obtain ⟨a, rfl⟩ : ∃ a, A = some a := by
      obtain ⟨ad, e, _⟩ := HS.out.rd 0 (cs[0]'(by omega)) (by simp)
      exact ⟨ad, e⟩
    have hnpos : 0 < n := by omega
    have hce : ∀ (g dCap : Nat) (cur : Array Value) (W : World), Src W (some a) n cs → W.heap[g]? = some (.cells cur 5 (0, 0)) → bs.length + n ≤ cur.size → (Builtin.copy_ #[25, 25] 3 #[.slice (some ⟨g, bs.length, none⟩) n dCap, .slice (some a) n c]).run Tryd.prog W = .ok (.int .i64 n) (W.setRow g (cur.toList.take bs.length ++ cs ++ cur.toList.drop (bs.length + n)).toArray) := fun g dCap cur W hS hg hfit => by
      have hcp := run_copy_row (P := Tryd.prog) W 25 25 3 5 g bs.length n dCap a n c cur 5 cs Tryd.underlying25 u8size hg (by rw [hcn]; exact (Nat.min_self n).symm) (fun j u hj => by
        obtain ⟨ad, e, h⟩ := hS.rd j u hj
        cases e
        exact h) (by rw [hcn]; exact hfit) hS.one
      rw [hcn] at hcp
      exact hcp
    have HCE := Aside0.mk hce
    have HABK := Aside0.mk (show a.block ≠ b from fun e => HAA.out a rfl (.inl e))
    have HALT := Aside0.mk (HLT.out a rfl)
    have HS0 := Aside0.mk (HS.out.keep (w' := W0) (fun ad e => by cases e; exact HO0.out.block _ HALT.out HABK.out))
    clear hce
    go_enter Tryd.func27, Tryd.ntmps27
    go_wp2_with fail
    refine (tryGrow_any b n v bs W0 HF0.out).mono ?_
    rintro e W1 (⟨rfl, hG⟩ | ⟨rfl, rfl, hnr⟩)
    · obtain ⟨xs, g, cap, cur, hx, hF1, ho1, hv1, hg, hcm, hcs, hncap, htk, hgb⟩ := hG.row hnpos
      have d0 := hF1.c0
      have hS1 := HS0.out.keep (w' := W1) (fun ad e => by cases e; exact ho1.block _ (Nat.lt_of_lt_of_le HALT.out HO0.out.size) HABK.out)
      have hcp := HCE.out g (cap - bs.length) cur W1 hS1 hg (by omega)
      have HFE := Aside0.mk (fill_end (v := v) (w := w) (cs := cs) hF1 hx hcn cur hg hcm hcs hncap htk)
      have HV1 := Aside0.mk hv1
      have HO1 := Aside0.mk (HO0.out.trans ho1)
      have hne : ¬ cap = bs.length := by omega
      unfold maxLen at hcm
      clear hG hF1 ho1 hv1 hlast c2 f2 htk hS1
      go_wp2
      go_ret2
      have hfe := HFE.out
      rw [List.append_assoc] at hfe
      refine ⟨rfl, ⟨_, hfe, ?_, ?_⟩⟩
      · refine off_trans2 (w1 := W1) (S' := fun k => k = g) (HO1.out.mono (fun k hk => .inl hk)) ((Off.refl (fun k => k = g) _).row rfl _) (fun k hk e => ?_)
        subst e
        rcases HV1.out with hv | hv
        · exact .inr hv
        · exact absurd hk (Nat.not_lt.mpr (Nat.le_trans HO0.out.size hv))
      · rcases HV1.out with hv | hv
        · exact .inl (by rw [hv]; rfl)
        · exact .inr ⟨g, rfl, Nat.le_trans HO0.out.size hv⟩
    · have HGR := Aside0.mk (grow_any b n v bs W1 HF0.out hnr h1 hlim)
      clear hnr hlast c2 f2
      go_wp2_with fail
      refine HGR.out.mono ?_
      rintro e W2 ⟨rfl, hG⟩
      obtain ⟨xs, g, cap, cur, hx, hF1, ho1, hv1, hg, hcm, hcs, hncap, htk, hgb⟩ := hG.row hnpos
      have d0 := hF1.c0
      have hS1 := HS0.out.keep (w' := W2) (fun ad e => by cases e; exact ho1.block _ (Nat.lt_of_lt_of_le HALT.out HO0.out.size) HABK.out)
      have hcp := HCE.out g (cap - bs.length) cur W2 hS1 hg (by omega)
      have HFE := Aside0.mk (fill_end (v := v) (w := w) (cs := cs) hF1 hx hcn cur hg hcm hcs hncap htk)
      have HV1 := Aside0.mk hv1
      have HO1 := Aside0.mk (HO0.out.trans ho1)
      have hne : ¬ cap = bs.length := by omega
      unfold maxLen at hcm
      clear hG hF1 ho1 hv1 htk hS1 HGR
      go_wp2
      go_ret2
      have hfe := HFE.out
      rw [List.append_assoc] at hfe
      refine ⟨rfl, ⟨_, hfe, ?_, ?_⟩⟩
      · refine off_trans2 (w1 := W2) (S' := fun k => k = g) (HO1.out.mono (fun k hk => .inl hk)) ((Off.refl (fun k => k = g) _).row rfl _) (fun k hk e => ?_)
        subst e
        rcases HV1.out with hv | hv
        · exact .inr hv
        · exact absurd hk (Nat.not_lt.mpr (Nat.le_trans HO0.out.size hv))
      · rcases HV1.out with hv | hv
        · exact .inl (by rw [hv]; rfl)
        · exact .inr ⟨g, rfl, Nat.le_trans HO0.out.size hv⟩
end
end Go.Proofs.YtghcecngdhcjpaaDoor.bf
