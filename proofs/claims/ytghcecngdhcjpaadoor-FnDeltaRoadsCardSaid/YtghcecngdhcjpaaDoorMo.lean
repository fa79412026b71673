/- MemoryObject: Write, SetType, SetSize, Reader, Writer, Close; its text read. -/
import Derived.Test.YtghcecngdhcjpaaDoorPktF
import Derived.Test.YtghcecngdhcjpaaDoorSlw
import Derived.OwnWalk
import Derived.Laws.MakeOwn
import Derived.Laws.OwnMore
namespace Go.Proofs.YtghcecngdhcjpaaDoor.mo
open Go.RowKit Go.Proofs.YtghcecngdhcjpaaDoorW.PrintWords Go.Proofs.YtghcecngdhcjpaaDoorW.PrintLast Go.Proofs.YtghcecngdhcjpaaDoorW.PrintMore Go.Proofs.YtghcecngdhcjpaaDoor.off
set_option linter.unusedVariables false
set_option linter.unusedSimpArgs false
set_option maxHeartbeats 2000000
set_option maxRecDepth 100000
theorem info5 : (Tryd.prog.info? 5).map (fun i => (i.zero, i.size, i.bytes)) = some (some (.int .u8 0), 1, 1) := by kernel_rfl
theorem appendU8 {w : World} {v : Value} {xs news : List Value} {A : Option Addr} {m c : Nat} (ty : TypeId) (h : Slc w v xs) (hsrc : Src w A m news) (hmax : xs.length + m ≤ 140737488355328) :
    ∃ v' w', (Builtin.append_ #[25, 25] ty #[v, .slice A m c]).run Tryd.prog w = .ok v' w' ∧ Slc w' v' (xs ++ news) ∧ Off (fun k => v.ownBlock = some k) w w' ∧ (v'.ownBlock = v.ownBlock ∨ ∃ b, v'.ownBlock = some b ∧ w.heap.size ≤ b) := by
  obtain ⟨i0, hi, hzz⟩ := Option.map_eq_some_iff.1 info5
  simp only [Prod.mk.injEq] at hzz
  obtain ⟨hz0, hz1, hz2⟩ := hzz
  exact Slc.append 25 ty 5 i0 _ Tryd.underlying25 hi hz0 hz1 hz2 (by decide) h hsrc hmax
/-- An object in memory: its cells, its text's slice, its text. -/
structure Mo (w : World) (go : Nat) (marr : Array Value) (v : Value) (xs : List Value) : Prop where
  heap : w.heap[go]? = some (.cells marr 84 (0, 0))
  size : marr.size = 23
  c21 : marr[21]? = some v
  slc : Slc w v xs
  ne : v.ownBlock ≠ some go
/-- An object's blocks. -/
def Ob (go : Nat) (v : Value) (k : Nat) : Prop := k = go ∨ v.ownBlock = some k
theorem Mo.off {S : Nat → Prop} {w w' : World} {go : Nat} {marr : Array Value} {v : Value} {xs : List Value} (h : Mo w go marr v xs) (ho : Off S w w') (hS : ∀ k, Ob go v k → ¬ S k) : Mo w' go marr v xs :=
  ⟨ho.blk h.heap (hS go (.inl rfl)), h.size, h.c21, h.slc.off ho (fun k hk => hS k (.inr hk)), h.ne⟩
theorem Mo.below {w w' : World} {go : Nat} {marr : Array Value} {v : Value} {xs : List Value} (h : Mo w go marr v xs) (hb : Below w.heap.size w w') : Mo w' go marr v xs :=
  h.off (Off.of_below (S := fun _ => False) hb) (fun _ _ h => h)
theorem Mo.lt {w : World} {go : Nat} {marr : Array Value} {v : Value} {xs : List Value} (h : Mo w go marr v xs) : go < w.heap.size := blk_lt h.heap
theorem Mo.row_lt {w : World} {go : Nat} {marr : Array Value} {v : Value} {xs : List Value} (h : Mo w go marr v xs) : ∀ k, Ob go v k → k < w.heap.size := by
  rintro k (rfl | hk)
  · exact h.lt
  · exact h.slc.blk k hk
/-- The cells of a new object. -/
def zero : Array Value := #[.int .i8 0, .int .u8 0, .int .u8 0, .int .u8 0, .int .u8 0, .int .u8 0, .int .u8 0, .int .u8 0, .int .u8 0, .int .u8 0, .int .u8 0, .int .u8 0, .int .u8 0, .int .u8 0, .int .u8 0, .int .u8 0, .int .u8 0, .int .u8 0, .int .u8 0, .int .u8 0, .int .u8 0, .slice none 0 0, .int .i64 0]
theorem Mo.zero_ {w : World} {go : Nat} (h : w.heap[go]? = some (.cells zero 84 (0, 0))) : Mo w go zero (.slice none 0 0) [] :=
  ⟨h, rfl, rfl, .inl ⟨rfl, rfl⟩, by simp [Value.ownBlock]⟩
/-- A cell of the object that is not its text is set. -/
theorem Mo.set {w : World} {go : Nat} {marr : Array Value} {v : Value} {xs : List Value} (h : Mo w go marr v xs) (i : Nat) (hi : i ≠ 21) (u : Value) : Mo (w.setCell ⟨go, i, none⟩ u) go (marr.setIfInBounds i u) v xs :=
  ⟨blk_set h.heap i u, by simp [h.size], by rw [Array.getElem?_setIfInBounds_ne hi]; exact h.c21, h.slc.off ((Off.refl (fun k => k = go) w).cell rfl i u) (fun k hk e => h.ne (e ▸ hk)), h.ne⟩
theorem setType_any (w : World) (go : Nat) (marr : Array Value) (v : Value) (xs : List Value) (h : Mo w go marr v xs) (k : Int) :
    Calls Tryd.prog 44 #[.pointer (some ⟨go, 0, none⟩), .int .i8 k] w fun e w' => e = .returned (.tuple #[]) ∧ w' = w.setCell ⟨go, 0, none⟩ (.int .i8 k) := by
  obtain ⟨t0, h0⟩ : ∃ t0, marr[0]? = some t0 := ⟨_, Array.getElem?_eq_getElem (by rw [h.size]; decide)⟩
  have q0 := (blk_cell h.heap 0).trans h0
  have f0 := blk_frozen h.heap 0
  clear h h0
  go_enter Tryd.func44, Tryd.ntmps44
  go_wp2_with fail
  refine bodyPost_end (results_none rfl _ _ _) rfl ⟨rfl, rfl⟩
theorem setSize_any (w : World) (go : Nat) (marr : Array Value) (v : Value) (xs : List Value) (h : Mo w go marr v xs) (k : Int) :
    Calls Tryd.prog 124 #[.pointer (some ⟨go, 0, none⟩), .int .i64 k] w fun e w' => e = .returned (.tuple #[]) ∧ w' = w.setCell ⟨go, 22, none⟩ (.int .i64 k) := by
  obtain ⟨t0, h0⟩ : ∃ t0, marr[22]? = some t0 := ⟨_, Array.getElem?_eq_getElem (by rw [h.size]; decide)⟩
  have q0 := (blk_cell h.heap 22).trans h0
  have f0 := blk_frozen h.heap 22
  clear h h0
  go_enter Tryd.func124, Tryd.ntmps124
  go_wp2_with fail
  refine bodyPost_end (results_none rfl _ _ _) rfl ⟨rfl, rfl⟩
theorem writer_any (a : Addr) (w : World) : Calls Tryd.prog 125 #[.pointer (some a)] w fun e w' => e = .returned (.tuple #[.iface 78 (.pointer (some a)), .nilIface]) ∧ w = w' := by
  go_enter Tryd.func125, Tryd.ntmps125
  go_wp2_with fail
  go_ret2
  exact ⟨rfl, rfl⟩
theorem close_any (a : Addr) (w : World) : Calls Tryd.prog 122 #[.pointer (some a)] w fun e w' => e = .returned .nilIface ∧ w = w' := by
  go_enter Tryd.func122, Tryd.ntmps122
  go_wp2_with fail
  go_ret
  exact ⟨rfl, rfl⟩
/-- What Write leaves. -/
structure Wrote (w w' : World) (go : Nat) (marr : Array Value) (v : Value) (xs : List Value) : Prop where
  out : ∃ v', Mo w' go ((marr.setIfInBounds 21 v').setIfInBounds 22 (.int .i64 (xs.length : Int))) v' xs ∧ Off (Ob go v) w w' ∧ (v'.ownBlock = v.ownBlock ∨ ∃ b, v'.ownBlock = some b ∧ w.heap.size ≤ b)
theorem write_any (w : World) (go : Nat) (marr : Array Value) (v : Value) (xs news : List Value) (A : Option Addr) (m c : Nat) (h : Mo w go marr v xs) (hs : Src w A m news) (hlim : xs.length + m ≤ 140737488355328) :
    Calls Tryd.prog 45 #[.pointer (some ⟨go, 0, none⟩), .slice A m c] w fun e w' => e = .returned (.tuple #[.int .i64 (m : Int), .nilIface]) ∧ Wrote w w' go marr v (xs ++ news) := by
  obtain ⟨A0, c0, hv0, hc0⟩ := Slc_shape h.slc
  subst hv0
  have q21 := (blk_cell h.heap 21).trans h.c21
  obtain ⟨v1, w1, hrun, hsl, hof, hfr⟩ := appendU8 (c := c) 25 h.slc hs hlim
  have hh1 : w1.heap[go]? = some (.cells marr 84 (0, 0)) := hof.blk h.heap (fun e => h.ne e)
  have hne1 : v1.ownBlock ≠ some go := by
    rcases hfr with e | ⟨b, e, hlt⟩
    · rw [e]; exact h.ne
    · rw [e]; intro e2; cases e2; exact absurd h.lt (Nat.not_lt.mpr hlt)
  obtain ⟨A1, c1, hv1, hc1⟩ := Slc_shape hsl
  have hll : (xs ++ news).length = xs.length + m := by rw [List.length_append, hs.len]
  rw [hll] at hv1 hc1
  subst hv1
  have p21 := (blk_cell hh1 21).trans h.c21
  have g21 := blk_frozen hh1 21
  have hh2 := blk_set hh1 21 (.slice A1 (xs.length + m) c1)
  have hm2 : Mo (w1.setCell ⟨go, 21, none⟩ (.slice A1 (xs.length + m) c1)) go (marr.setIfInBounds 21 (.slice A1 (xs.length + m) c1)) (.slice A1 (xs.length + m) c1) (xs ++ news) :=
    ⟨hh2, by simp [h.size], by simp [h.size], hsl.off ((Off.refl (fun k => k = go) w1).cell rfl 21 _) (fun k hk e => hne1 (e ▸ hk)), hne1⟩
  have hof2 : Off (Ob go (.slice A0 xs.length c0)) w (w1.setCell ⟨go, 21, none⟩ (.slice A1 (xs.length + m) c1)) := (hof.mono (S' := Ob go (.slice A0 xs.length c0)) (fun k hk => Or.inr hk)).cell (show Ob go _ go from .inl rfl) 21 _
  obtain ⟨W2, hW2⟩ : ∃ W2, w1.setCell ⟨go, 21, none⟩ (.slice A1 (xs.length + m) c1) = W2 := ⟨_, rfl⟩
  rw [hW2] at hm2 hof2
  obtain ⟨t0, h0⟩ : ∃ t0, (marr.setIfInBounds 21 (.slice A1 (xs.length + m) c1))[22]? = some t0 := ⟨_, Array.getElem?_eq_getElem (by simp [h.size])⟩
  have r21 := (blk_cell hm2.heap 21).trans hm2.c21
  have r22 := (blk_cell hm2.heap 22).trans h0
  have s22 := blk_frozen hm2.heap 22
  have HRUN := Aside0.mk hrun
  have HM := Aside0.mk hm2
  have HO := Aside0.mk hof2
  have HF := Aside0.mk hfr
  have HL := Aside0.mk hll
  clear h hs hrun hsl hof hfr hh1 hne1 hll hh2 hm2 hof2 h0 hc1
  go_enter Tryd.func45, Tryd.ntmps45
  go_wp2_with (first | ((with_reducible refine gate_builtin (b := .append) (xs := #[.tmp 10, .tmp 11]) rfl ?_); at_builtin; go_must (refine wpList_append_run rfl (.tmp 10) (.tmp 11) 25 rfl _ _ rfl rfl HRUN.out ?_)) | fail)
  go_ret2
  have hfin := HM.out.set 22 (by decide) (.int .i64 ((xs.length : Int) + (m : Int)))
  refine ⟨rfl, ⟨_, by rw [HL.out]; push_cast; exact hfin, HO.out.cell (show Ob go _ go from .inl rfl) 22 _, HF.out⟩⟩
end Go.Proofs.YtghcecngdhcjpaaDoor.mo
