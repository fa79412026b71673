/- A bytes.Buffer that only this call writes: Write, told so that blocks of bytes that are marked (what []byte(s) makes) and blocks of other types stay as they are. -/
import Derived.Test.YtdobblddnfalcaaGreatDoorShelf
import Derived.Test.YtdobblddnfalcaaGreatDoorWMore
import Derived.Lib.BufferOwn
import Derived.Lib.BufferWrite
import Derived.Lib.BufferSrc
import Derived.Laws.CopyRow
import Derived.Laws.IdiomCopy
import Derived.BigCall
import Derived.BigGuard
namespace Go.Proofs.YtdobblddnfalcaaGreatDoor.buf
open Go.RowKit Go.Proofs.YtdobblddnfalcaaGreatDoorW.PrintWords
set_option linter.unusedVariables false
set_option linter.unusedSimpArgs false
set_option maxHeartbeats 2000000
set_option maxRecDepth 100000
/-- Whatever is no unmarked block of bytes, and not the block b, stays. -/
def Keeps (b : Nat) (w w' : World) : Prop := ∀ k o, w.heap[k]? = some o → k ≠ b → (∀ cs, o ≠ .cells cs 5 (0, 0)) → w'.heap[k]? = some o
theorem Keeps.refl (b : Nat) (w : World) : Keeps b w w := fun _ _ h _ _ => h
theorem Keeps.trans {b : Nat} {w w1 w2 : World} (h : Keeps b w w1) (k : Keeps b w1 w2) : Keeps b w w2 := fun i o hi hb ho => k i o (h i o hi hb ho) hb ho
theorem Keeps.below {b : Nat} {w w1 w2 : World} (h : Keeps b w w1) (k : Below w1.heap.size w1 w2) : Keeps b w w2 := fun i o hi hb ho => blk_below (h i o hi hb ho) k
theorem Keeps.of_below {b : Nat} {w w1 : World} (k : Below w.heap.size w w1) : Keeps b w w1 := fun i o hi _ _ => blk_below hi k
theorem Keeps.of_grown {b : Nat} {w w1 : World} (h : w.grownBy w1 (some b)) : Keeps b w w1 := fun i o hi hb _ => (h.block i (blk_lt hi) (fun e => hb (Option.some.inj e))).trans hi
theorem Keeps.setRow {b g : Nat} {w w1 : World} {cur : Array Value} (h : Keeps b w w1) (hg : w1.heap[g]? = some (.cells cur 5 (0, 0))) (arr : Array Value) : Keeps b w (w1.setRow g arr) := fun i o hi hb ho => by
  have h1 := h i o hi hb ho
  have hne : i ≠ g := fun e => by subst e; rw [hg] at h1; exact ho cur (Option.some.inj h1).symm
  rw [setRow_other _ _ _ _ hne]
  exact h1
abbrev IsB (B b : Nat) (bs : List Value) (w : World) : Prop := Lib.IsBuffer 85 5 B b bs w
theorem u8size : (Tryz.prog.info? 5).map (·.size) = some 1 := by kernel_rfl
theorem write_any (B b : Nat) (bs cs : List Value) (a : Addr) (n c : Nat) (w : World) (h : IsB B b bs w) (hBw : B ≤ w.heap.size) (h1 : ∀ v ∈ bs, v.oneCell' = true) (hn : cs.length = n) (hn0 : 0 < n) (hab : a.block ≠ b) (hsrc : ∀ j v, cs[j]? = some v → w.cell? (a.add j) = some v) (h1c : ∀ v ∈ cs, v.oneCell' = true) (hlim : bs.length + n ≤ 140737488355328) :
    Calls Tryz.prog 248 #[.pointer (some ⟨b, 0, none⟩), .slice (some a) n c] w fun e w' => e = .returned (.tuple #[.int .i64 n, .nilIface]) ∧ IsB B b (bs ++ cs) w' ∧ Below B w w' ∧ Keeps b w w' := by
  obtain ⟨hB, v0, lr, hbk, -, -⟩ := id h
  have c2 := (blk_cell hbk 2).trans (show _ = some (Value.int .i8 lr) from rfl)
  have f2 := blk_frozen hbk 2
  have h' := h.setLast 0
  have HI := Aside0.mk h'
  have HBL := Aside0.mk ((Below.refl B w).setCell (p := ⟨b, 2, none⟩) hB (.int .i8 0))
  have HG0 := Aside0.mk (Lib.grownBy_setCell w b 2 (.int .i8 0))
  have HBW := Aside0.mk (show B ≤ (w.setCell ⟨b, 2, none⟩ (.int .i8 0)).heap.size by simpa [World.setCell] using hBw)
  have HSRC := Aside0.mk hsrc
  have HB := Aside0.mk hB
  have HN := Aside0.mk hn
  clear hbk v0 h' h hsrc hB hBw hn
  obtain ⟨W0, hW0⟩ : ∃ W0, w.setCell ⟨b, 2, none⟩ (.int .i8 0) = W0 := ⟨_, rfl⟩
  rw [hW0] at HI HBL HG0 HBW
  have HW0 := Aside0.mk hW0
  clear hW0
  have hlast := HW0.out
  go_enter Tryz.func248, Tryz.ntmps248
  go_wp2_with fail
  refine (Tryz.Buffer_tryGrow_own B b n bs W0 HI.out).mono ?_
  rintro e W1 (⟨rfl, xs, hxl, hI, hbel, hk0, hg0⟩ | ⟨rfl, rfl, hnr⟩)
  · have hbelW := HBL.out.trans hbel
    have hgW := Lib.grownBy_trans HG0.out hg0
    clear hbel hk0 hg0 HI hlast c2 f2
    obtain ⟨-, lr2, hcs⟩ := hI.cases
    rcases hcs with ⟨hnil, -⟩ | ⟨g, cap, cur, hbk2, hBg, hg, hnc, hcm, hcz, htk, hgb⟩
    · exact absurd (congrArg List.length hnil) (by rw [List.length_append, hxl, List.length_nil]; omega)
    · rw [List.length_append, hxl] at hbk2 hnc htk
      have d0 := (blk_cell hbk2 0).trans (show _ = some (Value.slice (some ⟨g, 0, none⟩) (bs.length + n) cap) from rfl)
      have hne : ¬ cap = bs.length := by omega
      have hsrc1 : ∀ j v, cs[j]? = some v → W1.cell? (a.add j) = some v := fun j v hj => hgW.cell (HSRC.out j v hj) (by rw [Lib.block_add]; exact fun e => hab (Option.some.inj e))
      have hcp := run_copy_row (P := Tryz.prog) W1 32 32 3 5 g bs.length n (cap - bs.length) a n c cur 5 cs Tryz.underlying32 u8size hg (by rw [HN.out]; exact (Nat.min_self n).symm) hsrc1 (by rw [HN.out]; omega) h1c
      rw [HN.out] at hcp
      have hcm' := hcm
      unfold maxLen at hcm'
      have HEND := Aside0.mk (Lib.written_end (news := cs) (l := bs.length) HB.out (by rw [HN.out]; exact hbk2) hBg hg hcm hcz hgb (by rw [HN.out]; exact hnc))
      have HTK := Aside0.mk htk
      have HK := Aside0.mk (Keeps.setRow (Keeps.of_grown hgW) hg (cur.toList.take bs.length ++ cs ++ cur.toList.drop (bs.length + n)).toArray)
      have HBELW := Aside0.mk hbelW
      clear hI hbk2 hBg hg hcz htk hgb hsrc1 hgW hbelW hcm hxl
      go_wp2
      go_ret2
      obtain ⟨r1, r2⟩ := HEND.out
      have e1 : cur.toList.take bs.length = bs := by
        have h3 := congrArg (List.take bs.length) HTK.out
        rwa [List.take_take, Nat.min_eq_left (Nat.le_add_right _ _), List.take_left' rfl] at h3
      have hk := HK.out
      rw [e1] at r1 r2 hk
      rw [HN.out] at r1 r2
      refine ⟨rfl, ?_, ?_, ?_⟩ <;> rw [e1, ← List.append_assoc]
      · exact r1
      · exact HBELW.out.trans r2
      · exact hk
  · have HGR := Aside0.mk (Tryz.Buffer_grow_own B b n bs W1 HI.out hnr HBW.out h1 hlim)
    clear hnr hlast c2 f2
    go_wp2_with fail
    refine HGR.out.mono ?_
    rintro e W1 ⟨rfl, xs, hxl, hI, hbel, hk0, hg0⟩
    have hbelW := HBL.out.trans hbel
    have hgW := Lib.grownBy_trans HG0.out hg0
    clear hbel hk0 hg0 HI HGR
    obtain ⟨-, lr2, hcs⟩ := hI.cases
    rcases hcs with ⟨hnil, -⟩ | ⟨g, cap, cur, hbk2, hBg, hg, hnc, hcm, hcz, htk, hgb⟩
    · exact absurd (congrArg List.length hnil) (by rw [List.length_append, hxl, List.length_nil]; omega)
    · rw [List.length_append, hxl] at hbk2 hnc htk
      have d0 := (blk_cell hbk2 0).trans (show _ = some (Value.slice (some ⟨g, 0, none⟩) (bs.length + n) cap) from rfl)
      have hne : ¬ cap = bs.length := by omega
      have hsrc1 : ∀ j v, cs[j]? = some v → W1.cell? (a.add j) = some v := fun j v hj => hgW.cell (HSRC.out j v hj) (by rw [Lib.block_add]; exact fun e => hab (Option.some.inj e))
      have hcp := run_copy_row (P := Tryz.prog) W1 32 32 3 5 g bs.length n (cap - bs.length) a n c cur 5 cs Tryz.underlying32 u8size hg (by rw [HN.out]; exact (Nat.min_self n).symm) hsrc1 (by rw [HN.out]; omega) h1c
      rw [HN.out] at hcp
      have hcm' := hcm
      unfold maxLen at hcm'
      have HEND := Aside0.mk (Lib.written_end (news := cs) (l := bs.length) HB.out (by rw [HN.out]; exact hbk2) hBg hg hcm hcz hgb (by rw [HN.out]; exact hnc))
      have HTK := Aside0.mk htk
      have HK := Aside0.mk (Keeps.setRow (Keeps.of_grown hgW) hg (cur.toList.take bs.length ++ cs ++ cur.toList.drop (bs.length + n)).toArray)
      have HBELW := Aside0.mk hbelW
      clear hI hbk2 hBg hg hcz htk hgb hsrc1 hgW hbelW hcm hxl
      go_wp2
      go_ret2
      obtain ⟨r1, r2⟩ := HEND.out
      have e1 : cur.toList.take bs.length = bs := by
        have h3 := congrArg (List.take bs.length) HTK.out
        rwa [List.take_take, Nat.min_eq_left (Nat.le_add_right _ _), List.take_left' rfl] at h3
      have hk := HK.out
      rw [e1] at r1 r2 hk
      rw [HN.out] at r1 r2
      refine ⟨rfl, ?_, ?_, ?_⟩ <;> rw [e1, ← List.append_assoc]
      · exact r1
      · exact HBELW.out.trans r2
      · exact hk
end Go.Proofs.YtdobblddnfalcaaGreatDoor.buf
