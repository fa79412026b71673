/- (*bytes.Buffer).Grow of an empty buffer. -/
import Derived.Test.YtghcecngdhcjpaaDoorShelf
import Derived.Test.YtghcecngdhcjpaaDoorProg
import Derived.Test.YtghcecngdhcjpaaDoorSlw
import Derived.Test.YtghcecngdhcjpaaDoorWWords
import Derived.Test.YtghcecngdhcjpaaDoorWMore
import Derived.Lib.BufferWrite
import Derived.Lib.BufferMore
namespace Go.Proofs.YtghcecngdhcjpaaDoor.leb
open Go.RowKit Go.Proofs.YtghcecngdhcjpaaDoorW.PrintWords Go.Proofs.YtghcecngdhcjpaaDoorW.PrintLast Go.Proofs.YtghcecngdhcjpaaDoorW.PrintMore
set_option linter.unusedVariables false
set_option maxHeartbeats 1000000
set_option maxRecDepth 100000
theorem Grow_nil (B b n : Nat) (lr : Int) (w : World) (hB : B ≤ b) (hBw : B ≤ w.heap.size) (hbk : w.heap[b]? = some (.cells #[.slice none 0 0, .int .i64 0, .int .i8 lr] 47 (0, 0))) (hn : 1 ≤ n) (hlim : n ≤ 140737488355328) :
    Calls Tryd.prog 66 #[.pointer (some ⟨b, 0, none⟩), .int .i64 n] w fun e w' => e = .returned (.tuple #[]) ∧ Lib.IsBuffer 47 5 B b [] w' ∧ Below B w w' := by
  have hg : Calls Tryd.prog 42 #[.pointer (some ⟨b, 0, none⟩), .int .i64 n] w fun e w' => e = .returned (.int .i64 0) ∧ ∃ xs, xs.length = n ∧ Lib.IsBuffer 47 5 B b xs w' ∧ Below B w w' := by
    by_cases h64 : n ≤ 64
    · exact (Tryd.Buffer_grow_nil_small_own B b n lr w hB hBw hbk hn h64).mono (fun _ _ h => by obtain ⟨h1, xs, h2, h3, h4, _⟩ := h; exact ⟨h1, xs, h2, h3, h4⟩)
    · exact (Tryd.Buffer_grow_nil_big_own B b n lr w hB hBw hbk (by omega) hlim).mono (fun _ _ h => by obtain ⟨h1, xs, h2, h3, h4, _⟩ := h; exact ⟨h1, xs, h2, h3, h4⟩)
  have hg' : Calls Tryd.prog 42 #[.pointer (some ⟨b, 0, none⟩), .int .i64 n] w fun e w' => e = .returned (.int .i64 0) ∧ Below B w w' ∧ ∃ lr1 g cap, ∃ cur : Array Value, w'.heap[b]? = some (.cells #[.slice (some ⟨g, 0, none⟩) n cap, .int .i64 0, .int .i8 lr1] 47 (0, 0)) ∧ B ≤ g ∧ w'.heap[g]? = some (.cells cur 5 (0, 0)) ∧ n ≤ cap ∧ cap ≤ maxLen ∧ cur.size = cap ∧ g ≠ b := by
    refine hg.mono ?_
    rintro e w1 ⟨rfl, xs, hxs, hbuf, hbel⟩
    obtain ⟨hB1, lr1, hc⟩ := hbuf.cases
    rcases hc with ⟨hnil, _⟩ | ⟨g, cap, cur, hb1, hBg, hgc, hnc, hcm, hcs, htk, hgb⟩
    · subst hnil; simp at hxs; omega
    · rw [hxs] at hb1 hnc
      exact ⟨rfl, hbel, lr1, g, cap, cur, hb1, hBg, hgc, hnc, hcm, hcs, hgb⟩
  clear hg
  go_enter Tryd.func66, Tryd.ntmps66
  go_wp2_with (go_at_call 42; fail)
  refine hg'.mono ?_
  rintro e w1 ⟨rfl, hbel, lr1, g, cap, cur, hb1, hBg, hgc, hnc, hcm, hcs, hgb⟩
  have c0 : w1.cell? ⟨b, 0, none⟩ = some (.slice (some ⟨g, 0, none⟩) n cap) := by rw [Lib.cell_of_heap hb1]; rfl
  have f0 : w1.frozen? ⟨b, 0, none⟩ = false := by simp [World.frozen?, hb1]
  go_wp2
  go_end0
  refine ⟨rfl, ?_, hbel.setCell (p := ⟨b, 0, none⟩) hB _⟩
  have hb2 : (w1.setCell ⟨b, 0, none⟩ (.slice (some ⟨g, 0, none⟩) 0 cap)).heap[b]? = some (.cells #[.slice (some ⟨g, 0, none⟩) 0 cap, .int .i64 0, .int .i8 lr1] 47 (0, 0)) := by
    rw [Lib.heap_setCell_same (i := 0) hb1]; rfl
  have hg2 : (w1.setCell ⟨b, 0, none⟩ (.slice (some ⟨g, 0, none⟩) 0 cap)).heap[g]? = some (.cells cur 5 (0, 0)) := by
    rw [Below.heap_setCell _ _ _ _ hgb]; exact hgc
  exact ⟨hB, _, lr1, hb2, ⟨rfl, .inr ⟨g, cap, cur, rfl, hBg, hg2, Nat.zero_le _, hcm, by simpa using hcs, by simp⟩⟩, by simp [Value.ownBlock]; exact hgb⟩
end Go.Proofs.YtghcecngdhcjpaaDoor.leb
