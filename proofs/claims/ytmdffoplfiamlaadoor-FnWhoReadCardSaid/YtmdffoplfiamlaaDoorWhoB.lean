/- Signatures: spec.WhoText. -/
import Derived.Test.YtmdffoplfiamlaaDoorWhoA
namespace Go.Proofs.YtmdffoplfiamlaaDoor.who
open Go.RowKit Go.Lib Go.Proofs.YtmdffoplfiamlaaDoorW.PrintWords Go.Proofs.YtmdffoplfiamlaaDoorW.PrintLast Go.Proofs.YtmdffoplfiamlaaDoorW.PrintMore Go.Proofs.YtmdffoplfiamlaaDoor.PFnWhoRead
set_option linter.unusedVariables false
set_option linter.unusedSimpArgs false
set_option maxHeartbeats 2000000
set_option maxRecDepth 100000
/-- A signature as the format tells it. -/
def whoT (N E : ByteArray) (n : Nat) (z : List UInt8) : ByteArray := (((((N ++ (⟨#[32, 60]⟩ : ByteArray)) ++ E) ++ (⟨#[62, 32]⟩ : ByteArray)) ++ txt (decDigits n)) ++ (⟨#[32]⟩ : ByteArray)) ++ txt z
theorem whoText_any (N E : ByteArray) (n : Nat) (zi : Int) (z : List UInt8) (hN : N.size ≤ 4096) (hE : E.size ≤ 4096) (hn : n < 1099511627776) (hz : z.length = 5) (hZ : ∀ w : World, Calls Tryd.prog 32 #[.int .i64 zi] w fun e w' => e = .returned (.string (txt z)) ∧ Below w.heap.size w w') (w : World) :
    Calls Tryd.prog 14 #[.agg #[.string N, .string E, .int .i64 (n : Int), .int .i64 zi]] w fun e w' => e = .returned (.string (whoT N E n z)) ∧ Below w.heap.size w w' := by
  have HZ := Aside0.mk hZ
  have HD := Aside0.mk (decimal_any n (by omega))
  have hds := dec_len (n := n) (by omega)
  have hzs := txt_size z
  rw [hz] at hzs
  obtain ⟨d, hd⟩ : ∃ d, txt (decDigits n) = d := ⟨_, rfl⟩
  obtain ⟨s, hs⟩ : ∃ s, txt z = s := ⟨_, rfl⟩
  have HT := Aside0.mk (show whoT N E n z = (((((N ++ (⟨#[32, 60]⟩ : ByteArray)) ++ E) ++ (⟨#[62, 32]⟩ : ByteArray)) ++ d) ++ (⟨#[32]⟩ : ByteArray)) ++ s from by rw [← hd, ← hs]; rfl)
  rw [hd] at HD hds
  rw [hs] at HZ hzs
  clear hZ hz hd hs
  have r0 : N.size + 2 ≤ 9223372036854775807 := by omega
  have r0a := eq_true r0
  have r0b := decide_eq_true r0
  have r0c := eq_false (Nat.not_lt.2 r0)
  have r1 : N.size + 2 + E.size ≤ 9223372036854775807 := by omega
  have r1a := eq_true r1
  have r1b := decide_eq_true r1
  have r1c := eq_false (Nat.not_lt.2 r1)
  have r2 : N.size + 2 + E.size + 2 ≤ 9223372036854775807 := by omega
  have r2a := eq_true r2
  have r2b := decide_eq_true r2
  have r2c := eq_false (Nat.not_lt.2 r2)
  have r3 : N.size + 2 + E.size + 2 + d.size ≤ 9223372036854775807 := by omega
  have r3a := eq_true r3
  have r3b := decide_eq_true r3
  have r3c := eq_false (Nat.not_lt.2 r3)
  have r4 : N.size + 2 + E.size + 2 + d.size + 1 ≤ 9223372036854775807 := by omega
  have r4a := eq_true r4
  have r4b := decide_eq_true r4
  have r4c := eq_false (Nat.not_lt.2 r4)
  have r5 : N.size + 2 + E.size + 2 + d.size + 1 + s.size ≤ 9223372036854775807 := by omega
  have r5a := eq_true r5
  have r5b := decide_eq_true r5
  have r5c := eq_false (Nat.not_lt.2 r5)
  clear hN hE hds hzs
  go_enter Tryd.func14, Tryd.ntmps14
  go_wp2_with fail
  have HB1 := Aside0.mk ((Below.refl w.heap.size w).alloc (Nat.le_refl _) (.cells #[.string N, .string E, .int .i64 (n : Int), .int .i64 zi] 37 (0, 0)))
  have BW := Aside0.mk (heap_alloc_new w (.cells #[.string N, .string E, .int .i64 (n : Int), .int .i64 zi] 37 (0, 0)))
  obtain ⟨g1, hg1⟩ : ∃ g1, w.heap.size = g1 := ⟨_, rfl⟩
  rw [hg1] at BW
  obtain ⟨W1, hW1⟩ : ∃ W1, w.alloc (.cells #[.string N, .string E, .int .i64 (n : Int), .int .i64 zi] 37 (0, 0)) = W1 := ⟨_, rfl⟩
  rw [hW1] at BW HB1
  have h0 : W1.cell? ⟨g1, 0, none⟩ = some (.string N) := (blk_cell BW.out 0).trans rfl
  have h1 : W1.cell? ⟨g1, 1, none⟩ = some (.string E) := (blk_cell BW.out 1).trans rfl
  have h2 : W1.cell? ⟨g1, 2, none⟩ = some (.int .i64 (n : Int)) := (blk_cell BW.out 2).trans rfl
  have h3 : W1.cell? ⟨g1, 3, none⟩ = some (.int .i64 zi) := (blk_cell BW.out 3).trans rfl
  rw [hg1, hW1]
  clear BW hg1 hW1
  go_region_held3 (fun w' => w'.cell? ⟨g1, 0, none⟩ = some (.string N) ∧ w'.cell? ⟨g1, 1, none⟩ = some (.string E) ∧ w'.cell? ⟨g1, 2, none⟩ = some (.int .i64 (n : Int)) ∧ w'.cell? ⟨g1, 3, none⟩ = some (.int .i64 zi)) (first | go_keep | exact ⟨q0, q1, q2, q3⟩) ((first | (go_at_call 31; refine (HD.out _).mono ?_; rintro e w2 ⟨rfl, rfl⟩) | (go_at_call 32; refine (HZ.out _).mono ?_; rintro e w2 ⟨rfl, hb2⟩; have q0 := (hb2.cell (World.block_lt_of_cell? W1.drew _ h0)).trans h0; have q1 := (hb2.cell (World.block_lt_of_cell? W1.drew _ h1)).trans h1; have q2 := (hb2.cell (World.block_lt_of_cell? W1.drew _ h2)).trans h2; have q3 := (hb2.cell (World.block_lt_of_cell? W1.drew _ h3)).trans h3; have HB2 := Aside0.mk hb2; clear hb2)))
  all_goals go_wp2_with fail
  all_goals go_ret
  all_goals exact ⟨by rw [HT.out]; rfl, below_step (below_drew HB1.out) HB2.out⟩
end Go.Proofs.YtmdffoplfiamlaaDoor.who
