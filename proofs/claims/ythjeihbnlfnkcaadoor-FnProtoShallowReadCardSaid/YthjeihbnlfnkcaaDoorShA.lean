/- Shallow lines: the two words; the name of a line. -/
import Derived.Test.YthjeihbnlfnkcaaDoorShP
import Derived.Laws.Rows
import Derived.Laws.Tables
import Derived.Laws.CopyOwn
namespace Go.Proofs.YthjeihbnlfnkcaaDoor.shal
open Go.RowKit Go.Lib Go.Proofs.YthjeihbnlfnkcaaDoorW.PrintWords Go.Proofs.YthjeihbnlfnkcaaDoorW.PrintLast Go.Proofs.YthjeihbnlfnkcaaDoorW.PrintMore Go.Proofs.YthjeihbnlfnkcaaDoor.PFnProtoShallowRead Go.Proofs.YthjeihbnlfnkcaaDoor.pkt Go.Proofs.YthjeihbnlfnkcaaDoor.hash
set_option linter.unusedVariables false
set_option linter.unusedSimpArgs false
set_option maxHeartbeats 2000000
set_option maxRecDepth 100000
theorem shallow_any (w : World) : Calls Tryd.prog 45 #[] w fun e w' => ∃ A c, e = .returned (.slice A (word true).length c) ∧ (word true).length ≤ c ∧ (Kd.int .u8).C w' A (word true).length (word true) ∧ Below w.heap.size w w' := by
  have hcv := Joins.run_convert_bytes_const_at (P := Tryd.prog) w 32 5 #[.int .u8 115, .int .u8 104, .int .u8 97, .int .u8 108, .int .u8 108, .int .u8 111, .int .u8 119, .int .u8 32] 8 8 w.heap.size rfl Tryd.underlying32 Tryd.underlying5
  go_enter Tryd.func45, Tryd.ntmps45
  go_wp2_with fail
  go_ret
  refine ⟨some ⟨w.heap.size, 0, none⟩, 8, rfl, by decide, ?_, ((Below.refl w.heap.size w).alloc (Nat.le_refl _) _)⟩
  refine ⟨rfl, by decide, fun _ => ⟨_, rfl, fun j p hp => ⟨[.int .u8 p], rfl, rfl, fun m u hu => ?_⟩⟩⟩
  rw [Addr.add_mid]
  match m, hu with
  | 0, hu =>
    cases hu
    match j, hp with
    | 0, hp => cases hp; exact World.cell?_alloc_mark w _ _ _ 0
    | 1, hp => cases hp; exact World.cell?_alloc_mark w _ _ _ 1
    | 2, hp => cases hp; exact World.cell?_alloc_mark w _ _ _ 2
    | 3, hp => cases hp; exact World.cell?_alloc_mark w _ _ _ 3
    | 4, hp => cases hp; exact World.cell?_alloc_mark w _ _ _ 4
    | 5, hp => cases hp; exact World.cell?_alloc_mark w _ _ _ 5
    | 6, hp => cases hp; exact World.cell?_alloc_mark w _ _ _ 6
    | 7, hp => cases hp; exact World.cell?_alloc_mark w _ _ _ 7
theorem unshallow_any (w : World) : Calls Tryd.prog 47 #[] w fun e w' => ∃ A c, e = .returned (.slice A (word false).length c) ∧ (word false).length ≤ c ∧ (Kd.int .u8).C w' A (word false).length (word false) ∧ Below w.heap.size w w' := by
  have hcv := Joins.run_convert_bytes_const_at (P := Tryd.prog) w 32 5 #[.int .u8 117, .int .u8 110, .int .u8 115, .int .u8 104, .int .u8 97, .int .u8 108, .int .u8 108, .int .u8 111, .int .u8 119, .int .u8 32] 10 10 w.heap.size rfl Tryd.underlying32 Tryd.underlying5
  go_enter Tryd.func47, Tryd.ntmps47
  go_wp2_with fail
  go_ret
  refine ⟨some ⟨w.heap.size, 0, none⟩, 10, rfl, by decide, ?_, ((Below.refl w.heap.size w).alloc (Nat.le_refl _) _)⟩
  refine ⟨rfl, by decide, fun _ => ⟨_, rfl, fun j p hp => ⟨[.int .u8 p], rfl, rfl, fun m u hu => ?_⟩⟩⟩
  rw [Addr.add_mid]
  match m, hu with
  | 0, hu =>
    cases hu
    match j, hp with
    | 0, hp => cases hp; exact World.cell?_alloc_mark w _ _ _ 0
    | 1, hp => cases hp; exact World.cell?_alloc_mark w _ _ _ 1
    | 2, hp => cases hp; exact World.cell?_alloc_mark w _ _ _ 2
    | 3, hp => cases hp; exact World.cell?_alloc_mark w _ _ _ 3
    | 4, hp => cases hp; exact World.cell?_alloc_mark w _ _ _ 4
    | 5, hp => cases hp; exact World.cell?_alloc_mark w _ _ _ 5
    | 6, hp => cases hp; exact World.cell?_alloc_mark w _ _ _ 6
    | 7, hp => cases hp; exact World.cell?_alloc_mark w _ _ _ 7
    | 8, hp => cases hp; exact World.cell?_alloc_mark w _ _ _ 8
    | 9, hp => cases hp; exact World.cell?_alloc_mark w _ _ _ 9
theorem cut_true (s : ByteArray) (h : name40 s = true) : ((bare (true, s)).take 48000).length = 48 ∧ ((bare (true, s)).take (48 : Int).toNat).drop (8 : Int).toNat = numsOf s := by
  have h1 := (line_len (x := (true, s)) h).1
  have h2 : (bare (true, s)).length = 48 := h1
  refine ⟨by rw [List.length_take, h2]; rfl, ?_⟩
  rw [show ((48 : Int)).toNat = 48 from rfl, List.take_of_length_le (by omega), show ((8 : Int)).toNat = (word true).length from rfl]
  exact List.drop_left
theorem decodeLine_true (w : World) (rv : Addr) (A Ap : Option Addr) (c np cp : Nat) (s : ByteArray) (ev : Value) (hE : w.cell? ⟨14, 0, none⟩ = some ev) (hn : name40 s = true) (hC : (Kd.int .u8).C w A (bare (true, s)).length (bare (true, s))) (hc : 48 ≤ c) :
    Calls Tryd.prog 69 #[.pointer (some rv), .slice A 48 c, .slice Ap np cp, .int .i64 48] w fun e w' => e = .returned (.tuple #[.agg (cells (raw s)).toArray, .nilIface]) ∧ Below w.heap.size w w' := by
  have hl : (bare (true, s)).length = 48 := (line_len (x := (true, s)) hn).1
  obtain ⟨hr1, hr2, hr3⟩ := raw_says hn
  have hsz := (name40_bytes hn).1
  obtain ⟨i0, hi0, hs0⟩ : ∃ i, Tryd.prog.info? 5 = some i ∧ i.size = 1 := ⟨_, rfl, rfl⟩
  obtain ⟨A', hcut, hcr, hcl⟩ := print_mid_int (P := Tryd.prog) (k := .u8) 32 5 Tryd.underlying32 hi0 hs0 A c (bare (true, s)) 8 48 (by decide) (by decide) (by rw [hl]; decide) (by omega)
  have hb : Below w.heap.size w (w.alloc (.cells #[.int .u8 0, .int .u8 0, .int .u8 0, .int .u8 0, .int .u8 0, .int .u8 0, .int .u8 0, .int .u8 0, .int .u8 0, .int .u8 0, .int .u8 0, .int .u8 0, .int .u8 0, .int .u8 0, .int .u8 0, .int .u8 0, .int .u8 0, .int .u8 0, .int .u8 0, .int .u8 0] 85 (0, 0))) := (Below.refl w.heap.size w).alloc (Nat.le_refl _) _
  have hcr1 := hcr w (Kd.reads_of_C (enc := Value.int .u8) (d := (0 : Int)) (h1 := fun _ => rfl) hC)
  rw [(cut_true s hn).2] at hcut hcr1
  rw [numsOf_length, hsz] at hcut hcr1
  rw [hl] at hcut
  have hC1 : (Kd.int .u8).C (w.alloc (.cells #[.int .u8 0, .int .u8 0, .int .u8 0, .int .u8 0, .int .u8 0, .int .u8 0, .int .u8 0, .int .u8 0, .int .u8 0, .int .u8 0, .int .u8 0, .int .u8 0, .int .u8 0, .int .u8 0, .int .u8 0, .int .u8 0, .int .u8 0, .int .u8 0, .int .u8 0, .int .u8 0] 85 (0, 0))) A' 40 (numsOf s) := Kd.C_below (Kd.C_of_reads (h1 := fun _ => rfl) hcr1) hb
  have hcv := Kd.C_string (P := Tryd.prog) (dst := 9) (c := c - 8) Tryd.underlying32 Tryd.underlying5 Tryd.underlying9 hC1
  rw [numsOf_str] at hcv
  have HNH := Aside0.mk (newHash s (raw s) .ok (w.alloc (.cells #[.int .u8 0, .int .u8 0, .int .u8 0, .int .u8 0, .int .u8 0, .int .u8 0, .int .u8 0, .int .u8 0, .int .u8 0, .int .u8 0, .int .u8 0, .int .u8 0, .int .u8 0, .int .u8 0, .int .u8 0, .int .u8 0, .int .u8 0, .int .u8 0, .int .u8 0, .int .u8 0] 85 (0, 0))) ev ((hb.cell (World.block_lt_of_cell? _ _ hE)).trans hE) (by omega) hr1 hr2)
  have HB := Aside0.mk hb
  have HR2 := Aside0.mk hr2
  have HNEW := Aside0.mk (heap_alloc_new w (.cells #[.int .u8 0, .int .u8 0, .int .u8 0, .int .u8 0, .int .u8 0, .int .u8 0, .int .u8 0, .int .u8 0, .int .u8 0, .int .u8 0, .int .u8 0, .int .u8 0, .int .u8 0, .int .u8 0, .int .u8 0, .int .u8 0, .int .u8 0, .int .u8 0, .int .u8 0, .int .u8 0] 85 (0, 0)))
  have hall : (cells (raw s)).toArray.all (·.oneCell') = true := by
    rw [Array.all_eq_true']
    intro v hv
    exact cells_one _ v (by simpa using hv)
  have HALL := Aside0.mk hall
  have hq := Tryd.underlying85
  clear hr1 hr3 hcr hcr1 hC hC1 hcl hn hsz hl hE hb hr2 hall
  obtain ⟨W1, hW1⟩ : ∃ W1, w.alloc (.cells #[.int .u8 0, .int .u8 0, .int .u8 0, .int .u8 0, .int .u8 0, .int .u8 0, .int .u8 0, .int .u8 0, .int .u8 0, .int .u8 0, .int .u8 0, .int .u8 0, .int .u8 0, .int .u8 0, .int .u8 0, .int .u8 0, .int .u8 0, .int .u8 0, .int .u8 0, .int .u8 0] 85 (0, 0)) = W1 := ⟨_, rfl⟩
  rw [hW1] at hcv HNH HB HNEW
  go_enter Tryd.func69, Tryd.ntmps69
  go_wp2_with fail
  refine HNH.out.mono ?_
  rintro e w2 ⟨rfl, hb2⟩
  have HB2 := Aside0.mk hb2
  have HG := Aside0.mk ((hb2.block w.heap.size (blk_lt HNEW.out)).trans HNEW.out)
  clear hb2 hcv hcut HNH
  go_wp2_with (first | ((with_reducible show wpList _ _ _ (⟨none, .store _ _ _, _, _, _, _⟩ :: _) _ _); refine wpList_store_row rfl 85 (.tmp 8) (.tmp 24) rfl w.heap.size (cells (raw s)).toArray rfl rfl 85 _ HG.out (info20 HR2.out) (by simp [cells, HR2.out]) HALL.out ?_) | fail)
  have HG2 := Aside0.mk (show (w2.setRow w.heap.size (cells (raw s)).toArray).heap[w.heap.size]? = some (.cells (cells (raw s)).toArray 85 (0, 0)) from setRow_heap w2 w.heap.size _ _ _ _ HG.out)
  have hrun := run_loadVar_row (P := Tryd.prog) (w2.setRow w.heap.size (cells (raw s)).toArray) w.heap.size _ 85 _ _ _ HG2.out Tryd.underlying85 rfl (info20 HR2.out)
  refine bodyPost_ret (v := .tuple #[.agg (cells (raw s)).toArray, .nilIface]) ?_ rfl ⟨rfl, ?_⟩
  · simp [results, Tryd.results69, asAddr, hrun]
  · exact below_setRow (HB.out.trans (HB2.out.mono HB.out.size)) (Nat.le_refl _) _
theorem cut_false (s : ByteArray) (h : name40 s = true) : ((bare (false, s)).take 48000).length = 50 ∧ ((bare (false, s)).take (50 : Int).toNat).drop (10 : Int).toNat = numsOf s := by
  have h1 := (line_len (x := (false, s)) h).1
  have h2 : (bare (false, s)).length = 50 := h1
  refine ⟨by rw [List.length_take, h2]; rfl, ?_⟩
  rw [show ((50 : Int)).toNat = 50 from rfl, List.take_of_length_le (by omega), show ((10 : Int)).toNat = (word false).length from rfl]
  exact List.drop_left
theorem decodeLine_false (w : World) (rv : Addr) (A Ap : Option Addr) (c np cp : Nat) (s : ByteArray) (ev : Value) (hE : w.cell? ⟨14, 0, none⟩ = some ev) (hn : name40 s = true) (hC : (Kd.int .u8).C w A (bare (false, s)).length (bare (false, s))) (hc : 50 ≤ c) :
    Calls Tryd.prog 69 #[.pointer (some rv), .slice A 50 c, .slice Ap np cp, .int .i64 50] w fun e w' => e = .returned (.tuple #[.agg (cells (raw s)).toArray, .nilIface]) ∧ Below w.heap.size w w' := by
  have hl : (bare (false, s)).length = 50 := (line_len (x := (false, s)) hn).1
  obtain ⟨hr1, hr2, hr3⟩ := raw_says hn
  have hsz := (name40_bytes hn).1
  obtain ⟨i0, hi0, hs0⟩ : ∃ i, Tryd.prog.info? 5 = some i ∧ i.size = 1 := ⟨_, rfl, rfl⟩
  obtain ⟨A', hcut, hcr, hcl⟩ := print_mid_int (P := Tryd.prog) (k := .u8) 32 5 Tryd.underlying32 hi0 hs0 A c (bare (false, s)) 10 50 (by decide) (by decide) (by rw [hl]; decide) (by omega)
  have hb : Below w.heap.size w (w.alloc (.cells #[.int .u8 0, .int .u8 0, .int .u8 0, .int .u8 0, .int .u8 0, .int .u8 0, .int .u8 0, .int .u8 0, .int .u8 0, .int .u8 0, .int .u8 0, .int .u8 0, .int .u8 0, .int .u8 0, .int .u8 0, .int .u8 0, .int .u8 0, .int .u8 0, .int .u8 0, .int .u8 0] 85 (0, 0))) := (Below.refl w.heap.size w).alloc (Nat.le_refl _) _
  have hcr1 := hcr w (Kd.reads_of_C (enc := Value.int .u8) (d := (0 : Int)) (h1 := fun _ => rfl) hC)
  rw [(cut_false s hn).2] at hcut hcr1
  rw [numsOf_length, hsz] at hcut hcr1
  rw [hl] at hcut
  have hC1 : (Kd.int .u8).C (w.alloc (.cells #[.int .u8 0, .int .u8 0, .int .u8 0, .int .u8 0, .int .u8 0, .int .u8 0, .int .u8 0, .int .u8 0, .int .u8 0, .int .u8 0, .int .u8 0, .int .u8 0, .int .u8 0, .int .u8 0, .int .u8 0, .int .u8 0, .int .u8 0, .int .u8 0, .int .u8 0, .int .u8 0] 85 (0, 0))) A' 40 (numsOf s) := Kd.C_below (Kd.C_of_reads (h1 := fun _ => rfl) hcr1) hb
  have hcv := Kd.C_string (P := Tryd.prog) (dst := 9) (c := c - 10) Tryd.underlying32 Tryd.underlying5 Tryd.underlying9 hC1
  rw [numsOf_str] at hcv
  have HNH := Aside0.mk (newHash s (raw s) .ok (w.alloc (.cells #[.int .u8 0, .int .u8 0, .int .u8 0, .int .u8 0, .int .u8 0, .int .u8 0, .int .u8 0, .int .u8 0, .int .u8 0, .int .u8 0, .int .u8 0, .int .u8 0, .int .u8 0, .int .u8 0, .int .u8 0, .int .u8 0, .int .u8 0, .int .u8 0, .int .u8 0, .int .u8 0] 85 (0, 0))) ev ((hb.cell (World.block_lt_of_cell? _ _ hE)).trans hE) (by omega) hr1 hr2)
  have HB := Aside0.mk hb
  have HR2 := Aside0.mk hr2
  have HNEW := Aside0.mk (heap_alloc_new w (.cells #[.int .u8 0, .int .u8 0, .int .u8 0, .int .u8 0, .int .u8 0, .int .u8 0, .int .u8 0, .int .u8 0, .int .u8 0, .int .u8 0, .int .u8 0, .int .u8 0, .int .u8 0, .int .u8 0, .int .u8 0, .int .u8 0, .int .u8 0, .int .u8 0, .int .u8 0, .int .u8 0] 85 (0, 0)))
  have hall : (cells (raw s)).toArray.all (·.oneCell') = true := by
    rw [Array.all_eq_true']
    intro v hv
    exact cells_one _ v (by simpa using hv)
  have HALL := Aside0.mk hall
  have hq := Tryd.underlying85
  clear hr1 hr3 hcr hcr1 hC hC1 hcl hn hsz hl hE hb hr2 hall
  obtain ⟨W1, hW1⟩ : ∃ W1, w.alloc (.cells #[.int .u8 0, .int .u8 0, .int .u8 0, .int .u8 0, .int .u8 0, .int .u8 0, .int .u8 0, .int .u8 0, .int .u8 0, .int .u8 0, .int .u8 0, .int .u8 0, .int .u8 0, .int .u8 0, .int .u8 0, .int .u8 0, .int .u8 0, .int .u8 0, .int .u8 0, .int .u8 0] 85 (0, 0)) = W1 := ⟨_, rfl⟩
  rw [hW1] at hcv HNH HB HNEW
  go_enter Tryd.func69, Tryd.ntmps69
  go_wp2_with fail
  refine HNH.out.mono ?_
  rintro e w2 ⟨rfl, hb2⟩
  have HB2 := Aside0.mk hb2
  have HG := Aside0.mk ((hb2.block w.heap.size (blk_lt HNEW.out)).trans HNEW.out)
  clear hb2 hcv hcut HNH
  go_wp2_with (first | ((with_reducible show wpList _ _ _ (⟨none, .store _ _ _, _, _, _, _⟩ :: _) _ _); refine wpList_store_row rfl 85 (.tmp 8) (.tmp 24) rfl w.heap.size (cells (raw s)).toArray rfl rfl 85 _ HG.out (info20 HR2.out) (by simp [cells, HR2.out]) HALL.out ?_) | fail)
  have HG2 := Aside0.mk (show (w2.setRow w.heap.size (cells (raw s)).toArray).heap[w.heap.size]? = some (.cells (cells (raw s)).toArray 85 (0, 0)) from setRow_heap w2 w.heap.size _ _ _ _ HG.out)
  have hrun := run_loadVar_row (P := Tryd.prog) (w2.setRow w.heap.size (cells (raw s)).toArray) w.heap.size _ 85 _ _ _ HG2.out Tryd.underlying85 rfl (info20 HR2.out)
  refine bodyPost_ret (v := .tuple #[.agg (cells (raw s)).toArray, .nilIface]) ?_ rfl ⟨rfl, ?_⟩
  · simp [results, Tryd.results69, asAddr, hrun]
  · exact below_setRow (HB.out.trans (HB2.out.mono HB.out.size)) (Nat.le_refl _) _
end Go.Proofs.YthjeihbnlfnkcaaDoor.shal
