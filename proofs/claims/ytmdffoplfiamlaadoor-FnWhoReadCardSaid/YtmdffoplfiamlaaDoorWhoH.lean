/- Signatures: the law FnWhoRead. -/
import Derived.Test.YtmdffoplfiamlaaDoorWhoG
import Derived.Test.YtmdffoplfiamlaaDoorWhoP
import Derived.Test.YtmdffoplfiamlaaDoorWEqStruct
import Derived.Lib.ConvBytes
import Derived.Deep.DeepMust
namespace Go.Proofs.YtmdffoplfiamlaaDoor.who
open Go.Proofs.YtmdffoplfiamlaaDoor.cuts Go.RowKit Go.Lib Go.Proofs.YtmdffoplfiamlaaDoorW.PrintWords Go.Proofs.YtmdffoplfiamlaaDoorW.PrintLast Go.Proofs.YtmdffoplfiamlaaDoorW.PrintMore Go.Proofs.YtmdffoplfiamlaaDoor.PFnWhoRead
set_option linter.unusedVariables false
set_option linter.unusedSimpArgs false
set_option maxHeartbeats 2000000
set_option maxRecDepth 100000
theorem fits_says (N E : ByteArray) (t z : Int) : ∃ b, laws_zzFits22.f N E t z = some b ∧ (b = true → N.size ≤ 2147483647 ∧ E.size ≤ 2147483647) := by
  unfold laws_zzFits22.f
  by_cases h1 : (N.size : Int) > 2147483647
  · exact ⟨false, if_pos h1, fun h => by cases h⟩
  · rw [if_neg h1]
    by_cases h2 : (E.size : Int) > 2147483647
    · exact ⟨false, if_pos h2, fun h => by cases h⟩
    · exact ⟨true, if_neg h2, fun _ => ⟨by omega, by omega⟩⟩
theorem eq_who (N E : ByteArray) (t z : Int) (w : World) : (Op.equalIn 10000 37 (.agg #[.string N, .string E, .int .i64 t, .int .i64 z]) (.agg #[.string N, .string E, .int .i64 t, .int .i64 z])).run Tryd.prog w = .ok true w := by
  have e0 : (Op.equalIn 9999 9 (.string N) (.string N)).run Tryd.prog w = .ok true w := by have h := run_equalIn_string w 9998 9 N N Tryd.underlying9; rw [beq_self_eq_true] at h; exact h
  have e1 : (Op.equalIn 9999 9 (.string E) (.string E)).run Tryd.prog w = .ok true w := by have h := run_equalIn_string w 9998 9 E E Tryd.underlying9; rw [beq_self_eq_true] at h; exact h
  have e2 : (Op.equalIn 9999 2 (.int .i64 t) (.int .i64 t)).run Tryd.prog w = .ok true w := by have h := run_equalIn_int w 9998 2 .i64 .i64 t t Tryd.underlying2; rw [beq_self_eq_true] at h; exact h
  have e3 : (Op.equalIn 9999 3 (.int .i64 z) (.int .i64 z)).run Tryd.prog w = .ok true w := by have h := run_equalIn_int w 9998 3 .i64 .i64 z z Tryd.underlying3; rw [beq_self_eq_true] at h; exact h
  refine eqA_of Tryd.underlying37 (by kernel_rfl) ?_
  refine eqf_end (a := .string N) (b := .string N) (r := true) ?_ ?_ ?_ ?_ ?_
  · kernel_rfl
  · kernel_rfl
  · kernel_rfl
  · exact e0
  refine eqf_end (a := .string E) (b := .string E) (r := true) ?_ ?_ ?_ ?_ ?_
  · kernel_rfl
  · kernel_rfl
  · kernel_rfl
  · exact e1
  refine eqf_end (a := .int .i64 t) (b := .int .i64 t) (r := true) ?_ ?_ ?_ ?_ ?_
  · kernel_rfl
  · kernel_rfl
  · kernel_rfl
  · exact e2
  refine eqf_last (a := .int .i64 z) (b := .int .i64 z) (r := true) ?_ ?_ ?_ ?_
  · kernel_rfl
  · kernel_rfl
  · kernel_rfl
  · exact e3
theorem who_law (N E : ByteArray) (t z : Int) (w : World) : Calls Tryd.prog 4 #[.agg #[.string N, .string E, .int .i64 t, .int .i64 z]] w fun e w' => e = .returned (.bool true) ∧ Below w.heap.size w w' := by
  obtain ⟨b0, hf0, hq0⟩ := fits_says N E t z
  have HF := Aside0.mk (fun W : World => laws_zzFits22.calls N E t z b0 W hf0)
  clear hf0
  cases b0 with
  | false =>
    clear hq0
    go_enter Tryd.func4, Tryd.ntmps4
    go_wp2_with fail
    refine (HF.out _).mono ?_
    rintro e w1 ⟨rfl, hb1⟩
    have HB1 := Aside0.mk (below_step (below_alloc (Below.refl w.heap.size w) _) hb1)
    clear hb1
    go_wp2_with fail
    go_ret
    exact ⟨rfl, HB1.out⟩
  | true =>
    obtain ⟨hn, he⟩ := hq0 rfl
    obtain ⟨b1, hw1, hq1⟩ := who_says N E t z hn he
    have HW := Aside0.mk (fun W : World => spec_IsWho.calls 4100 N E t z b1 W hw1)
    clear hq0 hn he hw1
    cases b1 with
    | false =>
      clear hq1
      go_enter Tryd.func4, Tryd.ntmps4
      go_wp2_with fail
      refine (HF.out _).mono ?_
      rintro e w1 ⟨rfl, hb1⟩
      have HB1 := Aside0.mk (below_step (below_alloc (Below.refl w.heap.size w) _) hb1)
      have HG1 := Aside0.mk (blk_below (heap_alloc_new w (.cells #[.string N, .string E, .int .i64 t, .int .i64 z] 37 (0, 0))) hb1)
      clear hb1 HF
      obtain ⟨g1, hg1⟩ : ∃ g1, w.heap.size = g1 := ⟨_, rfl⟩
      have HGE := Aside0.mk (show w.heap.size = g1 from hg1)
      rw [hg1] at HG1
      clear hg1
      have q0 := (blk_cell HG1.out 0).trans (show _ = some (Value.string N) from rfl); have q1 := (blk_cell HG1.out 1).trans (show _ = some (Value.string E) from rfl); have q2 := (blk_cell HG1.out 2).trans (show _ = some (Value.int .i64 t) from rfl); have q3 := (blk_cell HG1.out 3).trans (show _ = some (Value.int .i64 z) from rfl)
      go_wp2_with fail
      rw [HGE.out]
      go_region_with (go_at_call 12; refine (HW.out _).mono ?_; rintro e w2 ⟨rfl, hb2⟩; have HB2 := Aside0.mk (below_step (show Below w.heap.size w w1.drew from below_drew HB1.out) hb2); clear hb2)
      all_goals go_wp2_with fail
      all_goals go_ret
      all_goals exact ⟨rfl, HB2.out⟩
    | true =>
      have hok := hq1 rfl
      clear hq1
      obtain ⟨n, rfl⟩ : ∃ n : Nat, t = (n : Int) := ⟨t.toNat, by have := hok.t0; omega⟩
      have hnt : n < 1099511627776 := by have := hok.t1; omega
      obtain ⟨zt, hz, hZ⟩ := zone_any hok
      have HX := Aside0.mk (whoText_any N E n z zt hok.n.1 hok.e.1 hnt hz.len hZ)
      have hTL := whoT_list N E n zt
      obtain ⟨s, hs⟩ : ∃ s, whoT N E n zt = s := ⟨_, rfl⟩
      rw [hs] at hTL HX
      have hsz : s.size ≤ 1000000 := by
        rw [← sz_list, hTL]
        have h1 := hok.n.1
        have h2 := hok.e.1
        have h3 := (secOk n hnt).len
        have h4 := hz.len
        simp only [List.length_append, List.length_cons, sz_list, h4]
        omega
      have HD := Aside0.mk (fun (W : World) (A : Option Addr) (c : Nat) (hC : (Kd.int .u8).C W A s.size (bn s.data.toList)) => decodeWho_any W s.size c N E n (decDigits n) zt z A hok.n.2 hok.e.2 (secOk n hnt) hz s.data.toList hTL (sz_list s) hsz hC)
      have hcv := fun W : World => Lib.run_convert_string_bytes (P := Tryd.prog) W 9 26 5 s (u := .string) Tryd.underlying9 Tryd.underlying26 Tryd.underlying5
      have heq := eq_who N E (n : Int) z
      have HSZ := Aside0.mk (show s.size ≤ 9223372036854775807 by omega)
      clear hok hnt hz hZ hTL hs hsz
      go_enter Tryd.func4, Tryd.ntmps4
      go_wp2_with fail
      refine (HF.out _).mono ?_
      rintro e w1 ⟨rfl, hb1⟩
      have HB1 := Aside0.mk (below_step (below_alloc (Below.refl w.heap.size w) _) hb1)
      have HG1 := Aside0.mk (blk_below (heap_alloc_new w (.cells #[.string N, .string E, .int .i64 (n : Int), .int .i64 z] 37 (0, 0))) hb1)
      clear hb1 HF
      obtain ⟨g1, hg1⟩ : ∃ g1, w.heap.size = g1 := ⟨_, rfl⟩
      have HGE := Aside0.mk (show w.heap.size = g1 from hg1)
      rw [hg1] at HG1
      clear hg1
      have q0 := (blk_cell HG1.out 0).trans (show _ = some (Value.string N) from rfl); have q1 := (blk_cell HG1.out 1).trans (show _ = some (Value.string E) from rfl); have q2 := (blk_cell HG1.out 2).trans (show _ = some (Value.int .i64 (n : Int)) from rfl); have q3 := (blk_cell HG1.out 3).trans (show _ = some (Value.int .i64 z) from rfl)
      go_wp2_with fail
      rw [HGE.out]
      go_region_with (first | (go_at_call 12; refine (HW.out _).mono ?_; rintro e w2 ⟨rfl, hb2⟩; have HB2 := Aside0.mk (below_step (show Below w.heap.size w w1.drew from below_drew HB1.out) hb2); have HG2 := Aside0.mk (blk_below (show w1.drew.heap[g1]? = _ from HG1.out) hb2); clear hb2 q0 q1 q2 q3; have q0 := (blk_cell HG2.out 0).trans (show _ = some (Value.string N) from rfl); have q1 := (blk_cell HG2.out 1).trans (show _ = some (Value.string E) from rfl); have q2 := (blk_cell HG2.out 2).trans (show _ = some (Value.int .i64 (n : Int)) from rfl); have q3 := (blk_cell HG2.out 3).trans (show _ = some (Value.int .i64 z) from rfl)) | (go_at_call 14; refine (HX.out _).mono ?_; rintro e w3 ⟨rfl, hb3⟩; have HB3 := Aside0.mk (below_step HB2.out hb3); have HG3 := Aside0.mk (blk_below HG2.out hb3); clear hb3 q0 q1 q2 q3; have q0 := (blk_cell HG3.out 0).trans (show _ = some (Value.string N) from rfl); have q1 := (blk_cell HG3.out 1).trans (show _ = some (Value.string E) from rfl); have q2 := (blk_cell HG3.out 2).trans (show _ = some (Value.int .i64 (n : Int)) from rfl); have q3 := (blk_cell HG3.out 3).trans (show _ = some (Value.int .i64 z) from rfl); have HG3b := Aside0.mk ((Lib.bytesWorld_at_old w3 5 s g1 (blk_lt HG3.out)).trans HG3.out); have q0b := (blk_cell HG3b.out 0).trans (show _ = some (Value.string N) from rfl); have q1b := (blk_cell HG3b.out 1).trans (show _ = some (Value.string E) from rfl); have q2b := (blk_cell HG3b.out 2).trans (show _ = some (Value.int .i64 (n : Int)) from rfl); have q3b := (blk_cell HG3b.out 3).trans (show _ = some (Value.int .i64 z) from rfl)) | (go_at_call 13; go_must (refine (HD.out _ _ _ (C_to (bytes_reads w3 5 s HSZ.out))).mono ?_); rintro e w4 ⟨rfl, hb4⟩; have HB4 := Aside0.mk (below_step (bytes_below HB3.out HB3.out.size _ _) hb4); have HG4 := Aside0.mk (blk_below HG3b.out hb4); clear hb4 q0 q1 q2 q3; have q0 := (blk_cell HG4.out 0).trans (show _ = some (Value.string N) from rfl); have q1 := (blk_cell HG4.out 1).trans (show _ = some (Value.string E) from rfl); have q2 := (blk_cell HG4.out 2).trans (show _ = some (Value.int .i64 (n : Int)) from rfl); have q3 := (blk_cell HG4.out 3).trans (show _ = some (Value.int .i64 z) from rfl)))
      all_goals go_wp2_with fail
      all_goals go_ret
      all_goals exact ⟨rfl, HB4.out⟩
end Go.Proofs.YtmdffoplfiamlaaDoor.who
