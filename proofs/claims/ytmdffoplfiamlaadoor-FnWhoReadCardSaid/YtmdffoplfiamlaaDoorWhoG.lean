/- Signatures: impl.DecodeWho. -/
import Derived.Test.YtmdffoplfiamlaaDoorWhoF
import Derived.Laws.Rows
namespace Go.Proofs.YtmdffoplfiamlaaDoor.who
open Go.Proofs.YtmdffoplfiamlaaDoor.cuts Go.RowKit Go.Lib Go.Proofs.YtmdffoplfiamlaaDoorW.PrintWords Go.Proofs.YtmdffoplfiamlaaDoorW.PrintLast Go.Proofs.YtmdffoplfiamlaaDoorW.PrintMore Go.Proofs.YtmdffoplfiamlaaDoor.PFnWhoRead
set_option linter.unusedVariables false
set_option linter.unusedSimpArgs false
set_option maxHeartbeats 2000000
set_option maxRecDepth 100000
theorem whoOf_any (N E : ByteArray) (t : Nat) (ht : t < 1099511627776) (zv : Int) (w : World) : Calls Tryd.prog 30 #[.agg #[.string N, .string E, .int .i64 ((t : Int) + 62135596800), .int .i64 0, .int .i64 zv]] w fun e w' => e = .returned (.agg #[.string N, .string E, .int .i64 (t : Int), .int .i64 zv]) ∧ Below w.heap.size w w' := by
  refine impl_whoOf.calls N E _ 0 zv _ _ _ _ w ?_
  unfold impl_whoOf.f zztime_Time_Zone.f zztime_Time_Unix.f
  rw [show (t : Int) + 62135596800 - 62135596800 = (t : Int) by omega, w64_id (x := (t : Int)) (by omega) (by omega)]
  rfl
theorem u8info : (Tryd.prog.info? 5).map (fun i => (i.zero, i.size, i.bytes)) = some (some (.int .u8 0), 1, 1) := by kernel_rfl
theorem decodeWho_any (w : World) (n c : Nat) (N E : ByteArray) (t : Nat) (ds z : List UInt8) (zv : Int) (A : Option Addr) (hN : NameOk N.data.toList) (hE : NameOk E.data.toList) (hs : SecOk ds t) (hz : ZoneOk z zv) (T : List UInt8) (hT : T = N.data.toList ++ 32 :: 60 :: (E.data.toList ++ 62 :: 32 :: (ds ++ 32 :: z))) (hn : T.length = n) (hnm : n ≤ 1000000)
    (hC : (Kd.int .u8).C w A n (bn T)) :
    Calls Tryd.prog 13 #[.slice A n c] w fun e w' => e = .returned (.agg #[.string N, .string E, .int .i64 (t : Int), .int .i64 zv]) ∧ Below w.heap.size w w' := by
  have HC := Aside0.mk hC
  have HN := Aside0.mk hN
  have HE := Aside0.mk hE
  have HS := Aside0.mk hs
  have HZ := Aside0.mk hz
  have HT := Aside0.mk hT
  have HNN := Aside0.mk hn
  have HNM := Aside0.mk hnm
  clear hC hN hE hs hz hT hn hnm
  go_enter Tryd.func13, Tryd.ntmps13
  go_wp2_with (first | ((with_reducible refine gate_dst (N := 2) rfl ?_); refine box_event ?hg2 (N := 2) ?hd2 (cs := #[.string (⟨#[]⟩ : ByteArray), .string (⟨#[]⟩ : ByteArray), .int .i64 0, .int .i64 0]) (t := 37) ?hr2 ?_; (case hd2 => rfl); (case hg2 => rfl); (case hr2 => first | (go_simp; done) | (go_simp; rfl)); intro g2 hg2 wa hbox hb; have HBX2 := Aside0.mk hbox; have HBA := Aside0.mk (show Below w.heap.size w wa from hb); have HG2 := Aside0.mk (show w.heap.size ≤ g2 by rw [hg2]; exact Nat.le_refl _); clear hbox hb hg2) | ((with_reducible refine gate_dst (N := 3) rfl ?_); refine box_event ?hg3 (N := 3) ?hd3 (cs := sgn ⟨#[]⟩ ⟨#[]⟩ 0 0) (t := 64) ?hr3 ?_; (case hd3 => rfl); (case hg3 => rfl); (case hr3 => first | (go_simp; done) | (go_simp; rfl)); intro gs hgs wb hbox hb; have HBXS := Aside0.mk hbox; have HBW := Aside0.mk (show Below w.heap.size w wb from below_step HBA.out hb); have HBX2b := Aside0.mk (blk_below HBX2.out hb); have HGS := Aside0.mk (show g2 < gs by rw [hgs]; exact blk_lt HBX2.out); have HGW := Aside0.mk (show w.heap.size ≤ gs by rw [hgs]; exact HBA.out.size); clear hbox hb hgs) | ((with_reducible refine gate_dst (N := 4) rfl ?_); refine Kd.R_lit (Kd.int .u8) wb.heap.size 5 ?hg4 (N := 4) ?hd4 (w0 := wb) (xs := ([] : List Int)) (inner := []) (ok := fun k => wb.heap.size ≤ k) (okp := fun k => wb.heap.size ≤ k) ?hr4 (Reps.none _ _) (fun _ hk => hk) (Nat.le_refl _) (Below.refl _ _) (Nat.le_refl _) (by decide) ?_; (case hd4 => rfl); (case hg4 => rfl); (case hr4 => first | (go_simp; done) | (go_simp; rfl)); intro v4 w4 hR4 hb4 hg_ hnew_; clear hg_ hnew_; have HR4 := Aside0.mk hR4; have HB4 := Aside0.mk hb4; clear hR4 hb4) | ((with_reducible refine gate_builtin (b := .append) (xs := #[.tmp 4, .tmp 5]) rfl ?_); at_builtin; go_must (refine Kd.R_append_row (Value.int .u8) 0 (w0 := wb) wb.heap.size rfl (.tmp 4) (.tmp 5) 26 5 (.int .u8 0) 1 rfl Tryd.underlying26 u8info rfl (by decide) _ [] (bn T) A n c (fun k => wb.heap.size ≤ k) rfl rfl (fun k hk => Nat.le_trans HB4.out.size hk) HR4.out (Kd.C_below HC.out (below_step HBW.out (HB4.out))) HB4.out HB4.out.size (by have := HNM.out; show (0 + n) * 1 ≤ _; omega) ?_); intro v5 w5 hR5 hb5 _ _; have HR5 := Aside0.mk hR5; have HB5 := Aside0.mk hb5; clear hR5 hb5) | fail)
  obtain ⟨A5, c5, e5, hc5, hC5⟩ := Kd.R_reads HR5.out
  subst e5
  have HF5 := Aside0.mk (Kd.C_foot_ownV (g := gs) (Kd.R_V (base' := 0) HR5.out) (fun k hk e => by have h1 : wb.heap.size ≤ k := hk; have h2 := blk_lt HBXS.out; rw [e] at h1; omega))
  have hl5 : (([] : List Int) ++ bn T) = bn T := List.nil_append _
  have hl6 : (bn T).length = n := by rw [bn_length]; exact HNN.out
  rw [hl5, hl6] at HF5 hC5 hc5
  rw [hl5, hl6]
  have HG5 := Aside0.mk ((HB5.out.block gs (blk_lt HBXS.out)).trans HBXS.out)
  have HG25 := Aside0.mk ((HB5.out.block g2 (blk_lt HBX2b.out)).trans HBX2b.out)
  have HD := Aside0.mk (decode_any w5 gs gs n c5 N E t ds z zv A5 (Nat.le_refl _) HN.out HE.out HS.out HZ.out T HT.out HNN.out hC5 hc5 HF5.out HG5.out)
  have HBw5 := Aside0.mk (below_step HBW.out (HB5.out))
  clear HR5 HR4 HC HF5 hC5 hc5 hl5 hl6
  refine HD.out.mono ?_
  rintro e w6 ⟨rfl, hg6, hb6⟩
  have HG6 := Aside0.mk hg6
  have HG26 := Aside0.mk ((hb6.block g2 HGS.out).trans HG25.out)
  have HB6 := Aside0.mk (HBw5.out.trans (hb6.mono HGW.out))
  clear hg6 hb6 HD
  have q0 := (blk_cell HG6.out 0).trans (show _ = some (Value.string N) from rfl)
  have q1 := (blk_cell HG6.out 1).trans (show _ = some (Value.string E) from rfl)
  have q2 := (blk_cell HG6.out 2).trans (show _ = some (Value.int .i64 ((t : Int) + 62135596800)) from rfl)
  have q3 := (blk_cell HG6.out 3).trans (show _ = some (Value.int .i64 0) from rfl)
  have q4 := (blk_cell HG6.out 4).trans (show _ = some (Value.int .i64 zv) from rfl)
  go_wp2_with fail
  refine (whoOf_any N E t HS.out.small zv _).mono ?_
  rintro e w7 ⟨rfl, hb7⟩
  have HG7 := Aside0.mk (blk_below HG26.out hb7)
  have HB7 := Aside0.mk (below_step HB6.out hb7)
  clear hb7 q0 q1 q2 q3 q4
  have q0 := (blk_cell HG7.out 0).trans (show _ = some (Value.string ⟨#[]⟩) from rfl)
  have q1 := (blk_cell HG7.out 1).trans (show _ = some (Value.string ⟨#[]⟩) from rfl)
  have q2 := (blk_cell HG7.out 2).trans (show _ = some (Value.int .i64 0) from rfl)
  have q3 := (blk_cell HG7.out 3).trans (show _ = some (Value.int .i64 0) from rfl)
  have f0 := blk_frozen HG7.out 0
  have f1 := blk_frozen HG7.out 1
  have f2 := blk_frozen HG7.out 2
  have f3 := blk_frozen HG7.out 3
  go_wp2_with fail
  generalize hW8 : World.setCell _ _ _ = W8
  have HG8 := Aside0.mk (show W8.heap[g2]? = some (.cells #[.string N, .string E, .int .i64 (t : Int), .int .i64 zv] 37 (0, 0)) by rw [← hW8]; exact blk_put (cs := #[.string N, .string E, .int .i64 (t : Int), .int .i64 0]) (blk_put (cs := #[.string N, .string E, .int .i64 0, .int .i64 0]) (blk_put (cs := #[.string N, .string ⟨#[]⟩, .int .i64 0, .int .i64 0]) (blk_put (cs := #[.string ⟨#[]⟩, .string ⟨#[]⟩, .int .i64 0, .int .i64 0]) HG7.out 0 _ rfl) 1 _ rfl) 2 _ rfl) 3 _ rfl)
  have HB8 := Aside0.mk (show Below w.heap.size w W8 by rw [← hW8]; exact below_set (below_set (below_set (below_set HB7.out HG2.out) HG2.out) HG2.out) HG2.out)
  exact bodyPost_ret (results_cell_row rfl _ _ g2 37 #[.string N, .string E, .int .i64 (t : Int), .int .i64 zv] (0, 0) _ rfl HG8.out Tryd.underlying37 rfl (by kernel_rfl)) rfl ⟨rfl, HB8.out⟩
end Go.Proofs.YtmdffoplfiamlaaDoor.who
