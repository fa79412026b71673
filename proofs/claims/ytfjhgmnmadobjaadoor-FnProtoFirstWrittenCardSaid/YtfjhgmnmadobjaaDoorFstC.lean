/- The first line of a conversation: impl.WriteProto. -/
import Derived.Test.YtfjhgmnmadobjaaDoorFstB
namespace Go.Proofs.YtfjhgmnmadobjaaDoor.fst
open Go.RowKit Go.Proofs.YtfjhgmnmadobjaaDoorW.PrintWords Go.Proofs.YtfjhgmnmadobjaaDoorW.PrintLast Go.Proofs.YtfjhgmnmadobjaaDoorW.PrintMore Go.Proofs.YtfjhgmnmadobjaaDoor.PFnProtoFirstWritten Go.Proofs.YtfjhgmnmadobjaaDoor.pkt Go.Proofs.YtfjhgmnmadobjaaDoor.buf Go.Proofs.YtfjhgmnmadobjaaDoor.enc
set_option linter.unusedVariables false
set_option linter.unusedSimpArgs false
set_option maxHeartbeats 2000000
set_option maxRecDepth 100000
theorem infoS : (Tryd.prog.info? 9).map (fun i => (i.zero, i.size, i.bytes)) = some (some (.string ⟨#[]⟩), 1, 16) := by kernel_rfl
theorem writeProto_any (w : World) (c p h : ByteArray) (A : Option Addr) (n cc : Nat) (l : List ByteArray) (ok : FstOk c p h l) (hC : Kd.string.C w A l.length l) (hn : l.length = n) (hcc : n ≤ cc) :
    Calls Tryd.prog 8 #[.string c, .string p, .string h, .slice A n cc] w fun e w' => ∃ A' c', e = .returned (.tuple #[.slice A' (pline (Go.Proofs.YtfjhgmnmadobjaaDoorW.PrintWords.bytesOf (fstT c p h l))).length c', .bool true]) ∧ (pline (Go.Proofs.YtfjhgmnmadobjaaDoorW.PrintWords.bytesOf (fstT c p h l))).length ≤ c' ∧ (Kd.int .u8).C w' A' (pline (Go.Proofs.YtfjhgmnmadobjaaDoorW.PrintWords.bytesOf (fstT c p h l))).length (pline (Go.Proofs.YtfjhgmnmadobjaaDoorW.PrintWords.bytesOf (fstT c p h l))) ∧ Below w.heap.size w w' := by
  have HC := Aside0.mk (show Kd.string.C w A n l from by rw [← hn]; exact hC)
  have HOK := Aside0.mk ok
  have HN := Aside0.mk hn
  have HCC := Aside0.mk hcc
  have HLIM := Aside0.mk (show n ≤ 9 from by have := ok.n; omega)
  obtain ⟨PL, hPL⟩ : ∃ PL, pline (Go.Proofs.YtfjhgmnmadobjaaDoorW.PrintWords.bytesOf (fstT c p h l)) = PL := ⟨_, rfl⟩
  rw [hPL]
  have HPL := Aside0.mk hPL
  clear ok hC hn hcc hPL
  go_enter Tryd.func8, Tryd.ntmps8
  go_wp2_with (first | ((with_reducible refine gate_dst (N := 16) rfl ?_); refine Kd.R_lit Kd.string w.heap.size 9 ?hg16 (N := 16) ?hd16 (w0 := w) (xs := ([] : List ByteArray)) (inner := []) (ok := fun _ => True) (okp := fun _ => True) ?hr16 (Reps.none _ _) (fun _ hk => hk) trivial (Below.refl _ _) (Nat.le_refl _) (by decide) ?_; (case hd16 => rfl); (case hg16 => rfl); (case hr16 => first | (go_simp; done) | (go_simp; rfl)); intro v4 w4 hR4 hb4 hg_ hnew_; clear hg_ hnew_; have HR4 := Aside0.mk hR4; have HB4 := Aside0.mk hb4; clear hR4 hb4) | ((with_reducible refine gate_builtin (b := .append) (xs := #[.tmp 16, .tmp 17]) rfl ?_); at_builtin; go_must (refine Kd.R_append_row Value.string (⟨#[]⟩ : ByteArray) (w0 := w) w.heap.size rfl (.tmp 16) (.tmp 17) 22 9 (.string ⟨#[]⟩) 16 rfl Tryd.underlying22 infoS rfl (by decide) _ ([] : List ByteArray) l A n cc (fun _ => True) rfl rfl (fun _ _ => trivial) HR4.out (Kd.C_below HC.out HB4.out) HB4.out HB4.out.size (by have := HLIM.out; show (0 + n) * 16 ≤ _; omega) ?_); intro v5 w5 hR5 hb5 _ _; have HR5 := Aside0.mk hR5; have HB5 := Aside0.mk hb5; clear hR5 hb5; obtain ⟨A5, c5, e5, hc5, hC5⟩ := Kd.R_reads HR5.out; have HC5 := Aside0.mk (show Kd.string.C w5 A5 l.length l from hC5); have HCC5 := Aside0.mk (show l.length ≤ c5 from hc5); have e6 : v5 = .slice A5 n c5 := (e5.trans (show Value.slice A5 l.length c5 = Value.slice A5 n c5 by rw [HN.out])); subst e6; clear e5 hc5 hC5) | ((with_reducible refine gate_dst (N := 10) rfl ?_); refine box_event ?hg10 (N := 10) ?hd10 (cs := #[.string (⟨#[]⟩ : ByteArray), .string (⟨#[]⟩ : ByteArray), .string (⟨#[]⟩ : ByteArray), .slice none 0 0]) (t := 41) ?hr10 ?_; (case hd10 => rfl); (case hg10 => rfl); (case hr10 => first | (go_simp; done) | (go_simp; rfl)); intro gx hgx wa hbox hb; have HBX := Aside0.mk hbox; have HBa := Aside0.mk (show Below w.heap.size w wa from below_step HB5.out hb); have HBa0 := Aside0.mk hb; have HGX5 := Aside0.mk (show gx = w5.heap.size from hgx); have HGX := Aside0.mk (show w.heap.size ≤ gx by rw [hgx]; exact HB5.out.size); have z0 := (blk_cell HBX.out 0).trans (show _ = some (Value.string ⟨#[]⟩) from rfl); have z1 := (blk_cell HBX.out 1).trans (show _ = some (Value.string ⟨#[]⟩) from rfl); have z2 := (blk_cell HBX.out 2).trans (show _ = some (Value.string ⟨#[]⟩) from rfl); have z3 := (blk_cell HBX.out 3).trans (show _ = some (Value.slice none 0 0) from rfl); have f0 := blk_frozen HBX.out 0; have f1 := blk_frozen HBX.out 1; have f2 := blk_frozen HBX.out 2; have f3 := blk_frozen HBX.out 3; skip; clear hbox hb hgx) | ((with_reducible refine gate_dst (N := 11) rfl ?_); refine box_event ?hg11 (N := 11) ?hd11 (cs := #[.slice none 0 0, .int .i64 0, .int .i8 0]) (t := 45) ?hr11 ?_; (case hd11 => rfl); (case hg11 => rfl); (case hr11 => first | (go_simp; done) | (go_simp; rfl)); intro gb hgb wb hbox hb; have HBUF := Aside0.mk hbox; have HG := Aside0.mk (show wb.heap[gx]? = some (.cells (req c p h A5 n c5) 41 (0, 0)) from blk_below (blk_put (cs := #[.string c, .string p, .string h, .slice none 0 0]) (blk_put (cs := #[.string c, .string p, .string (⟨#[]⟩ : ByteArray), .slice none 0 0]) (blk_put (cs := #[.string c, .string (⟨#[]⟩ : ByteArray), .string (⟨#[]⟩ : ByteArray), .slice none 0 0]) (blk_put (cs := #[.string (⟨#[]⟩ : ByteArray), .string (⟨#[]⟩ : ByteArray), .string (⟨#[]⟩ : ByteArray), .slice none 0 0]) HBX.out 0 _ rfl) 1 _ rfl) 2 _ rfl) 3 _ rfl) hb); have HBb := Aside0.mk (show Below w.heap.size w wb from below_step (below_set (below_set (below_set (below_set HBa.out HGX.out) HGX.out) HGX.out) HGX.out) hb); have HKB := Aside0.mk ((((((KeepBut.of_below HBa0.out gx none).set_ 0 (.string c)).set_ 1 (.string p)).set_ 2 (.string h)).set_ 3 (.slice A5 n c5)).trans (KeepBut.of_below hb gx none) (.inl rfl)); have HGB := Aside0.mk (show w.heap.size ≤ gb by rw [hgb]; exact (below_set (below_set (below_set (below_set HBa.out HGX.out) HGX.out) HGX.out) HGX.out).size); clear hbox hb hgb) | fail)
  have HCB := Aside0.mk (Kd.C_foot_ownV (g := gx) (Kd.R_V (base' := 0) (Kd.R_bound HR5.out)) (fun k hk e => by have h1 := hk.2.2.1; have h2 := HGX5.out; omega) wb HKB.out)
  have HIB := Aside0.mk (show IsB w.heap.size gb (bv []) wb from ⟨HGB.out, .slice none 0 0, 0, HBUF.out, World.ownsRow_nil _ _ _ _, by simp [Value.ownBlock]⟩)
  clear z0 z1 z2 z3 f0 f1 f2 f3 HR5 HR4
  have HENC := Aside0.mk (encodeReq_any wb w.heap.size gx gb c p h A5 n c5 l HOK.out HIB.out HBb.out.size HG.out (by rw [HN.out]; exact HCB.out) HN.out (by have := HCC5.out; rw [HN.out] at this; exact this))
  rw [HPL.out] at HENC
  refine HENC.out.mono ?_
  rintro e w6 ⟨rfl, hq⟩
  have HI6 := Aside0.mk hq.isB
  have HB6 := Aside0.mk (HBb.out.trans hq.below)
  clear hq HENC
  go_wp2_with fail
  go_region_with (go_at_call 18; refine (Tryd.Buffer_Bytes w.heap.size gb (bv ([] ++ PL)) _ (by exact HI6.out)).mono ?_; rintro e w7 ⟨v, rfl, hown, ⟨n7, rfl⟩⟩; rw [List.nil_append, bv_length] at hown; obtain ⟨A7, c7, e7, hc7, hC7⟩ := Kd.R_reads (Kd.R_of_own (enc := Value.int .u8) (h1 := fun _ => rfl) (xs := PL) (ok := fun _ => True) hown (fun _ _ => trivial)); subst e7; have Q7 := Aside0.mk (And.intro hc7 hC7); clear hown hc7 hC7)
  all_goals go_wp2_with fail
  all_goals go_ret2
  all_goals exact ⟨A7, c7, rfl, Q7.out.1, Q7.out.2, by first | exact pw_below_drewN HB6.out _ | exact pw_below_drewN (below_drew HB6.out) _ | exact below_drew (pw_below_drewN HB6.out _) | exact ⟨HB6.out.os, HB6.out.tape, HB6.out.output, HB6.out.size, HB6.out.block⟩⟩
end Go.Proofs.YtfjhgmnmadobjaaDoor.fst
