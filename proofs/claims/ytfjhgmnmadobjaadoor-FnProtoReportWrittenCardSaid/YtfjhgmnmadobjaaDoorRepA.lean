/- A report: CommandStatus.encode, ReportStatus.Encode. -/
import Derived.Test.YtfjhgmnmadobjaaDoorRepP
import Derived.Deep.DeepMust
namespace Go.Proofs.YtfjhgmnmadobjaaDoor.rep
open Go.RowKit Go.Proofs.YtfjhgmnmadobjaaDoorW.PrintWords Go.Proofs.YtfjhgmnmadobjaaDoorW.PrintLast Go.Proofs.YtfjhgmnmadobjaaDoorW.PrintMore Go.Proofs.YtfjhgmnmadobjaaDoor.PFnProtoReportWritten Go.Proofs.YtfjhgmnmadobjaaDoor.pkt Go.Proofs.YtfjhgmnmadobjaaDoor.buf Go.Proofs.YtfjhgmnmadobjaaDoor.enc Go.Proofs.YtfjhgmnmadobjaaDoor.ptr
set_option linter.unusedVariables false
set_option linter.unusedSimpArgs false
set_option maxHeartbeats 2000000
set_option maxRecDepth 100000
/-- What the encoder's EncodeString does with a text in a row of its own. -/
theorem encStr_new (B gb ge : Nat) (bs : List Int) (s : ByteArray) (W : World) (hI : IsB B gb (bv bs) W) (hB : B ≤ W.heap.size) (hE : IsEnc W ge gb) (h0 : 0 < s.size) (h1 : s.size ≤ 65516) (hlim : bs.length ≤ 1000000000) :
    Calls Tryd.prog 33 #[.pointer (some ⟨ge, 0, none⟩), .slice (some ⟨W.heap.size, 0, none⟩) 1 1] (W.alloc (.cells #[.string s] 9 (0, 0))) (WPost B gb bs (pline (Go.Proofs.YtfjhgmnmadobjaaDoorW.PrintWords.bytesOf s)) W) := by
  have hb := below_alloc (Below.refl W.heap.size W) (.cells #[.string s] 9 (0, 0))
  refine (encodeString_any B gb ge W.heap.size bs s _ (IsB.below hI hb) (Nat.le_trans hB hb.size) (hE.below hb) h0 h1 hlim (by rw [blk_cell (heap_alloc_new W (.cells #[.string s] 9 (0, 0)))]; rfl)).mono ?_
  rintro e w' ⟨rfl, h⟩
  exact ⟨rfl, Wrote.after hB hb h⟩
def CsBlk (w : World) (gc : Nat) (x : S53) : Prop := w.heap[gc]? = some (.cells #[.string x.f0, .string x.f1] 63 (0, 0))
theorem name_any (s : ByteArray) (w : World) : Calls Tryd.prog 43 #[.string s] w fun e w' => e = .returned (.string s) ∧ w = w' := by
  go_enter Tryd.func43, Tryd.ntmps43
  go_wp2_with fail
  go_ret
  exact ⟨rfl, rfl⟩
theorem errNew_any (s : ByteArray) (w : World) : Calls Tryd.prog 52 #[.string s] w fun e w' => ∃ t v, e = .returned (.iface t v) ∧ Below w.heap.size w w' := by
  go_enter Tryd.func52, Tryd.ntmps52
  go_wp2_with fail
  go_ret
  exact ⟨_, _, rfl, below_alloc (Below.refl _ _) _⟩
theorem error_ok (w : World) (gc : Nat) (x : S53) (hG : CsBlk w gc x) (hx : x.f1 = okT) : Calls Tryd.prog 42 #[.pointer (some ⟨gc, 0, none⟩)] w fun e w' => e = .returned .nilIface ∧ w = w' := by
  have q1 := (blk_cell hG 1).trans (show _ = some (Value.string okT) from by rw [← hx]; rfl)
  unfold okT at q1
  clear hG hx
  go_enter Tryd.func42, Tryd.ntmps42
  go_wp2_with fail
  go_ret
  exact ⟨rfl, rfl⟩
theorem error_ng (w : World) (gc : Nat) (x : S53) (hG : CsBlk w gc x) (hx : x.f1.toList ≠ [111, 107]) : Calls Tryd.prog 42 #[.pointer (some ⟨gc, 0, none⟩)] w fun e w' => ∃ t v, e = .returned (.iface t v) ∧ Below w.heap.size w w' := by
  have q1 := (blk_cell hG 1).trans (show _ = some (Value.string x.f1) from rfl)
  have i1 : (x.f1.toList == [111, 107]) = false := beq_eq_false_iff_ne.2 hx
  clear hG
  go_enter Tryd.func42, Tryd.ntmps42
  go_wp2_with fail
  refine (errNew_any _ _).mono ?_
  rintro e w1 ⟨t, v, rfl, hb⟩
  have HB := Aside0.mk hb
  clear hb
  go_wp2_with fail
  go_ret
  exact ⟨t, v, rfl, HB.out⟩
theorem toList_ok {s : ByteArray} (h : s.toList = [111, 107]) : s = okT := by
  rw [ByteArray.toList_eq] at h
  apply ByteArray.ext
  apply Array.toList_inj.1
  rw [h]; rfl
theorem csEncode_any (w : World) (B gb gc : Nat) (bs : List Int) (x : S53) (hI : IsB B gb (bv bs) w) (hB : B ≤ w.heap.size) (hG : CsBlk w gc x) (hx : Ok1 x) (hlim : bs.length ≤ 1000000000) :
    Calls Tryd.prog 34 #[.pointer (some ⟨gc, 0, none⟩), .iface 49 (.pointer (some ⟨gb, 0, none⟩))] w (WPost B gb bs (pline (Go.Proofs.YtfjhgmnmadobjaaDoorW.PrintWords.bytesOf (stT x))) w) := by
  have h1 := hx.1
  have h2 := hx.2
  have HI := Aside0.mk hI
  have HB := Aside0.mk hB
  have HG := Aside0.mk hG
  have HLIM := Aside0.mk hlim
  have HSZ := Aside0.mk (stT_size hx)
  by_cases hk : x.f1.toList = [111, 107]
  · have HT := Aside0.mk (show lineO x.f0 = stT x from (if_pos hk).symm)
    have hxo := toList_ok hk
    have HXO := Aside0.mk hxo
    unfold lineO at HT
    have r0 : 3 + x.f0.size ≤ 9223372036854775807 := by omega
    have r0a := eq_true r0
    have r0b := decide_eq_true r0
    have r0c := eq_false (Nat.not_lt.2 r0)
    have r1 : 3 + x.f0.size + 1 ≤ 9223372036854775807 := by omega
    have r1a := eq_true r1
    have r1b := decide_eq_true r1
    have r1c := eq_false (Nat.not_lt.2 r1)
    clear hI hB hG hlim hx hxo hk
    go_enter Tryd.func34, Tryd.ntmps34
    go_wp2_with fail
    refine (newEnc_any _ gb).mono ?_
    rintro e w1 ⟨ge, hge, rfl, hE1, hb1⟩
    have HE1 := Aside0.mk hE1
    have HB1 := Aside0.mk hb1
    have HG1 := Aside0.mk (show CsBlk w1 gc x from blk_below HG.out hb1)
    clear hge hE1 hb1
    go_wp2_with fail
    refine (error_ok _ gc x HG1.out HXO.out).mono ?_
    rintro e w2 ⟨rfl, rfl⟩
    have q0 := (blk_cell HG1.out 0).trans (show _ = some (Value.string x.f0) from rfl)
    go_wp2_with fail
    refine (name_any _ _).mono ?_
    rintro e w2 ⟨rfl, rfl⟩
    go_wp2_with fail
    refine (encStr_new B gb ge bs _ _ (IsB.below HI.out HB1.out) (Nat.le_trans HB.out HB1.out.size) HE1.out (by rw [HT.out]; exact HSZ.out.1) (by rw [HT.out]; have := HSZ.out.2; omega) HLIM.out).mono ?_
    rintro e w3 hq
    rw [HT.out] at hq
    obtain ⟨rfl, hq⟩ := hq
    have HQ := Aside0.mk (Wrote.after HB.out HB1.out hq)
    clear hq
    go_wp2_with fail
    go_ret
    exact ⟨rfl, HQ.out⟩
  · have HT := Aside0.mk (show lineN x.f0 x.f1 = stT x from (if_neg hk).symm)
    have HXN := Aside0.mk hk
    unfold lineN at HT
    have r0 : 3 + x.f0.size ≤ 9223372036854775807 := by omega
    have r0a := eq_true r0
    have r0b := decide_eq_true r0
    have r0c := eq_false (Nat.not_lt.2 r0)
    have r1 : 3 + x.f0.size + 1 ≤ 9223372036854775807 := by omega
    have r1a := eq_true r1
    have r1b := decide_eq_true r1
    have r1c := eq_false (Nat.not_lt.2 r1)
    have r2 : 3 + x.f0.size + 1 + x.f1.size ≤ 9223372036854775807 := by omega
    have r2a := eq_true r2
    have r2b := decide_eq_true r2
    have r2c := eq_false (Nat.not_lt.2 r2)
    have r3 : 3 + x.f0.size + 1 + x.f1.size + 1 ≤ 9223372036854775807 := by omega
    have r3a := eq_true r3
    have r3b := decide_eq_true r3
    have r3c := eq_false (Nat.not_lt.2 r3)
    clear hI hB hG hlim hx hk
    go_enter Tryd.func34, Tryd.ntmps34
    go_wp2_with fail
    refine (newEnc_any _ gb).mono ?_
    rintro e w1 ⟨ge, hge, rfl, hE1, hb1⟩
    have HE1 := Aside0.mk hE1
    have HB1 := Aside0.mk hb1
    have HG1 := Aside0.mk (show CsBlk w1 gc x from blk_below HG.out hb1)
    clear hge hE1 hb1
    go_wp2_with fail
    refine (error_ng _ gc x HG1.out HXN.out).mono ?_
    rintro e w2 ⟨te, ve, rfl, hb2⟩
    have HE2 := Aside0.mk (HE1.out.below hb2)
    have HB2 := Aside0.mk (below_step HB1.out hb2)
    have HG2 := Aside0.mk (show CsBlk w2 gc x from blk_below HG1.out hb2)
    clear hb2
    have q0 := (blk_cell HG2.out 0).trans (show _ = some (Value.string x.f0) from rfl)
    have q1 := (blk_cell HG2.out 1).trans (show _ = some (Value.string x.f1) from rfl)
    go_wp2_with fail
    go_region_with (first | (go_at_call 43; refine (name_any _ _).mono ?_; rintro e w3 ⟨rfl, rfl⟩) | (go_at_call 33; go_must (refine (encStr_new B gb ge bs _ w2.drew (IsB.below HI.out (show Below w.heap.size w w2.drew from below_drew HB2.out)) (Nat.le_trans HB.out HB2.out.size) (show IsEnc w2.drew ge gb from HE2.out) (by rw [HT.out]; exact HSZ.out.1) (by rw [HT.out]; have := HSZ.out.2; omega) HLIM.out).mono ?_); rintro e w3 hq; rw [HT.out] at hq; obtain ⟨rfl, hq⟩ := hq; have HQ := Aside0.mk (Wrote.after HB.out (show Below w.heap.size w w2.drew from below_drew HB2.out) hq); clear hq))
    all_goals go_wp2_with fail
    all_goals go_ret
    all_goals exact ⟨rfl, HQ.out⟩
end Go.Proofs.YtfjhgmnmadobjaaDoor.rep
