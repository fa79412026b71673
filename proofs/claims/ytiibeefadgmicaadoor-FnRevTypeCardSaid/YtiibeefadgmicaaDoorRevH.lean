/- Revisions: bufio.Reader.ReadRune at the end. -/
import Derived.Test.YtiibeefadgmicaaDoorRevF
namespace Go.Proofs.YtiibeefadgmicaaDoor.rev
open Go.RowKit Go.Proofs.YtiibeefadgmicaaDoorW.PrintWords Go.Proofs.YtiibeefadgmicaaDoorW.PrintLast Go.Proofs.YtiibeefadgmicaaDoorW.PrintMore Go.Proofs.YtiibeefadgmicaaDoor.PFnRevSteps
set_option linter.unusedVariables false
set_option linter.unusedSimpArgs false
set_option maxHeartbeats 2000000
set_option maxRecDepth 100000
theorem readRune_nil (w : World) (d : Ad) (hD : Dis d) (ea : Addr) (b : Option UInt8) (hT : Tabs w ea) (h : AtR w d [] b) :
    Calls Tryd.prog 45 #[.pointer (some ⟨d.gr, 0, none⟩)] w fun e w' => e = .returned (.tuple #[.int .i32 0, .int .i64 0, .iface 145 (.pointer (some ea))]) ∧ Off d.S w w' ∧ AtR w' d [] none := by
  have HST : Aside0 (∃ r lr, Loaded w d [] r .nilIface lr) := ⟨by
    rcases h with ⟨h, _⟩ | ⟨r, lr, h, _⟩
    · exact absurd h.pos (Nat.lt_irrefl 0)
    · exact ⟨r, lr, h⟩⟩
  have HT := Aside0.mk hT
  have HD := Aside0.mk hD
  obtain ⟨gr, hg⟩ : ∃ gr, d.gr = gr := ⟨_, rfl⟩
  have HG := Aside0.mk hg
  obtain ⟨gb, hgb⟩ : ∃ gb, d.gb = gb := ⟨_, rfl⟩
  have HGB := Aside0.mk hgb
  rw [hg]
  clear h hT hD hg hgb
  go_enter Tryd.func45, Tryd.ntmps45
  go_wp2_with fail
  go_loopg [5] 2 (fun kq v5 w' => Aside0 (Off d.S w w') ∧ Aside0 ((kq = 2 ∧ ∃ r lr, Loaded w' d [] r .nilIface lr) ∨ (kq = 1 ∧ ∃ lr, Loaded w' d [] 0 (.iface 145 (.pointer (some ea))) lr)))
  case atStart => exact ⟨⟨Off.refl _ _⟩, ⟨.inl ⟨rfl, HST.out⟩⟩⟩
  case round =>
    obtain ⟨HO, HS⟩ := hrel
    rcases HS.out with ⟨hk, r, lr, hL⟩ | ⟨hk, lr, hL⟩
    · subst hk
      obtain ⟨lb, hr⟩ := hL.hr
      rw [HG.out, HGB.out, List.length_nil, Nat.add_zero] at hr
      have hmx := hL.max
      rw [List.length_nil, Nat.add_zero] at hmx
      have HL := Aside0.mk hL
      have q0 := (blk_cell hr 0).trans (show _ = some (Value.slice (some ⟨gb, 0, none⟩) 4096 4096) from rfl)
      have q2 := (blk_cell hr 2).trans (show _ = some (Value.int .i64 (r : Int)) from rfl)
      have q3 := (blk_cell hr 3).trans (show _ = some (Value.int .i64 (r : Int)) from rfl)
      have q4 := (blk_cell hr 4).trans (show _ = some Value.nilIface from rfl)
      have w1 : wrap64 ((r : Int) + 4) = (r : Int) + 4 := w64 (by omega) (by omega)
      have c1 : decide ((r : Int) < (r : Int) + 4) = true := decide_eq_true (by omega)
      have v0 : (0 : Int) ≤ (r : Int) := by omega
      have v1 : (r : Int) ≤ (r : Int) := by omega
      have v2 : (r : Int) ≤ (4096 : Int) := by omega
      have v3 : r ≤ 4096 := by omega
      have v4 : (4096 = r) = False := eq_false (by omega)
      have w2 : ((r : Int) - (r : Int)) = 0 := by omega
      have w3 : wrap64 0 = 0 := by unfold wrap64; omega
      have w4 : r - r = 0 := Nat.sub_self r
      clear hL hr HS HST
      go_wp2_with fail
      go_quiet ((go_at_call 60; exact Calls.quiet_of_same (fullRune_nil _ _ _)))
      go_wp2_with fail
      clear q0 q2 q3 q4
      have HL1 := Aside0.mk (HL.out.off (S := fun _ => False) (w' := wr.drewN nq) ((Off.refl _ wr).drewN nq) ⟨id, id, id, id⟩)
      have HO1 := Aside0.mk (HO.out.drewN nq)
      generalize wr.drewN nq = W1 at HL1 HO1
      have HFI := fill_ended W1 d HD.out r lr ea HL1.out (HT.out.off HO1.out HD.out.S16)
      rw [HG.out] at HFI
      refine HFI.mono ?_
      rintro e w2 ⟨rfl, ho2, hL2⟩
      have HO2 := Aside0.mk (HO1.out.trans ho2)
      have HL2 := Aside0.mk hL2
      clear HFI ho2 hL2
      go_wp2_with fail
      go_roundg 1
      case measure => omega
      case rel => exact ⟨HO2, ⟨.inr ⟨rfl, _, HL2.out⟩⟩⟩
    · subst hk
      obtain ⟨lb, hr⟩ := hL.hr
      rw [HG.out, HGB.out, List.length_nil, Nat.add_zero] at hr
      have HL := Aside0.mk hL
      have HR := Aside0.mk hr
      have q0 := (blk_cell hr 0).trans (show _ = some (Value.slice (some ⟨gb, 0, none⟩) 4096 4096) from rfl)
      have q2 := (blk_cell hr 2).trans (show _ = some (Value.int .i64 0) from rfl)
      have q3 := (blk_cell hr 3).trans (show _ = some (Value.int .i64 0) from rfl)
      have q4 := (blk_cell hr 4).trans (show _ = some (Value.iface 145 (.pointer (some ea))) from rfl)
      clear hL hr HS HST
      go_wp2_with fail
      go_quiet ((go_at_call 60; exact Calls.quiet_of_same (fullRune_nil _ _ _)))
      clear q0 q2 q3 q4
      have HL1 := Aside0.mk (HL.out.off (S := fun _ => False) (w' := wr.drewN nq) ((Off.refl _ wr).drewN nq) ⟨id, id, id, id⟩)
      have HO1 := Aside0.mk (HO.out.drewN nq)
      have HR1 := Aside0.mk (show (wr.drewN nq).heap[gr]? = _ from HR.out)
      generalize wr.drewN nq = W1 at HL1 HO1 HR1
      clear HL HO HR
      have q6 := (blk_cell HR1.out 6).trans (show _ = some (Value.int .i64 lr) from rfl)
      have f6 := blk_frozen HR1.out 6
      go_wp2_with fail
      have HR2 := Aside0.mk (blk_put HR1.out 6 (.int .i64 (-1)) rfl)
      have HL2 := Aside0.mk (show Loaded (W1.setCell ⟨d.gr, 6, none⟩ (.int .i64 (-1))) d [] 0 (.iface 145 (.pointer (some ea))) (-1) from HL1.out.set HD.out lb (fun j hj => Below.heap_setCell _ ⟨d.gr, 6, none⟩ _ j hj) (by rw [HG.out, HGB.out]; exact HR2.out) (fun cur hx hb j v hj => by cases hj) (by decide))
      have HO2 := Aside0.mk ((HO1.out.cell (g := d.gr) (by simp [Ad.S, In]) 6 (.int .i64 (-1))))
      rw [HG.out] at HO2 HL2
      generalize W1.setCell ⟨gr, 6, none⟩ (.int .i64 (-1)) = W2 at HR2 HO2 HL2
      clear q6 f6
      have q2 := (blk_cell HR2.out 2).trans (show _ = some (Value.int .i64 0) from rfl)
      have q3 := (blk_cell HR2.out 3).trans (show _ = some (Value.int .i64 0) from rfl)
      go_quiet (fail)
      go_wp2_with fail
      have HL3 := Aside0.mk (HL2.out.off (S := fun _ => False) (w' := W2.drewN nq) ((Off.refl _ W2).drewN nq) ⟨id, id, id, id⟩)
      have HO3 := Aside0.mk (HO2.out.drewN nq)
      generalize W2.drewN nq = W3 at HL3 HO3
      have HRE := readErr_any W3 d HD.out 0 (-1) ea HL3.out
      rw [HG.out] at HRE
      refine HRE.mono ?_
      rintro e w4 ⟨rfl, ho4, hL4⟩
      have HO4 := Aside0.mk (HO3.out.trans ho4)
      have HL4 := Aside0.mk hL4
      clear HRE ho4 hL4
      go_wp2_with fail
      go_ret3
      exact ⟨rfl, HO4.out, .inr ⟨0, -1, HL4.out, fun x hx => by cases hx⟩⟩
end Go.Proofs.YtiibeefadgmicaaDoor.rev
