/- (*bytes.Buffer).WriteTo into a MemoryObject; io.CopyBuffer of such. io.CopyBuffer of a bytes.Buffer into a MemoryObject; what ApplyDelta defers. packfile.ApplyDelta of two MemoryObjects. impl.Apply. -/
import Derived.Test.YtghcecngdhcjpaaDoorRq
import Derived.Stop.Asserts
import Derived.Laws.Cover3
import Derived.Deep.RegionHeld3
namespace Go.Proofs.YtghcecngdhcjpaaDoor.rf
section
open Go.RowKit Go.Proofs.YtghcecngdhcjpaaDoorW.PrintWords Go.Proofs.YtghcecngdhcjpaaDoorW.PrintLast Go.Proofs.YtghcecngdhcjpaaDoorW.PrintMore Go.Proofs.YtghcecngdhcjpaaDoor.off Go.Proofs.YtghcecngdhcjpaaDoor.bf Go.Proofs.YtghcecngdhcjpaaDoor.pkt Go.Proofs.YtghcecngdhcjpaaDoor.mo
set_option linter.unusedVariables false
set_option linter.unusedSimpArgs false
set_option maxHeartbeats 4000000
set_option maxRecDepth 100000
def buC (A : Option Addr) (n c off : Nat) (op : Int) : Array Value := #[.slice A n c, .int .i64 (off : Int), .int .i8 op]
theorem bufReset_any (w : World) (gu n c off : Nat) (A : Option Addr) (op : Int) (hn : n ≤ c) (hU : w.heap[gu]? = some (.cells (buC A n c off op) 47 (0, 0))) :
    Calls Tryd.prog 63 #[.pointer (some ⟨gu, 0, none⟩)] w fun e w' => e = .returned (.tuple #[]) ∧ Off (fun k => k = gu) w w' := by
  have q0 := (blk_cell hU 0).trans (show _ = some (Value.slice A n c) from rfl)
  have q1 := (blk_cell hU 1).trans (show _ = some (Value.int .i64 (off : Int)) from rfl)
  have q2 := (blk_cell hU 2).trans (show _ = some (Value.int .i8 op) from rfl)
  have f0 := blk_frozen hU 0
  have f1 := blk_frozen hU 1
  have f2 := blk_frozen hU 2
  clear hU
  go_enter Tryd.func63, Tryd.ntmps63
  go_wp2
  refine bodyPost_end (results_none rfl _ _ _) rfl ?_
  exact ⟨rfl, (((Off.refl (fun k => k = gu) w).cell rfl 0 _).cell rfl 1 _).cell rfl 2 _⟩
theorem writeTo_any (w : World) (b go : Nat) (v : Value) (bs : List Value) (marr : Array Value) (vm : Value) (xs : List Value) (hF : Bf w b v bs) (h1 : ∀ u ∈ bs, u.oneCell' = true) (h0 : 0 < bs.length) (hM : Mo w go marr vm xs) (hap : ∀ k, Ob go vm k → ¬ Of b v k) (hlim : xs.length + bs.length ≤ 140737488355328) :
    Calls Tryd.prog 117 #[.pointer (some ⟨b, 0, none⟩), .iface 78 (.pointer (some ⟨go, 0, none⟩))] w fun e w' => e = .returned (.tuple #[.int .i64 (bs.length : Int), .nilIface]) ∧ ∃ marr' v', Mo w' go marr' v' (xs ++ bs) ∧ Off (fun k => k = b ∨ Ob go vm k) w w' ∧ (v'.ownBlock = vm.ownBlock ∨ ∃ q, v'.ownBlock = some q ∧ w.heap.size ≤ q) := by
  obtain ⟨lr, c2⟩ := hF.c2
  have f2 := hF.f0 2
  obtain ⟨n, hn⟩ : ∃ n, bs.length = n := ⟨_, rfl⟩
  have hF0 := hF.last 0
  have ho0 : Off (fun k => k = b) w (w.setCell ⟨b, 2, none⟩ (.int .i8 0)) := (Off.refl (fun k => k = b) _).cell rfl 2 _
  have hM0 : Mo (w.setCell ⟨b, 2, none⟩ (.int .i8 0)) go marr vm xs := hM.off ho0 (fun k hk e => hap k hk (.inl e))
  obtain ⟨W0, hW0⟩ : ∃ W0, w.setCell ⟨b, 2, none⟩ (.int .i8 0) = W0 := ⟨_, rfl⟩
  rw [hW0] at hF0 ho0 hM0
  obtain ⟨lr0, hbk0, hown0, hne0⟩ := hF0.open_
  obtain ⟨g, cap, cur, rfl, hg0, hnc, hcm, hcs, htk⟩ : ∃ g cap, ∃ cur : Array Value, v = .slice (some ⟨g, 0, none⟩) n cap ∧ W0.heap[g]? = some (.cells cur 5 (0, 0)) ∧ n ≤ cap ∧ cap ≤ maxLen ∧ cur.size = cap ∧ cur.toList.take n = bs := by
    rcases hown0.2 with ⟨_, h⟩ | ⟨g, cap, cur, e, _, h2, h3, h4, h5, h6⟩
    · omega
    · rw [Nat.mul_one] at h5 h6
      rw [hn] at e h3 h6
      exact ⟨g, cap, cur, e, h2, h3, h4, h5, h6⟩
  have hIs := hF0.isB
  have hn1 := mo_nil ⟨go, 0, none⟩ "Write" (.inr (.inr (.inr (.inr rfl))))
  have hm1 := mo_write ⟨go, 0, none⟩
  have HF0 := Aside0.mk hF0
  have HM0 := Aside0.mk hM0
  have HO0 := Aside0.mk ho0
  have HAP := Aside0.mk hap
  have HBK0 := Aside0.mk hbk0
  have HG0 := Aside0.mk hg0
  have HTK := Aside0.mk htk
  have HCS := Aside0.mk hcs
  have HN := Aside0.mk hn
  have H1 := Aside0.mk h1
  have hn0 : 0 < n := by omega
  have c0 : decide ((0 : Int) < (n : Int)) = true := decide_eq_true (by omega)
  have c0' : decide (0 < n) = true := decide_eq_true hn0
  rw [hn] at hlim ⊢
  clear hF hM hap hF0 hM0 ho0 hbk0 hg0 htk hcs hn h1 h0 hown0 hne0
  go_enter Tryd.func117, Tryd.ntmps117
  go_wp2_with fail
  clear c2 f2
  refine (Tryd.Buffer_Len 0 b bs W0 hIs).mono ?_
  rintro e W1 ⟨rfl, k1, hW1⟩
  rw [HN.out]
  have HBK1 := Aside0.mk (show W1.heap[b]? = some (.cells #[.slice (some ⟨g, 0, none⟩) n cap, .int .i64 0, .int .i8 lr0] 47 (0, 0)) by rw [hW1]; exact HBK0.out)
  have HM1 := Aside0.mk (show Mo W1 go marr vm xs by rw [hW1]; exact HM0.out.off (S := fun _ => False) ((Off.refl _ _).drewN _) (fun _ _ h => h))
  have HG1 := Aside0.mk (show W1.heap[g]? = some (.cells cur 5 (0, 0)) by rw [hW1]; exact HG0.out)
  have HO1 := Aside0.mk (show Off (fun k => k = b) w W1 by rw [hW1]; exact HO0.out.drewN _)
  clear hW1 hIs HBK0 HM0 HG0 HF0
  have HW := Aside0.mk (mo.write_any W1.drew go marr vm xs bs (some ⟨g, 0, none⟩) n cap (HM1.out.off (S := fun _ => False) (Off.refl _ _).drew (fun _ _ h => h)) (src_row (cur := cur.toList) (tb := 5) (by rw [Array.toArray_toList]; exact HG1.out) n bs HTK.out HN.out H1.out) hlim)
  have hci : (cap = 0) = False := eq_false (by omega)
  have v1 : (0 : Int) ≤ (n : Int) := by omega
  have v2 : (n : Int) ≤ (cap : Int) := by omega
  go_wp2_with fail
  refine start_ (n := 19) (S := fun w' => w'.cell? ⟨b, 0, none⟩ = some (.slice (some ⟨g, 0, none⟩) n cap) ∧ w'.cell? ⟨b, 1, none⟩ = some (.int .i64 0)) (ds := [13]) #[false, false, false, false, false, false, false, false, false, false, false, false, false, false, false, false, false, false, false] (by kernel_rfl) rfl rfl ⟨(blk_cell (blk_drew HBK1.out) 0).trans rfl, (blk_cell (blk_drew HBK1.out) 1).trans rfl⟩ (fun hHeld => ?_)
  refine pure_ (i := 0) (N := some 17) (v := ?_) (a' := ?_) #[true, false, false, false, false, false, false, false, false, false, false, false, false, false, false, false, false, false, false] rfl rfl (by kernel_rfl) (fun _ _ _ h => h) (Or.inl ⟨by rfl, ?_⟩) ?_ ?_
  rotate_left
  · intro w'
    go_simp
    with_reducible rfl
  rotate_left
  · simp only [Act.put, List.setIfInBounds_toArray, List.set_cons_zero, List.set_cons_succ, i64_w, i32_w]
    rfl
  refine pure_ (i := 1) (N := some 18) (v := ?_) (a' := ?_) #[true, true, false, false, false, false, false, false, false, false, false, false, false, false, false, false, false, false, false] rfl rfl (by kernel_rfl) (fun _ _ _ h => h) (Or.inl ⟨by rfl, ?_⟩) ?_ ?_
  rotate_left
  · intro w'
    go_simp
    with_reducible rfl
  rotate_left
  · simp only [Act.put, List.setIfInBounds_toArray, List.set_cons_zero, List.set_cons_succ, i64_w, i32_w]
    rfl
  refine pure_ (i := 2) (N := some 19) (v := ?_) (a' := ?_) #[true, true, true, false, false, false, false, false, false, false, false, false, false, false, false, false, false, false, false] rfl rfl (by kernel_rfl) (fun _ _ _ h => h) (Or.inl ⟨by rfl, ?_⟩) ?_ ?_
  rotate_left
  · intro w'
    go_simp
    with_reducible rfl
  rotate_left
  · simp only [Act.put, List.setIfInBounds_toArray, List.set_cons_zero, List.set_cons_succ, i64_w, i32_w]
    rfl
  refine pure_ (i := 3) (N := some 20) (v := ?_) (a' := ?_) #[true, true, true, true, false, false, false, false, false, false, false, false, false, false, false, false, false, false, false] rfl rfl (by kernel_rfl) (fun _ _ _ h => h) (Or.inl ⟨by rfl, ?_⟩) ?_ ?_
  rotate_left
  · intro w'
    go_simp
    with_reducible rfl
  rotate_left
  · simp only [Act.put, List.setIfInBounds_toArray, List.set_cons_zero, List.set_cons_succ, i64_w, i32_w]
    rfl
  refine pure_ (i := 5) (N := some 22) (v := ?_) (a' := ?_) #[true, true, true, true, false, true, false, false, false, false, false, false, false, false, false, false, false, false, false] rfl rfl (by kernel_rfl) (fun _ _ _ h => h) (Or.inl ⟨by rfl, ?_⟩) ?_ ?_
  rotate_left
  · intro w'
    go_simp
    with_reducible rfl
  rotate_left
  · simp only [Act.put, List.setIfInBounds_toArray, List.set_cons_zero, List.set_cons_succ, i64_w, i32_w]
    rfl
  refine pure_ (i := 6) (N := some 23) (v := ?_) (a' := ?_) #[true, true, true, true, false, true, true, false, false, false, false, false, false, false, false, false, false, false, false] rfl rfl (by kernel_rfl) (fun _ _ _ h => h) (Or.inl ⟨by rfl, ?_⟩) ?_ ?_
  rotate_left
  · intro w'
    go_simp
    with_reducible rfl
  rotate_left
  · simp only [Act.put, List.setIfInBounds_toArray, List.set_cons_zero, List.set_cons_succ, i64_w, i32_w]
    rfl
  refine pure_ (i := 7) (N := some 24) (v := ?_) (a' := ?_) #[true, true, true, true, false, true, true, true, false, false, false, false, false, false, false, false, false, false, false] rfl rfl (by kernel_rfl) (fun _ _ _ h => h) (Or.inl ⟨by rfl, ?_⟩) ?_ ?_
  rotate_left
  · intro w'
    go_simp
    with_reducible rfl
  rotate_left
  · simp only [Act.put, List.setIfInBounds_toArray, List.set_cons_zero, List.set_cons_succ, i64_w, i32_w]
    rfl
  refine pure_ (i := 10) (N := some 27) (v := ?_) (a' := ?_) #[true, true, true, true, false, true, true, true, false, false, true, false, false, false, false, false, false, false, false] rfl rfl (by kernel_rfl) (fun _ _ _ h => h) (Or.inl ⟨by rfl, ?_⟩) ?_ ?_
  rotate_left
  · intro w'
    go_simp
    with_reducible rfl
  rotate_left
  · simp only [Act.put, List.setIfInBounds_toArray, List.set_cons_zero, List.set_cons_succ, i64_w, i32_w]
    rfl
  refine pure_ (i := 11) (N := some 28) (v := ?_) (a' := ?_) #[true, true, true, true, false, true, true, true, false, false, true, true, false, false, false, false, false, false, false] rfl rfl (by kernel_rfl) (fun _ _ _ h => h) (Or.inl ⟨by rfl, ?_⟩) ?_ ?_
  rotate_left
  · intro w'
    go_simp
    with_reducible rfl
  rotate_left
  · simp only [Act.put, List.setIfInBounds_toArray, List.set_cons_zero, List.set_cons_succ, i64_w, i32_w]
    rfl
  refine pure_ (i := 12) (N := some 29) (v := ?_) (a' := ?_) #[true, true, true, true, false, true, true, true, false, false, true, true, true, false, false, false, false, false, false] rfl rfl (by kernel_rfl) (fun _ _ _ h => h) (Or.inl ⟨by rfl, ?_⟩) ?_ ?_
  rotate_left
  · intro w'
    go_simp
    with_reducible rfl
  rotate_left
  · simp only [Act.put, List.setIfInBounds_toArray, List.set_cons_zero, List.set_cons_succ, i64_w, i32_w]
    rfl
  refine take_ (i := 4) (N := some 21) (v := ?_) (a' := ?_) #[true, true, true, true, true, true, true, true, false, false, true, true, true, false, false, false, false, false, false] rfl rfl (by kernel_rfl) (fun _ _ _ h => h) (Or.inl ⟨by rfl, ?_⟩) hHeld ?_ ?_
  rotate_left
  · rintro w' ⟨s0, s1⟩
    go_simp
    with_reducible rfl
  rotate_left
  · simp only [Act.put, List.setIfInBounds_toArray, List.set_cons_zero, List.set_cons_succ, i64_w, i32_w]
    rfl
  refine take_ (i := 8) (N := some 25) (v := ?_) (a' := ?_) #[true, true, true, true, true, true, true, true, true, false, true, true, true, false, false, false, false, false, false] rfl rfl (by kernel_rfl) (fun _ _ _ h => h) (Or.inl ⟨by rfl, ?_⟩) hHeld ?_ ?_
  rotate_left
  · rintro w' ⟨s0, s1⟩
    go_simp
    with_reducible rfl
  rotate_left
  · simp only [Act.put, List.setIfInBounds_toArray, List.set_cons_zero, List.set_cons_succ, i64_w, i32_w]
    rfl
  refine pure_ (i := 9) (N := some 26) (v := ?_) (a' := ?_) #[true, true, true, true, true, true, true, true, true, true, true, true, true, false, false, false, false, false, false] rfl rfl (by kernel_rfl) (fun _ _ _ h => h) (Or.inl ⟨by rfl, ?_⟩) ?_ ?_
  rotate_left
  · intro w'
    go_simp
    with_reducible rfl
  rotate_left
  · simp only [Act.put, List.setIfInBounds_toArray, List.set_cons_zero, List.set_cons_succ, i64_w, i32_w]
    rfl
  refine last_ (i := 13) (N := some 30) #[true, true, true, true, true, true, true, true, true, true, true, true, true, true, false, false, false, false, false] rfl rfl (by kernel_rfl) (by decide) (fun K hK => ?_)
  refine goesI_ Tryd.func45 (by kernel_rfl) rfl 78 (.pointer (some ⟨go, 0, none⟩)) (.pointer (some ⟨go, 0, none⟩)) #[.slice (some ⟨g, 0, none⟩) n cap] (hm1 _) (by rfl) rfl rfl rfl (by simp only [List.map_toArray, List.map_cons, List.map_nil]; rfl) ?_
  refine HW.out.mono ?_
  rintro e w3 ⟨rfl, hwr⟩
  refine ⟨_, rfl, ?_⟩
  refine hK.out _ _ ?_
  clear hK K
  refine norm_ (a' := ?_) ?_ ?_
  rotate_left
  · show Act.put _ (some 30) _ = _
    simp only [Act.put, List.setIfInBounds_toArray, List.set_cons_zero, List.set_cons_succ, i64_w, i32_w]
    rfl
  refine pure_ (i := 14) (N := some 16) (v := ?_) (a' := ?_) #[true, true, true, true, true, true, true, true, true, true, true, true, true, true, true, false, false, false, false] rfl rfl (by kernel_rfl) (fun _ _ _ h => h) (Or.inl ⟨by rfl, ?_⟩) ?_ ?_
  rotate_left
  · intro w'
    go_simp
    with_reducible rfl
  rotate_left
  · simp only [Act.put, List.setIfInBounds_toArray, List.set_cons_zero, List.set_cons_succ, i64_w, i32_w]
    rfl
  refine pure_ (i := 15) (N := some 31) (v := ?_) (a' := ?_) #[true, true, true, true, true, true, true, true, true, true, true, true, true, true, true, true, false, false, false] rfl rfl (by kernel_rfl) (fun _ _ _ h => h) (Or.inl ⟨by rfl, ?_⟩) ?_ ?_
  rotate_left
  · intro w'
    go_simp
    with_reducible rfl
  rotate_left
  · simp only [Act.put, List.setIfInBounds_toArray, List.set_cons_zero, List.set_cons_succ, i64_w, i32_w]
    rfl
  refine pure_ (i := 16) (N := some 32) (v := ?_) (a' := ?_) #[true, true, true, true, true, true, true, true, true, true, true, true, true, true, true, true, true, false, false] rfl rfl (by kernel_rfl) (fun _ _ _ h => h) (Or.inl ⟨by rfl, ?_⟩) ?_ ?_
  rotate_left
  · intro w'
    go_simp
    with_reducible rfl
  rotate_left
  · simp only [Act.put, List.setIfInBounds_toArray, List.set_cons_zero, List.set_cons_succ, i64_w, i32_w]
    rfl
  refine pure_ (i := 17) (N := some 7) (v := ?_) (a' := ?_) #[true, true, true, true, true, true, true, true, true, true, true, true, true, true, true, true, true, true, false] rfl rfl (by kernel_rfl) (fun _ _ _ h => h) (Or.inl ⟨by rfl, ?_⟩) ?_ ?_
  rotate_left
  · intro w'
    go_simp
    with_reducible rfl
  rotate_left
  · simp only [Act.put, List.setIfInBounds_toArray, List.set_cons_zero, List.set_cons_succ, i64_w, i32_w]
    rfl
  refine pure_ (i := 18) (N := some 8) (v := ?_) (a' := ?_) #[true, true, true, true, true, true, true, true, true, true, true, true, true, true, true, true, true, true, true] rfl rfl (by kernel_rfl) (fun _ _ _ h => h) (Or.inl ⟨by rfl, ?_⟩) ?_ ?_
  rotate_left
  · intro w'
    go_simp
    with_reducible rfl
  rotate_left
  · simp only [Act.put, List.setIfInBounds_toArray, List.set_cons_zero, List.set_cons_succ, i64_w, i32_w]
    rfl
  refine done_ (by kernel_rfl) ?_

  obtain ⟨v', hm3, ho3, hv3⟩ := hwr.out
  have hlb : b < W1.heap.size := blk_lt HBK1.out
  have hbk3 : w3.heap[b]? = some (.cells #[.slice (some ⟨g, 0, none⟩) n cap, .int .i64 0, .int .i8 lr0] 47 (0, 0)) := (ho3.block b hlb (fun h => HAP.out b h (.inl rfl))).trans HBK1.out
  have HBK3 := Aside0.mk hbk3
  have HM3 := Aside0.mk hm3
  have HO3 := Aside0.mk (show Off (fun k => k = b ∨ Ob go vm k) w w3 from ((HO1.out.drew).mono (fun k hk => .inl hk)).trans (ho3.mono (fun k hk => .inr hk)))
  have HV3 := Aside0.mk hv3
  have p1 := (blk_cell hbk3 1).trans (show _ = some (Value.int .i64 0) from rfl)
  have p1f := blk_frozen hbk3 1
  have d0 : decide ((n : Int) < (n : Int)) = false := decide_eq_false (by omega)
  have d1 : ((n : Int) != (n : Int)) = false := by rw [bne_eq_false_iff_eq]
  have d2 : decide (n < n) = false := decide_eq_false (by omega)
  clear hwr hm3 ho3 hv3 hbk3 HW HM1 HG1
  have hnb : (n : Int) ≤ 140737488355328 := by omega
  obtain ⟨W5, hW5⟩ : ∃ W5, w3.setCell ⟨b, 1, none⟩ (.int .i64 (n : Int)) = W5 := ⟨_, rfl⟩
  have HBK5 := Aside0.mk (show W5.heap[b]? = some (.cells (buC (some ⟨g, 0, none⟩) n cap n lr0) 47 (0, 0)) by rw [← hW5]; exact blk_put HBK3.out 1 _ rfl)
  have HRS := Aside0.mk (bufReset_any W5 b n cap n (some ⟨g, 0, none⟩) lr0 (by omega) HBK5.out)
  have HO5 := Aside0.mk (show Off (fun k => k = b ∨ Ob go vm k) w W5 by rw [← hW5]; exact HO3.out.cell (show b = b ∨ Ob go vm b from .inl rfl) 1 _)
  have HM5 := Aside0.mk (HM3.out.off (S := fun k => k = b) (w' := W5) (by rw [← hW5]; exact (Off.refl (fun k => k = b) _).cell rfl 1 _) (fun k hk e => by
    subst e
    rcases hk with e | e
    · exact HAP.out k (.inl e) (.inl rfl)
    · rcases HV3.out with h | ⟨q, h, hq⟩
      · rw [h] at e
        exact HAP.out k (.inr e) (.inl rfl)
      · rw [h] at e
        injection e with e
        have hq2 : W1.heap.size ≤ q := hq
        omega))
  clear HM3 HO3 HBK3 HBK5
  go_wp2_with fail
  refine HRS.out.mono ?_
  rintro e w6 ⟨rfl, ho6⟩
  have HO6 := Aside0.mk (HO5.out.trans (ho6.mono (fun k hk => .inl hk)))
  have HM6 := Aside0.mk (HM5.out.off ho6 (fun k hk e => by
    subst e
    rcases hk with e | e
    · exact HAP.out k (.inl e) (.inl rfl)
    · rcases HV3.out with h | ⟨q, h, hq⟩
      · rw [h] at e
        exact HAP.out k (.inr e) (.inl rfl)
      · rw [h] at e
        injection e with e
        have hq2 : W1.heap.size ≤ q := hq
        omega))
  clear ho6
  go_wp2_with fail
  go_ret2
  exact ⟨rfl, _, v', HM6.out, HO6.out, HV3.out.imp id (fun ⟨q, h1, h2⟩ => ⟨q, h1, Nat.le_trans HO1.out.size h2⟩)⟩
end
section
open Go.RowKit Go.Proofs.YtghcecngdhcjpaaDoorW.PrintWords Go.Proofs.YtghcecngdhcjpaaDoorW.PrintLast Go.Proofs.YtghcecngdhcjpaaDoorW.PrintMore Go.Proofs.YtghcecngdhcjpaaDoor.off Go.Proofs.YtghcecngdhcjpaaDoor.bf Go.Proofs.YtghcecngdhcjpaaDoor.pkt Go.Proofs.YtghcecngdhcjpaaDoor.mo
set_option linter.unusedVariables false
set_option linter.unusedSimpArgs false
set_option maxHeartbeats 4000000
set_option maxRecDepth 100000
theorem ta_writerTo (v : Value) (w : World) : (Instr.typeAssert (.iface 52 v) 66 160 true).run Tryd.prog w = .ok (.tuple #[.iface 52 v, .bool true]) w := run_typeAssert_hasB Tryd.underlying160 (by kernel_rfl) v 66 w
theorem bb_nil (a : Addr) (w : World) : (nilAhead 326 52 (.pointer (some a)) "WriteTo").run Tryd.prog w = .ok (some false) w := by kernel_rfl
theorem bb_writeTo (a : Addr) (w : World) : (method 326 52 (.pointer (some a)) "WriteTo").run Tryd.prog w = .ok (117, .pointer (some a)) w := by kernel_rfl
theorem copyBuffer_any (w : World) (b go : Nat) (v : Value) (bs : List Value) (marr : Array Value) (vm : Value) (xs : List Value) (A : Option Addr) (n c : Nat) (hF : Bf w b v bs) (h1 : ∀ u ∈ bs, u.oneCell' = true) (h0 : 0 < bs.length) (hM : Mo w go marr vm xs) (hap : ∀ k, Ob go vm k → ¬ Of b v k) (hlim : xs.length + bs.length ≤ 140737488355328) :
    Calls Tryd.prog 73 #[.iface 78 (.pointer (some ⟨go, 0, none⟩)), .iface 52 (.pointer (some ⟨b, 0, none⟩)), .slice A n c] w fun e w' => e = .returned (.tuple #[.int .i64 (bs.length : Int), .nilIface]) ∧ ∃ marr' v', Mo w' go marr' v' (xs ++ bs) ∧ Off (fun k => k = b ∨ Ob go vm k) w w' ∧ (v'.ownBlock = vm.ownBlock ∨ ∃ q, v'.ownBlock = some q ∧ w.heap.size ≤ q) := by
  have HW := Aside0.mk (writeTo_any w b go v bs marr vm xs hF h1 h0 hM hap hlim)
  have hta := ta_writerTo (.pointer (some ⟨b, 0, none⟩))
  have hn1 := bb_nil ⟨b, 0, none⟩
  have hm1 := bb_writeTo ⟨b, 0, none⟩
  clear hF h1 h0 hM hap hlim
  go_enter Tryd.func73, Tryd.ntmps73
  go_wp2_with fail
  refine HW.out.mono ?_
  rintro e w1 ⟨rfl, m', v', hm, ho, hv⟩
  have HV := Aside0.mk hv
  have HM := Aside0.mk hm
  have HO := Aside0.mk ho
  clear hm ho hv HW
  go_wp2_with fail
  go_ret2
  exact ⟨rfl, m', v', HM.out, HO.out, HV.out⟩
theorem copy_any (w : World) (b go : Nat) (v : Value) (bs : List Value) (marr : Array Value) (vm : Value) (xs : List Value) (a : Addr) (n c : Nat) (hF : Bf w b v bs) (h1 : ∀ u ∈ bs, u.oneCell' = true) (h0 : 0 < bs.length) (hM : Mo w go marr vm xs) (hap : ∀ k, Ob go vm k → ¬ Of b v k) (hlim : xs.length + bs.length ≤ 140737488355328) (hn : 0 < n) :
    Calls Tryd.prog 52 #[.iface 78 (.pointer (some ⟨go, 0, none⟩)), .iface 52 (.pointer (some ⟨b, 0, none⟩)), .slice (some a) n c] w fun e w' => e = .returned (.tuple #[.int .i64 (bs.length : Int), .nilIface]) ∧ ∃ marr' v', Mo w' go marr' v' (xs ++ bs) ∧ Off (fun k => k = b ∨ Ob go vm k) w w' ∧ (v'.ownBlock = vm.ownBlock ∨ ∃ q, v'.ownBlock = some q ∧ w.heap.size ≤ q) := by
  have HW := Aside0.mk (copyBuffer_any w b go v bs marr vm xs (some a) n c hF h1 h0 hM hap hlim)
  have z0 : ((n : Int) == 0) = false := by rw [beq_eq_false_iff_ne]; omega
  have z1 : (n == 0) = false := by rw [beq_eq_false_iff_ne]; omega
  clear hF h1 h0 hM hap hlim
  go_enter Tryd.func52, Tryd.ntmps52
  go_wp2_with fail
  refine HW.out.mono ?_
  rintro e w1 ⟨rfl, m', v', hm, ho, hv⟩
  have HV := Aside0.mk hv
  have HM := Aside0.mk hm
  have HO := Aside0.mk ho
  clear hm ho hv HW
  go_wp2_with fail
  go_ret2
  exact ⟨rfl, m', v', HM.out, HO.out, HV.out⟩
theorem checkClose_mo (a b : Addr) (u : FrameMode) (w : World) :
    CallsD Tryd.prog 46 #[.iface 78 (.pointer (some a)), .pointer (some b)] u w fun e u' w' => u' = u ∧ (e = .returned (.tuple #[]) ∧ Below w.heap.size w w') := by
  have hn1 := mo_nil a "Close" (.inl rfl)
  have hm1 := mo_close a
  go_enter_d Tryd.func46, Tryd.ntmps46
  go_wp2_with fail
  refine (mo.close_any _ _).mono ?_
  rintro e w1 ⟨rfl, rfl⟩
  go_wp2_with fail
  go_end0
  exact ⟨rfl, Below.refl _ _⟩
theorem checkClose_nc (a b : Addr) (u : FrameMode) (w : World) :
    CallsD Tryd.prog 46 #[.iface 216 (.agg #[.pointer (some a)]), .pointer (some b)] u w fun e u' w' => u' = u ∧ (e = .returned (.tuple #[]) ∧ Below w.heap.size w w') := by
  have hn1 := nc_nil a "Close" (.inl rfl)
  have hm1 := nc_close a
  go_enter_d Tryd.func46, Tryd.ntmps46
  go_wp2_with fail
  refine (ncClose_any _ _).mono ?_
  rintro e w1 ⟨rfl, hb⟩
  have HB := Aside0.mk hb
  clear hb
  go_wp2_with fail
  go_end0
  exact ⟨rfl, HB.out⟩
theorem put_deferred (v : Value) (u : FrameMode) (w : World) :
    CallsD Tryd.prog 48 #[v] u w fun e u' w' => u' = u ∧ (e = .returned (.tuple #[]) ∧ Below w.heap.size w w') := by
  go_enter_d Tryd.func48, Tryd.ntmps48
  go_wp2_with fail
  go_end0
  exact ⟨rfl, Below.refl _ _⟩
theorem getBuf_any (w : World) : Calls Tryd.prog 47 #[] w fun e w' => e = .returned (.pointer (some ⟨w.heap.size, 0, none⟩)) ∧ w' = w.alloc (.cells #[.slice none 0 0, .int .i64 0, .int .i8 0] 47 (0, 0)) := by
  go_enter Tryd.func47, Tryd.ntmps47
  go_wp2
  go_ret
  exact ⟨rfl, rfl⟩
theorem putSlice_any (v : Value) (w : World) : Calls Tryd.prog 53 #[v] w fun e w' => e = .returned (.tuple #[]) ∧ w = w' := by
  go_enter Tryd.func53, Tryd.ntmps53
  go_wp2_with fail
  go_end0
  exact ⟨rfl, rfl⟩
theorem make16k (w : World) : ∃ W1, (Instr.makeSlice 25 (.int .i64 16384) (.int .i64 16384)).run Tryd.prog w = .ok (.slice (some ⟨w.heap.size, 0, none⟩) 16384 16384) W1 ∧ Below w.heap.size w W1 := by
  obtain ⟨i0, hi, hzz⟩ := Option.map_eq_some_iff.1 mo.info5
  simp only [Prod.mk.injEq] at hzz
  obtain ⟨hz0, hz1, hz2⟩ := hzz
  exact ⟨_, run_makeSlice w 25 5 i0 _ Tryd.underlying25 hi hz0 .i64 .i64 16384 16384 (by decide) (by decide) (by rw [hz1]; decide) (by rw [hz2]; decide) (by decide), below_alloc (Below.refl _ _) _⟩
theorem getSlice_any (w : World) : Calls Tryd.prog 51 #[] w fun e w' => ∃ gs a, e = .returned (.pointer (some ⟨gs, 0, none⟩)) ∧ w.heap.size ≤ gs ∧ w'.cell? ⟨gs, 0, none⟩ = some (.slice (some a) 16384 16384) ∧ Below w.heap.size w w' := by
  obtain ⟨W1, hmk, hb⟩ := make16k w
  have HB := Aside0.mk hb
  clear hb
  go_enter Tryd.func51, Tryd.ntmps51
  go_wp2_with fail
  go_ret
  exact ⟨W1.heap.size, _, rfl, HB.out.size, (blk_cell (blk_new W1 _) 0).trans rfl, below_alloc HB.out _⟩
end
section
open Go.RowKit Go.Proofs.YtghcecngdhcjpaaDoorW.PrintWords Go.Proofs.YtghcecngdhcjpaaDoorW.PrintLast Go.Proofs.YtghcecngdhcjpaaDoorW.PrintMore Go.Proofs.YtghcecngdhcjpaaDoor.off Go.Proofs.YtghcecngdhcjpaaDoor.bf Go.Proofs.YtghcecngdhcjpaaDoor.pkt Go.Proofs.YtghcecngdhcjpaaDoor.mo
set_option linter.unusedVariables false
set_option linter.unusedSimpArgs false
set_option maxHeartbeats 4000000
set_option maxRecDepth 100000
theorem patch_len {src : List Int} {rem : Nat} {d o : List Int} {r : Option (List Int)} (h : leb.Patch src rem d o r) : ∀ out, r = some out → out.length = o.length + rem := by
  induction h with
  | done => intro out e; cases e; rfl
  | more => intro out e; cases e
  | cut => intro out e; cases e
  | zero => intro out e; cases e
  | insBig => intro out e; cases e
  | insCut => intro out e; cases e
  | ins _ _ _ h4 h5 _ ih => intro out e; have := ih out e; rw [List.length_append, List.length_take] at this; omega
  | offCut => intro out e; cases e
  | sizeCut => intro out e; cases e
  | copyBad => intro out e; cases e
  | copy _ _ _ _ _ h6 h7 _ ih => intro out e; have := ih out e; rw [List.length_append, List.length_take, List.length_drop] at this; omega
theorem patchD (w0 : World) (As Ad : Option Addr) (cs cd : Nat) (src delta rest : List Int) (T : Nat) (out : List Int) (hrs : Kd.C (Kd.int .u8) w0 As src.length src) (hcs : src.length ≤ cs) (hcsm : cs ≤ maxLen) (hrd : Kd.C (Kd.int .u8) w0 Ad delta.length delta) (hcd : delta.length ≤ cd) (hcdm : cd ≤ maxLen)
    (e2 : Value) (ao az : Addr) (co cz : Nat) (hE : leb.Env w0 e2 ao az co cz) (hS : leb.Sized src delta rest T) (hP : leb.Patch src T rest [] (some out)) :
    Calls Tryd.prog 43 #[.pointer (some ⟨w0.heap.size, 0, none⟩), .slice As src.length cs, .slice Ad delta.length cd] (w0.alloc (.cells #[.slice none 0 0, .int .i64 0, .int .i8 0] 47 (0, 0))) fun e w' => e = .returned .nilIface ∧ (∃ v, Bf w' w0.heap.size v (pkt.bv out)) ∧ Below w0.heap.size w0 w' := by
  obtain ⟨⟨ds1, ds2, hd, h01, h91, hd1, h02, h92, hd2, hs1, hs2⟩, hp, hm, hb⟩ := hS
  obtain ⟨i1, ⟨τ2, v2, rfl⟩, ⟨τ3, v3, i3⟩, i4, i5, i6, i7⟩ := hE
  refine (leb.patch_any w0 _ (below_alloc (Below.refl _ _) _) w0.heap.size (Nat.le_refl _) 0 (blk_new w0 _) As Ad cs cd src delta hrs hcs hcsm hrd hcd hcdm τ2 τ3 v2 v3 i1 i3 ao az co cz i4 i5 i6 i7 ds1 ds2 rest T (some out) hd h01 h91 hd1 h02 h92 hd2 hs1 hs2 hp hm hb hP).mono ?_
  rintro e w' ⟨⟨rfl, hbuf⟩, hbel⟩
  refine ⟨rfl, ?_, hbel⟩
  obtain ⟨_, v, lr, h1, h2, h3⟩ := hbuf
  exact ⟨v, Bf.of h1 (own_weaken h2 (Nat.zero_le _)) h3⟩
/-- What stands while ApplyDelta runs: the error's cell holds nil, nothing that was there has changed. -/
structure St (w : World) (ge : Nat) (W : World) : Prop where
  err : W.heap[ge]? = some (.cells #[.nilIface] 55 (0, 0))
  bel : Below w.heap.size w W
theorem St.below {w : World} {ge : Nat} {W W' : World} (h : St w ge W) (hb : Below W.heap.size W W') : St w ge W' := ⟨blk_below h.err hb, below_step h.bel hb⟩
theorem St.cell {w : World} {ge : Nat} {W : World} (h : St w ge W) : W.cell? ⟨ge, 0, none⟩ = some .nilIface := (blk_cell h.err 0).trans rfl
theorem St.frozen {w : World} {ge : Nat} {W : World} (h : St w ge W) : W.frozen? ⟨ge, 0, none⟩ = false := blk_frozen h.err 0
theorem St.store {w : World} {ge : Nat} {W : World} (h : St w ge W) (hg : w.heap.size ≤ ge) : St w ge (W.setCell ⟨ge, 0, none⟩ .nilIface) :=
  ⟨blk_put (cs := #[.nilIface]) h.err 0 .nilIface rfl, h.bel.setCell (show w.heap.size ≤ ge from hg) _⟩
theorem St.off_store {ge : Nat} {W : World} : Off (fun k => k = ge) W (W.setCell ⟨ge, 0, none⟩ .nilIface) := (Off.refl (fun k => k = ge) W).cell rfl 0 _
theorem atRd_ne {W : World} {gr : Nat} {A : Option Addr} {n c i : Nat} (h : AtRd W gr A n c i) {ge : Nat} {cs : Array Value} (he : W.heap[ge]? = some (.cells cs 55 (0, 0))) : gr ≠ ge := fun e => by
  obtain ⟨pr, h⟩ := h
  rw [e, he] at h
  injection h with h
  injection h with _ h _
  exact absurd h (by decide)
theorem atRd_store {W : World} {gr ge : Nat} {A : Option Addr} {n c i : Nat} (h : AtRd W gr A n c i) (hne : gr ≠ ge) (u : Value) : AtRd (W.setCell ⟨ge, 0, none⟩ u) gr A n c i := by
  obtain ⟨pr, h⟩ := h
  exact ⟨pr, by rw [Below.heap_setCell _ _ _ _ hne]; exact h⟩
theorem applyDelta_any (w : World) (gt gf : Nat) (mt mf : Array Value) (vf : Value) (base delta rest : List Int) (T : Nat) (out : List Int) (Ad : Option Addr) (cd : Nat) (hT : Mo w gt mt (.slice none 0 0) []) (hF : Mo w gf mf vf (pkt.bv base)) (hrd : Kd.C (Kd.int .u8) w Ad delta.length delta) (hcd : delta.length ≤ cd) (hcdm : cd ≤ maxLen) (hbl : base.length ≤ 1000000) (hol : out.length ≤ 1000000)
    (e2 : Value) (ao az : Addr) (co cz : Nat) (hE : leb.Env w e2 ao az co cz) (hS : leb.Sized base delta rest T) (hP : leb.Patch base T rest [] (some out)) (ae : Addr) (hEof : Eof w ae) :
    Calls Tryd.prog 32 #[.iface 78 (.pointer (some ⟨gt, 0, none⟩)), .iface 78 (.pointer (some ⟨gf, 0, none⟩)), .slice Ad delta.length cd] w fun e w' => e = .returned .nilIface ∧ ∃ m' v', Mo w' gt m' v' (pkt.bv out) ∧ Off (fun k => k = gt) w w' := by
  obtain ⟨A, c, rfl, _⟩ := Slc_shape hF.slc
  obtain ⟨_, hcb, _, hCB⟩ := slc_C hF.slc
  rw [pkt.bv_len] at hF
  have hn1 := mo_nil ⟨gf, 0, none⟩ "Reader" (.inr (.inr (.inr (.inl rfl))))
  have hm1 := mo_reader ⟨gf, 0, none⟩
  have hn2 := mo_nil ⟨gt, 0, none⟩ "Writer" (.inr (.inr (.inl rfl)))
  have hm2 := mo_writer ⟨gt, 0, none⟩
  have hn3 := mo_nil ⟨gt, 0, none⟩ "SetSize" (.inr (.inl rfl))
  have hm3 := mo_setSize ⟨gt, 0, none⟩
  have HTT := Aside0.mk hT
  have HFF := Aside0.mk hF
  have HCB := Aside0.mk hCB
  have HRD := Aside0.mk hrd
  have HENV := Aside0.mk hE
  have HSZ := Aside0.mk hS
  have HPP := Aside0.mk hP
  have HEOF := Aside0.mk hEof
  have HBL := Aside0.mk hbl
  have HOL := Aside0.mk hol
  clear hT hF hCB hrd hE hS hP hEof hbl hol
  go_enter_defers Tryd.func32, Tryd.ntmps32
  go_wp2_with (first | ((with_reducible refine gate_dst (N := 6) rfl ?_); refine box_event ?hg (N := 6) ?hd (cs := #[.nilIface]) (t := 55) ?hr ?_; (case hd => rfl); (case hg => rfl); (case hr => first | (go_simp; done) | (go_simp; rfl)); intro ge hge w1 hbox hb; have HST1 := Aside0.mk (St.mk (w := w) (ge := ge) (W := w1) hbox hb); have GE := Aside0.mk (show ge = w.heap.size from hge); have HF1 := Aside0.mk (HFF.out.below hb); clear hbox hb hge) | fail)
  have hge := GE.out
  refine (reader_any w1 gf mf A base.length c HF1.out.heap HF1.out.c21).mono ?_
  rintro e w2 ⟨gr, hgr, rfl, hR, hb⟩
  have HST2 := Aside0.mk (HST1.out.below hb)
  have HR2 := Aside0.mk hR
  have HGR := Aside0.mk (show w.heap.size ≤ gr from Nat.le_trans HST1.out.bel.size hgr)
  have HNE := Aside0.mk (atRd_ne hR HST2.out.err)
  have q2 := HST2.out.cell
  have f2 := HST2.out.frozen
  have HST3 := Aside0.mk (HST2.out.store (Nat.le_of_eq hge.symm))
  have HR3 := Aside0.mk (atRd_store HR2.out HNE.out .nilIface)
  obtain ⟨W3, hW3⟩ : ∃ W3, w2.setCell ⟨ge, 0, none⟩ .nilIface = W3 := ⟨_, rfl⟩
  rw [hW3] at HST3 HR3
  have q3 := HST3.out.cell
  have f3 := HST3.out.frozen
  clear hgr hR hb hge HST1 HF1
  go_wp2_with fail
  refine (mo.writer_any _ _).mono ?_
  rintro e w4 ⟨rfl, rfl⟩
  have HST5 := Aside0.mk (HST3.out.store (Nat.le_of_eq GE.out.symm))
  have HR5 := Aside0.mk (atRd_store HR3.out HNE.out .nilIface)
  obtain ⟨W5, hW5⟩ : ∃ W5, W3.setCell ⟨ge, 0, none⟩ .nilIface = W5 := ⟨_, rfl⟩
  rw [hW5] at HST5 HR5
  have q5 := HST5.out.cell
  go_wp2_with fail
  refine (getBuf_any W5).mono ?_
  rintro e w6 ⟨rfl, hw6⟩
  obtain ⟨b1, hb1⟩ : ∃ b1, W5.heap.size = b1 := ⟨_, rfl⟩
  have hbl6 : Below W5.heap.size W5 w6 := by rw [hw6]; exact below_alloc (Below.refl _ _) _
  have HST6 := Aside0.mk (HST5.out.below hbl6)
  have HR6 := Aside0.mk (HR5.out.below hbl6)
  have HB6 := Aside0.mk (show Bf w6 b1 (.slice none 0 0) [] by rw [hw6, ← hb1]; exact Bf.new W5)
  have HB1 := Aside0.mk (show w.heap.size ≤ b1 by rw [← hb1]; exact HST5.out.bel.size)
  have HGB := Aside0.mk (show gr ≠ b1 from fun e => by obtain ⟨pr, h⟩ := HR5.out; have := blk_lt h; omega)
  have HEB := Aside0.mk (show ge ≠ b1 from fun e => by have := blk_lt HST5.out.err; omega)
  rw [hb1]
  clear hw6 hbl6 hb1 q2 f2 q3 f3 q5
  go_wp2_with fail
  refine (readFrom_any w w6 A c base gr b1 ae HCB.out hcb HST6.out.bel HR6.out HB6.out HGR.out HB1.out HGB.out (by have := HBL.out; omega) HEOF.out).mono ?_
  rintro e w7 ⟨rfl, v7, hF7, ho7, _, hb7⟩
  have HST7 := Aside0.mk (St.mk (w := w) (ge := ge) (W := w7) ((ho7.block ge (blk_lt HST6.out.err) (fun e => e.elim HEB.out (fun e => HNE.out e.symm))).trans HST6.out.err) hb7)
  have HF7 := Aside0.mk hF7
  have q7 := HST7.out.cell
  have f7 := HST7.out.frozen
  have HST8 := Aside0.mk (HST7.out.store (Nat.le_of_eq GE.out.symm))
  have HF8 := Aside0.mk (hF7.off (St.off_store (ge := ge)) (fun k hk e => by
    subst e
    rcases hk with e | e
    · exact HEB.out e
    · obtain ⟨lr, h1, h2, h3⟩ := hF7.open_
      rcases h2.2 with ⟨h, _⟩ | ⟨g, cap, cur, h, _, hg, _⟩
      · rw [h] at e; cases e
      · rw [h] at e
        injection e with e
        subst e
        rw [HST7.out.err] at hg
        injection hg with hg
        injection hg with _ hg _
        exact absurd hg (by decide)))
  obtain ⟨W8, hW8⟩ : ∃ W8, w7.setCell ⟨ge, 0, none⟩ .nilIface = W8 := ⟨_, rfl⟩
  rw [hW8] at HST8 HF8
  have q8 := HST8.out.cell
  clear hF7 ho7 hb7 HR6 HB6 HST6
  go_wp2_with fail
  refine (Tryd.Buffer_Bytes 0 b1 (pkt.bv base) W8 HF8.out.isB).mono ?_
  rintro e w9 ⟨v9, rfl, hown9, n9, hw9⟩
  have hslc := Slc.of_own hown9 (pkt.bv_one _)
  obtain ⟨A9, c9, rfl, _⟩ := Slc_shape hslc
  obtain ⟨_, hc9, hcm9, hC9⟩ := slc_C hslc
  have HC9 := Aside0.mk hC9
  have HST9 := Aside0.mk (show St w ge w9 by rw [hw9]; exact HST8.out.below (pw_below_drewN (Below.refl _ _) _))
  rw [pkt.bv_len]
  clear hown9 hw9 hslc hC9 HF7 HF8 HST7 q7 f7 q8
  go_wp2_with fail
  refine (getBuf_any w9).mono ?_
  rintro e w10 ⟨rfl, rfl⟩
  have HPD := Aside0.mk (patchD w9 A9 Ad c9 cd base delta rest T out HC9.out hc9 hcm9 (Kd.C_below HRD.out HST9.out.bel) hcd hcdm e2 ao az co cz (HENV.out.below HST9.out.bel) HSZ.out HPP.out)
  obtain ⟨b2, hb2⟩ : ∃ b2, w9.heap.size = b2 := ⟨_, rfl⟩
  have HB2 := Aside0.mk hb2
  rw [hb2] at HPD ⊢
  clear hb2 HC9
  go_wp2_with fail
  refine HPD.out.mono ?_
  rintro e w11 ⟨rfl, ⟨v11, hF11⟩, hb11⟩
  have HST11 := Aside0.mk (HST9.out.below (by rw [HB2.out]; exact hb11))
  have HWB2 := Aside0.mk (show w.heap.size ≤ b2 by rw [← HB2.out]; exact HST9.out.bel.size)
  have hEB2 : ge ≠ b2 := fun e => by have := blk_lt HST9.out.err; have := HB2.out; omega
  have hrow11 : ∀ k, Of b2 v11 k → k ≠ ge := fun k hk e => by
    subst e
    rcases hk with e | e
    · exact hEB2 e
    · obtain ⟨lr, h1, h2, h3⟩ := hF11.open_
      rcases h2.2 with ⟨h, _⟩ | ⟨g, cap, cur, h, _, hg, _⟩
      · rw [h] at e; cases e
      · rw [h] at e
        injection e with e
        subst e
        rw [HST11.out.err] at hg
        injection hg with hg
        injection hg with _ hg _
        exact absurd hg (by decide)
  have q11 := HST11.out.cell
  have f11 := HST11.out.frozen
  have HST12 := Aside0.mk (HST11.out.store (Nat.le_of_eq GE.out.symm))
  have HF12 := Aside0.mk (hF11.off (St.off_store (ge := ge)) (fun k hk e => hrow11 k hk e))
  have HROW := Aside0.mk hrow11
  obtain ⟨W12, hW12⟩ : ∃ W12, w11.setCell ⟨ge, 0, none⟩ .nilIface = W12 := ⟨_, rfl⟩
  rw [hW12] at HST12 HF12
  have q12 := HST12.out.cell
  clear hF11 hb11 hEB2 hrow11 HPD HST9
  go_wp2_with fail
  have HLEN := Aside0.mk (show Calls Tryd.prog 50 #[.pointer (some ⟨b2, 0, none⟩)] W12.drew fun e w' => e = .returned (.int .i64 (out.length : Int)) ∧ ∃ k, w' = W12.drew.drewN k by
    have h := Tryd.Buffer_Len 0 b2 (pkt.bv out) W12.drew (by exact HF12.out.isB)
    rw [pkt.bv_len] at h
    exact h)
  refine wp_region_noPanic ?_
  refine start_ (n := 6) (S := fun w' => True) (ds := []) #[false, false, false, false, false, false] (by kernel_rfl) rfl rfl trivial (fun hHeld => ?_)
  refine pure_ (i := 0) (N := some 53) (v := ?_) (a' := ?_) #[true, false, false, false, false, false] rfl rfl (by kernel_rfl) (fun _ _ _ h => h) (Or.inl ⟨by rfl, ?_⟩) ?_ ?_
  rotate_left
  · intro w'
    go_simp
    with_reducible rfl
  rotate_left
  · simp only [Act.put, List.setIfInBounds_toArray, List.set_cons_zero, List.set_cons_succ, i64_w, i32_w]
    rfl
  refine pure_ (i := 1) (N := some 54) (v := ?_) (a' := ?_) #[true, true, false, false, false, false] rfl rfl (by kernel_rfl) (fun _ _ _ h => h) (Or.inl ⟨by rfl, ?_⟩) ?_ ?_
  rotate_left
  · intro w'
    go_simp
    with_reducible rfl
  rotate_left
  · simp only [Act.put, List.setIfInBounds_toArray, List.set_cons_zero, List.set_cons_succ, i64_w, i32_w]
    rfl
  refine pure_ (i := 3) (N := some 56) (v := ?_) (a' := ?_) #[true, true, false, true, false, false] rfl rfl (by kernel_rfl) (fun _ _ _ h => h) (Or.inl ⟨by rfl, ?_⟩) ?_ ?_
  rotate_left
  · intro w'
    go_simp
    with_reducible rfl
  rotate_left
  · simp only [Act.put, List.setIfInBounds_toArray, List.set_cons_zero, List.set_cons_succ, i64_w, i32_w]
    rfl
  refine pure_ (i := 4) (N := some 57) (v := ?_) (a' := ?_) #[true, true, false, true, true, false] rfl rfl (by kernel_rfl) (fun _ _ _ h => h) (Or.inl ⟨by rfl, ?_⟩) ?_ ?_
  rotate_left
  · intro w'
    go_simp
    with_reducible rfl
  rotate_left
  · simp only [Act.put, List.setIfInBounds_toArray, List.set_cons_zero, List.set_cons_succ, i64_w, i32_w]
    rfl
  refine one_ (i := 2) (N := some 55) #[true, true, true, true, true, false] rfl rfl (by kernel_rfl) (by decide) (fun K hK => ?_)
  refine goes_ Tryd.func50 (by kernel_rfl) rfl #[.pointer (some ⟨b2, 0, none⟩)] (by rfl) rfl rfl (by simp only [List.map_toArray, List.map_cons, List.map_nil]; rfl) ?_
  with_reducible refine (HLEN.out).mono ?_
  rintro e w13 ⟨rfl, k13, hw13⟩
  refine ⟨_, rfl, ?_⟩
  have HW13 := Aside0.mk hw13
  have HB13 := Aside0.mk (show Below w.heap.size w w13 by rw [hw13]; exact ⟨HST12.out.bel.os, HST12.out.bel.tape, HST12.out.bel.output, HST12.out.bel.size, HST12.out.bel.block⟩)
  clear hw13
  refine hK.out _ _ trivial (fun hHeld => ?_)
  clear hK K
  refine norm_ (a' := ?_) ?_ ?_
  rotate_left
  · show Act.put _ (some 55) _ = _
    simp only [Act.put, List.setIfInBounds_toArray, List.set_cons_zero, List.set_cons_succ, i64_w, i32_w]
    rfl
  refine one_ (i := 5) (N := some 58) #[true, true, true, true, true, true] rfl rfl (by kernel_rfl) (by decide) (fun K hK => ?_)
  refine goesI_ Tryd.func124 (by kernel_rfl) rfl 78 (.pointer (some ⟨gt, 0, none⟩)) (.pointer (some ⟨gt, 0, none⟩)) #[.int .i64 (out.length : Int)] (hm3 _) (by rfl) rfl rfl rfl (by simp only [List.map_toArray, List.map_cons, List.map_nil]; rfl) ?_
  refine (mo.setSize_any w13 gt mt (.slice none 0 0) [] (HTT.out.below HB13.out) (out.length : Int)).mono ?_
  rintro e w14 ⟨rfl, hw14⟩
  refine ⟨_, rfl, ?_⟩
  refine hK.out _ _ trivial (fun hHeld => ?_)
  clear hK K
  refine norm_ (a' := ?_) ?_ ?_
  rotate_left
  · show Act.put _ (some 58) _ = _
    simp only [Act.put, List.setIfInBounds_toArray, List.set_cons_zero, List.set_cons_succ, i64_w, i32_w]
    rfl
  refine done_ (by kernel_rfl) ?_

  refine NoPanic.normal ?_
  have hrow12 : w13.heap = W12.heap := by rw [HW13.out]; rfl
  have hgtlt := HTT.out.lt
  have hgb2 : gt ≠ b2 := fun e => by have := HWB2.out; omega
  have HM14 := Aside0.mk (show Mo w14 gt (mt.setIfInBounds 22 (.int .i64 (out.length : Int))) (.slice none 0 0) [] by rw [hw14]; exact (HTT.out.below HB13.out).set 22 (by decide) _)
  have HO14 := Aside0.mk (show Off (fun k => k = gt) w w14 by rw [hw14]; exact (Off.of_below (S := fun k => k = gt) HB13.out).cell rfl 22 _)
  have HF14 := Aside0.mk (show Bf w14 b2 v11 (pkt.bv out) by
    have h0 : Bf w13 b2 v11 (pkt.bv out) := HF12.out.keep (fun k _ => by rw [hrow12])
    rw [hw14]
    refine h0.off (S := fun k => k = gt) ((Off.refl (fun k => k = gt) w13).cell rfl 22 _) (fun k hk e => ?_)
    subst e
    rcases hk with e | e
    · exact hgb2 e
    · obtain ⟨lr, h1, h2, h3⟩ := h0.open_
      rcases h2.2 with ⟨h, _⟩ | ⟨g, cap, cur, h, _, hg, _⟩
      · rw [h] at e; cases e
      · rw [h] at e
        injection e with e
        subst e
        have hh := blk_below HTT.out.heap HB13.out
        rw [hh] at hg
        injection hg with hg
        injection hg with _ hg _
        exact absurd hg (by decide))
  have hegt : ge ≠ gt := fun e => by have := GE.out; omega
  have HERR14 := Aside0.mk (show w14.heap[ge]? = some (.cells #[.nilIface] 55 (0, 0)) by rw [hw14, Below.heap_setCell _ _ _ _ hegt, hrow12]; exact HST12.out.err)
  clear hw14 hrow12 HW13 HB13 HF12 HST12 HLEN q12 f11 q11
  go_wp2_with fail
  refine (getSlice_any w14).mono ?_
  rintro e w15 ⟨gs, a15, rfl, hgs, hc15, hb15⟩
  have HM15 := Aside0.mk (HM14.out.below hb15)
  have HF15 := Aside0.mk (HF14.out.below hb15)
  have HO15 := Aside0.mk (HO14.out.then_ hb15)
  have HERR15 := Aside0.mk (blk_below HERR14.out hb15)
  have HGS := Aside0.mk hgs
  have hpl : 0 < (pkt.bv out).length := by
    have h1 := patch_len HPP.out out rfl
    have h2 := HSZ.out.pos
    rw [pkt.bv_len]
    simp at h1
    omega
  have HCP := Aside0.mk (copy_any w15 b2 gt v11 (pkt.bv out) (mt.setIfInBounds 22 (.int .i64 (out.length : Int))) (.slice none 0 0) [] a15 16384 16384 HF15.out (pkt.bv_one _) hpl HM15.out (fun k hk hk2 => by
    rcases hk with e | e
    · subst e
      rcases hk2 with e | e
      · exact hgb2 e
      · obtain ⟨lr, h1, h2, h3⟩ := HF15.out.open_
        rcases h2.2 with ⟨h, _⟩ | ⟨g, cap, cur, h, _, hg, _⟩
        · rw [h] at e; cases e
        · rw [h] at e
          injection e with e
          subst e
          have hh := HM15.out.heap
          rw [hh] at hg
          injection hg with hg
          injection hg with _ hg _
          exact absurd hg (by decide)
    · cases e) (by rw [pkt.bv_len]; have := HOL.out; simp; omega) (by decide))
  rw [List.nil_append] at HCP
  clear hb15 hgs hpl HM14 HF14 HO14 HERR14
  go_wp2_with fail
  refine HCP.out.mono ?_
  rintro e w16 ⟨rfl, m16, v16, hm16, ho16, hv16⟩
  have hEB2 : ge ≠ b2 := fun e => (HROW.out b2 (.inl rfl)) e.symm
  have herr16 : w16.heap[ge]? = some (.cells #[.nilIface] 55 (0, 0)) := (ho16.block ge (blk_lt HERR15.out) (fun e => e.elim hEB2 (fun e => e.elim hegt (fun e => by cases e)))).trans HERR15.out
  have q16 := (blk_cell herr16 0).trans (show _ = some Value.nilIface from rfl)
  have f16 := blk_frozen herr16 0
  have ho16' : Off (fun k => k = gt) w w16 := off_trans2 HO15.out ho16 (fun k hk e => by
    rcases e with e | e
    · exact absurd hk (by have := HWB2.out; omega)
    · rcases e with e | e
      · exact e
      · cases e)
  have HVG := Aside0.mk (show v16.ownBlock ≠ some ge from fun e => by
    rcases hv16 with h | ⟨q, h, hq⟩
    · rw [h] at e; cases e
    · rw [h] at e
      injection e with e
      have := blk_lt HERR15.out
      omega)
  have hm17 : Mo (w16.setCell ⟨ge, 0, none⟩ .nilIface) gt m16 v16 (pkt.bv out) := hm16.off (St.off_store (ge := ge)) (fun k hk e => by
    subst e
    rcases hk with e | e
    · exact hegt e
    · rcases hv16 with h | ⟨q, h, hq⟩
      · rw [h] at e; cases e
      · rw [h] at e
        injection e with e
        have := blk_lt HERR15.out
        omega)
  have ho17 : Off (fun k => k = gt) w (w16.setCell ⟨ge, 0, none⟩ .nilIface) := off_trans2 ho16' (St.off_store (ge := ge)) (fun k hk e => by have := GE.out; omega)
  have herr17 : (w16.setCell ⟨ge, 0, none⟩ .nilIface).heap[ge]? = some (.cells #[.nilIface] 55 (0, 0)) := blk_put (cs := #[.nilIface]) herr16 0 .nilIface rfl
  obtain ⟨W17, hW17⟩ : ∃ W17, w16.setCell ⟨ge, 0, none⟩ .nilIface = W17 := ⟨_, rfl⟩
  rw [hW17] at hm17 ho17 herr17
  have q17 := (blk_cell herr17 0).trans (show _ = some Value.nilIface from rfl)
  have f17 := blk_frozen herr17 0
  have HM17 := Aside0.mk hm17
  have HO17 := Aside0.mk ho17
  have HERR17 := Aside0.mk herr17
  clear hm16 ho16 hEB2 herr16 ho16' hm17 ho17 herr17 HCP HM15 HF15 HO15 HERR15
  go_wp2_with fail
  refine (putSlice_any _ W17).mono ?_
  rintro e w18 ⟨rfl, rfl⟩
  have HST19 := Aside0.mk (show (W17.setCell ⟨ge, 0, none⟩ .nilIface).heap[ge]? = some (.cells #[.nilIface] 55 (0, 0)) from blk_put (cs := #[.nilIface]) HERR17.out 0 .nilIface rfl)
  have HO19 := Aside0.mk (show Off (fun k => k = gt) w (W17.setCell ⟨ge, 0, none⟩ .nilIface) from off_trans2 HO17.out (St.off_store (ge := ge)) (fun k hk e => by have := GE.out; omega))
  have HM19 := Aside0.mk (show Mo (W17.setCell ⟨ge, 0, none⟩ .nilIface) gt m16 v16 (pkt.bv out) from HM17.out.off (St.off_store (ge := ge)) (fun k hk e => by
    subst e
    rcases hk with e | e
    · exact hegt e
    · exact HVG.out e))
  obtain ⟨W19, hW19⟩ : ∃ W19, W17.setCell ⟨ge, 0, none⟩ .nilIface = W19 := ⟨_, rfl⟩
  rw [hW19] at HST19 HO19 HM19
  go_wp2_with fail
  refine leaves_cons (f := 48) (args := #[.pointer (some ⟨b2, 0, none⟩)]) (by simp) (by simp [go_sem]) ?_
  refine (put_deferred (.pointer (some ⟨b2, 0, none⟩)) .returning W19).mono ?_
  rintro e u1 x1 ⟨rfl, rfl, h1⟩
  refine leaves_cons (f := 48) (args := #[.pointer (some ⟨b1, 0, none⟩)]) (by simp [settle]) (by simp [go_sem]) ?_
  refine (put_deferred (.pointer (some ⟨b1, 0, none⟩)) _ x1).mono ?_
  rintro e u2 x2 ⟨rfl, rfl, h2⟩
  refine leaves_cons (f := 46) (args := #[.iface 78 (.pointer (some ⟨gt, 0, none⟩)), .pointer (some ⟨ge, 0, none⟩)]) (by simp [settle]) (by simp [go_sem]) ?_
  refine (checkClose_mo ⟨gt, 0, none⟩ ⟨ge, 0, none⟩ _ x2).mono ?_
  rintro e u3 x3 ⟨rfl, rfl, h3⟩
  refine leaves_cons (f := 46) (args := #[.iface 216 (.agg #[.pointer (some ⟨gr, 0, none⟩)]), .pointer (some ⟨ge, 0, none⟩)]) (by simp [settle]) (by simp [go_sem]) ?_
  refine (checkClose_nc ⟨gr, 0, none⟩ ⟨ge, 0, none⟩ _ x3).mono ?_
  rintro e u4 x4 ⟨rfl, rfl, h4⟩
  have hb : Below W19.heap.size W19 x4 := below_step (below_step (below_step h1 h2) h3) h4
  have q20 : x4.cell? ⟨ge, 0, none⟩ = some .nilIface := (blk_cell (blk_below HST19.out hb) 0).trans rfl
  have hfin : Mo x4 gt m16 v16 (pkt.bv out) ∧ Off (fun k => k = gt) w x4 := ⟨HM19.out.below hb, HO19.out.then_ hb⟩
  refine ⟨.nilIface, ?_, rfl, m16, v16, hfin.1, hfin.2⟩
  simp [results, Tryd.results32, go_sem, q20]
end
section
open Go.RowKit Go.Proofs.YtghcecngdhcjpaaDoorW.PrintWords Go.Proofs.YtghcecngdhcjpaaDoorW.PrintLast Go.Proofs.YtghcecngdhcjpaaDoorW.PrintMore Go.Proofs.YtghcecngdhcjpaaDoor.off Go.Proofs.YtghcecngdhcjpaaDoor.bf Go.Proofs.YtghcecngdhcjpaaDoor.pkt Go.Proofs.YtghcecngdhcjpaaDoor.mo
set_option linter.unusedVariables false
set_option linter.unusedSimpArgs false
set_option maxHeartbeats 4000000
set_option maxRecDepth 100000
theorem apply_any (w : World) (A0 A1 : Option Addr) (c0 c1 : Nat) (base delta rest : List Int) (T : Nat) (out : List Int) (hC0 : Kd.C (Kd.int .u8) w A0 base.length base) (hc0 : base.length ≤ c0) (hC1 : Kd.C (Kd.int .u8) w A1 delta.length delta) (hc1 : delta.length ≤ c1) (hbl : base.length ≤ 1000000) (hdl : delta.length ≤ 1000000) (hol : out.length ≤ 1000000)
    (e2 : Value) (ao az : Addr) (co cz : Nat) (hE : leb.Env w e2 ao az co cz) (hS : leb.Sized base delta rest T) (hP : leb.Patch base T rest [] (some out)) (ae : Addr) (hEof : Eof w ae) :
    Calls Tryd.prog 16 #[.slice A0 base.length c0, .slice A1 delta.length c1] w fun e w' => ∃ v, e = .returned (.tuple #[v, .bool true]) ∧ Slc w' v (pkt.bv out) ∧ Below w.heap.size w w' := by
  have HC0 := Aside0.mk hC0
  have HC1 := Aside0.mk hC1
  have HENV := Aside0.mk hE
  have HSZ := Aside0.mk hS
  have HPP := Aside0.mk hP
  have HEOF := Aside0.mk hEof
  have HBL := Aside0.mk hbl
  have HDL := Aside0.mk hdl
  have HOL := Aside0.mk hol
  clear hC0 hC1 hE hS hP hEof hbl hdl hol
  go_enter Tryd.func16, Tryd.ntmps16
  go_wp2_with fail
  refine (memory_any w A0 c0 base 3 (by decide) HC0.out hc0 (by have := HBL.out; omega)).mono ?_
  rintro e w1 ⟨gf, mf, vf, hgf, rfl, hM, hv, hb⟩
  have HMF := Aside0.mk hM
  have HB1 := Aside0.mk hb
  have HX := Aside0.mk (show (([] : List Int).length + delta.length) * 1 ≤ 140737488355328 by have := HDL.out; simp; omega)
  clear hM hv hb hgf
  go_wp2_with (first | ((with_reducible refine gate_dst (N := 11) rfl ?_); refine box_event ?hg (N := 11) ?hd (cs := mo.zero) (t := 84) ?hr ?_; (case hd => rfl); (case hg => rfl); (case hr => first | (go_simp; done) | (go_simp; rfl)); intro gt hgt w2 hbox hb; have BM := Aside0.mk hbox; have HB2 := Aside0.mk (show Below w1.heap.size w1 w2 from hb); have GT := Aside0.mk (show gt = w1.heap.size from hgt); have HB2' := Aside0.mk (below_step HB1.out hb); clear hbox hb hgt) | ((with_reducible refine gate_builtin (b := .append) (xs := #[.tmp 16, .tmp 17]) rfl ?_); at_builtin; go_must (refine Kd.R_append_row (Value.int .u8) 0 (w0 := w2) w2.heap.size rfl (.tmp 16) (.tmp 17) 25 5 (.int .u8 0) 1 rfl Tryd.underlying25 mo.info5 rfl (by decide) _ [] delta A1 delta.length c1 (fun _ => True) rfl rfl (fun _ _ => trivial) (leb.R_empty w2 _ (Nat.le_refl _)) (Kd.C_alloc (Kd.C_below HC1.out HB2'.out) _) (below_alloc (Below.refl _ _) _) (by simp) HX.out ?_); intro v1 w3 hR3 hB3 _ _; have HR3 := Aside0.mk hR3; have HB3 := Aside0.mk hB3; obtain ⟨A3, c3, rfl⟩ := Kd.R_slice hR3; clear hR3 hB3) | fail)
  obtain ⟨_, hc3, hC3⟩ := Kd.R_reads' HR3.out
  have hcm3 := leb.R_cap HR3.out
  simp only [List.nil_append] at hc3 hC3
  have HB3' := Aside0.mk (below_step HB2'.out HB3.out)
  have HT := Aside0.mk (mo.Mo.zero_ (blk_below BM.out HB3.out))
  have HF := Aside0.mk ((HMF.out.below HB2.out).below HB3.out)
  have HAD := Aside0.mk (applyDelta_any w3 gt gf mo.zero mf vf base delta rest T out A3 c3 HT.out HF.out hC3 hc3 hcm3 HBL.out HOL.out e2 ao az co cz (HENV.out.below HB3'.out) HSZ.out HPP.out ae ((HB3'.out.cell (World.block_lt_of_cell? w _ HEOF.out)).trans HEOF.out))
  have HGT := Aside0.mk (show w.heap.size ≤ gt by have := GT.out; have := HB1.out.size; omega)
  try simp only [List.nil_append]
  clear hc3 hC3 hcm3 HR3 BM HB2 HB3 HB2' HT HF HMF
  refine HAD.out.mono ?_
  rintro e w4 ⟨rfl, m', v', hm, ho⟩
  have HM4 := Aside0.mk hm
  have HB4 := Aside0.mk (HB3'.out.trans (ho.below HB3'.out.size (fun k hk => hk ▸ HGT.out)))
  clear hm ho HAD
  go_wp2_with fail
  refine (textOf_any w4 gt m' v' out ae HM4.out (by have := HOL.out; omega) ((HB4.out.cell (World.block_lt_of_cell? w _ HEOF.out)).trans HEOF.out)).mono ?_
  rintro e w5 ⟨v5, rfl, hs, hb⟩
  have HS5 := Aside0.mk hs
  have HB5 := Aside0.mk (below_step HB4.out hb)
  clear hs hb
  go_wp2_with fail
  go_ret2
  exact ⟨v5, rfl, HS5.out, HB5.out⟩
end
end Go.Proofs.YtghcecngdhcjpaaDoor.rf
