/- (*bytes.Buffer).ReadFrom of a nopCloser over a bytes.Reader. readAll, textOf, memory: a MemoryObject's text written and read. Reader and text of a MemoryObject; impl.memory. -/
import Derived.Test.YtghcecngdhcjpaaDoorBf
import Derived.Test.YtghcecngdhcjpaaDoorMo
import Derived.RegionTactic
import Derived.BigQuiet
import Derived.Test.YtghcecngdhcjpaaDoorImplPatch
namespace Go.Proofs.YtghcecngdhcjpaaDoor.rf
section
open Go.RowKit Go.Proofs.YtghcecngdhcjpaaDoorW.PrintWords Go.Proofs.YtghcecngdhcjpaaDoorW.PrintLast Go.Proofs.YtghcecngdhcjpaaDoorW.PrintMore Go.Proofs.YtghcecngdhcjpaaDoor.off Go.Proofs.YtghcecngdhcjpaaDoor.bf Go.Proofs.YtghcecngdhcjpaaDoor.pkt
set_option linter.unusedVariables false
set_option linter.unusedSimpArgs false
set_option maxHeartbeats 4000000
set_option maxRecDepth 100000
theorem nc_nil (a : Addr) (m : String) (hm : m = "Close" ∨ m = "Read") (w : World) : (nilAhead 326 216 (.agg #[.pointer (some a)]) m).run Tryd.prog w = .ok (some false) w := by
  rcases hm with rfl | rfl <;> kernel_rfl
theorem nc_read (a : Addr) (w : World) : (method 326 216 (.agg #[.pointer (some a)]) "Read").run Tryd.prog w = .ok (120, .pointer (some a)) w := by kernel_rfl
theorem nc_close (a : Addr) (w : World) : (method 326 216 (.agg #[.pointer (some a)]) "Close").run Tryd.prog w = .ok (137, .agg #[.pointer (some a)]) w := by kernel_rfl
theorem ncClose_any (a : Addr) (w : World) : Calls Tryd.prog 137 #[.agg #[.pointer (some a)]] w fun e w' => e = .returned .nilIface ∧ Below w.heap.size w w' := by
  go_enter Tryd.func137, Tryd.ntmps137
  go_wp2
  go_ret
  exact ⟨rfl, below_alloc (Below.refl _ _) _⟩
def Eof (w : World) (ae : Addr) : Prop := w.cell? ⟨0, 0, none⟩ = some (.iface 179 (.pointer (some ae)))
theorem err_info : (∃ i : TypeInfo, Tryd.prog.info? 179 = some i ∧ i.comparable = true) ∧ ∃ j : TypeInfo, Tryd.prog.info? 181 = some j ∧ j.size ≠ 0 := by
  refine ⟨?_, ?_⟩
  · obtain ⟨i, hi⟩ := Option.isSome_iff_exists.1 (show (Tryd.prog.info? 179).isSome = true by kernel_rfl)
    have h : (Tryd.prog.info? 179).map (·.comparable) = some true := by kernel_rfl
    rw [hi] at h
    exact ⟨i, hi, by simpa using h⟩
  · obtain ⟨j, hj⟩ := Option.isSome_iff_exists.1 (show (Tryd.prog.info? 181).isSome = true by kernel_rfl)
    have h : (Tryd.prog.info? 181).map (·.size) = some 1 := by kernel_rfl
    rw [hj] at h
    exact ⟨j, hj, by have : j.size = 1 := by simpa using h
                     omega⟩
theorem same_err (a : Addr) (w : World) : (binOp .eql 55 (.iface 179 (.pointer (some a))) (.iface 179 (.pointer (some a)))).run Tryd.prog w = .ok (.bool true) w := by
  obtain ⟨⟨i, hi, hc⟩, j, hj, _⟩ := err_info
  exact run_eql_iface_ptr_same w a Tryd.underlying55 Tryd.underlying179 hi hc hj
theorem nil_err (τ : TypeId) (v : Value) (w : World) : (binOp .eql 55 .nilIface (.iface τ v)).run Tryd.prog w = .ok (.bool false) w := run_eql_iface_nil_left w τ v Tryd.underlying55
theorem grow_room (b n : Nat) (A : Option Addr) (c : Nat) (bs : List Value) (w : World) (h : Bf w b (.slice A bs.length c) bs) (hr : n ≤ c - bs.length) :
    Calls Tryd.prog 42 #[.pointer (some ⟨b, 0, none⟩), .int .i64 n] w fun e w' => e = .returned (.int .i64 bs.length) ∧ Grown w w' b n (.slice A bs.length c) bs := by
  have HH := Aside0.mk h
  have hIs := h.isB
  obtain ⟨l, hl⟩ : ∃ l, bs.length = l := ⟨_, rfl⟩
  have HL := Aside0.mk hl
  by_cases hl0 : l = 0
  · have z0 : ((l : Int) == 0) = true := by rw [beq_iff_eq]; omega
    have z1 : (l == 0) = true := by rw [beq_iff_eq]; omega
    clear h hl0
    go_enter Tryd.func42, Tryd.ntmps42
    go_wp2_with (go_at_call 50; refine (Tryd.Buffer_Len 0 b bs _ hIs).mono ?_)
    rintro e W0 ⟨rfl, k, hW0⟩
    have hB0 : Bf W0 b (.slice A bs.length c) bs := by rw [hW0]; exact HH.out.drewN k
    have c1 := hB0.c1
    have HB0 := Aside0.mk hB0
    have HW0 := Aside0.mk hW0
    rw [hl]
    clear hW0 hB0 hIs
    go_wp2_with fail
    refine (tryGrow_any b n _ bs W0 HB0.out).mono ?_
    rintro e W1 (⟨rfl, hG⟩ | ⟨rfl, rfl, hnr⟩)
    · have HG := Aside0.mk hG
      clear hG
      rw [hl]
      go_wp2_with fail
      go_ret
      try rw [HL.out]
      obtain ⟨xs, v', e1, e2, e3, e4⟩ := HG.out.out
      refine ⟨rfl, ⟨xs, v', e1, e2, ?_, ?_⟩⟩
      · refine Off.trans (w1 := W0) ?_ e3
        rw [HW0.out]; exact (Off.refl _ _).drewN _
      · have e5 := HW0.out
        subst e5
        rw [hl] at e4
        exact e4
    · exfalso
      obtain ⟨ao, l1, cap, hc, hlt⟩ := hnr
      rw [HB0.out.c0] at hc
      cases hc
      omega
  · have z0 : ((l : Int) == 0) = false := by rw [beq_eq_false_iff_ne]; omega
    have z1 : (l == 0) = false := by rw [beq_eq_false_iff_ne]; omega
    clear h hl0
    go_enter Tryd.func42, Tryd.ntmps42
    go_wp2_with (go_at_call 50; refine (Tryd.Buffer_Len 0 b bs _ hIs).mono ?_)
    rintro e W0 ⟨rfl, k, hW0⟩
    have hB0 : Bf W0 b (.slice A bs.length c) bs := by rw [hW0]; exact HH.out.drewN k
    have c1 := hB0.c1
    have HB0 := Aside0.mk hB0
    have HW0 := Aside0.mk hW0
    rw [hl]
    clear hW0 hB0 hIs
    go_wp2_with fail
    refine (tryGrow_any b n _ bs W0 HB0.out).mono ?_
    rintro e W1 (⟨rfl, hG⟩ | ⟨rfl, rfl, hnr⟩)
    · have HG := Aside0.mk hG
      clear hG
      rw [hl]
      go_wp2_with fail
      go_ret
      try rw [HL.out]
      obtain ⟨xs, v', e1, e2, e3, e4⟩ := HG.out.out
      refine ⟨rfl, ⟨xs, v', e1, e2, ?_, ?_⟩⟩
      · refine Off.trans (w1 := W0) ?_ e3
        rw [HW0.out]; exact (Off.refl _ _).drewN _
      · have e5 := HW0.out
        subst e5
        rw [hl] at e4
        exact e4
    · exfalso
      obtain ⟨ao, l1, cap, hc, hlt⟩ := hnr
      rw [HB0.out.c0] at hc
      cases hc
      omega
theorem grow_all (b n : Nat) (v : Value) (bs : List Value) (w : World) (h : Bf w b v bs) (h1 : ∀ v ∈ bs, v.oneCell' = true) (hlim : bs.length + n ≤ 140737488355328) :
    Calls Tryd.prog 42 #[.pointer (some ⟨b, 0, none⟩), .int .i64 n] w fun e w' => e = .returned (.int .i64 bs.length) ∧ Grown w w' b n v bs := by
  obtain ⟨A, c, rfl, hc, hcm⟩ := h.shape
  by_cases hr : n ≤ c - bs.length
  · exact grow_room b n A c bs w h hr
  · exact grow_any b n _ bs w h ⟨A, _, c, h.c0, by omega⟩ h1 hlim
theorem off_near {w w' : World} {g : Nat} {row : Option Nat} (h : Near w w' g row) : Off (fun k => k = g ∨ row = some k) w w' :=
  ⟨h.os, h.tape, h.output, h.size, fun k hk hn => h.block k hk (fun e => hn (.inl e)) (fun e => hn (.inr e.symm))⟩
theorem bv_take_snoc (xs : List Int) (i k : Nat) : pkt.bv (xs.take i) ++ pkt.bv ((xs.drop i).take k) = pkt.bv (xs.take (i + ((xs.drop i).take k).length)) := by
  unfold pkt.bv
  rw [← List.map_append]
  congr 1
  have h : xs.take (i + ((xs.drop i).take k).length) = xs.take i ++ (xs.drop i).take ((xs.drop i).take k).length := List.take_add
  rw [h]
  congr 1
  rw [List.length_take]
  by_cases hk : k ≤ (xs.drop i).length
  · rw [Nat.min_eq_left hk]
  · rw [Nat.min_eq_right (by omega), List.take_of_length_le (by omega), List.take_of_length_le (Nat.le_refl _)]
/-- A call of a method through an interface value, as an arm of a region's walk. -/
theorem goesI_ {P : Program} {ops : Array Oper} {Q : Exit → Act → World → Prop} {oi : Oper} {N : Option Tmp} {a : Act} {w : World} {K : Act → World → Prop} {f : FuncId} {fn : Func} {r : Operand} {name : String} {os : Array Operand} {ts : Array TypeId} (hf : P.funcs[f]? = some fn) (hname : (fn.name == "runtime.NumGoroutine") = false) (hb : fn.body.isSome = true) (τ : TypeId) (u u' : Value) (args : Array Value)
    (hm : (method (P.types.size + Made.depth) τ u name).run P w = .ok (f, u') w) (hw : Region.wanted oi (yielded ops a.tmps) = true) (hN : oi.dst = N) (hop : oi.op = .call { callee := .invoke r name, args := os, argTypes := ts }) (hr : a.eval r = .iface τ u) (hargs : os.map a.eval = args)
    (h : Calls P f (#[u'] ++ args) w fun e w' => ∃ v, e = .returned v ∧ K (a.put N v) w') : if Region.wanted oi (yielded ops a.tmps) = true then Oper.wp P oi a w K Q else K (a.put N undef) w := by
  refine call_ f (#[u'] ++ args) hw hN ?_ h
  have he := enters_ hf hname hb (#[u'] ++ args) w
  unfold execOp
  have e0 : (#[Value.iface τ u] ++ args)[0]? = some (.iface τ u) := by
    rw [Array.getElem?_append_left (by simp)]
    rfl
  have e1 : (#[Value.iface τ u] ++ args).extract 1 (#[Value.iface τ u] ++ args).size = args := by
    apply Array.ext
    · simp
    · intro i h1 h2
      simp
  simp only [hop, resolve, hr, hargs, Sem.run_bind, Sem.run_pure, Result.andThen_ok, invoke, e0, e1, callMethod, run_program, hm]
  exact he
/-- The row behind a reading. -/
theorem splice_take {cur : List Value} {i : Nat} {ys : List Value} (hi : i ≤ cur.length) : (splice cur i ys).take (i + ys.length) = cur.take i ++ ys := by
  unfold splice
  have hl : (cur.take i ++ ys).length = i + ys.length := by rw [List.length_append, List.length_take, Nat.min_eq_left hi]
  first
    | (rw [← hl]; exact List.take_left' rfl)
    | (rw [← List.append_assoc, ← hl]; exact List.take_left' rfl)
theorem splice_len {cur : List Value} {i : Nat} {ys : List Value} (hi : i + ys.length ≤ cur.length) : (splice cur i ys).length = cur.length := by
  unfold splice
  simp only [List.length_append, List.length_take, List.length_drop]
  omega
theorem bf_row {w : World} {b g n cap : Nat} {lr : Int} {cur : List Value} {bs : List Value} (hbk : w.heap[b]? = some (.cells #[.slice (some ⟨g, 0, none⟩) n cap, .int .i64 0, .int .i8 lr] 47 (0, 0))) (hg : w.heap[g]? = some (.cells cur.toArray 5 (0, 0))) (hnc : n ≤ cap) (hcm : cap ≤ maxLen) (hcs : cur.length = cap) (hgb : g ≠ b) (ht : cur.take n = bs) : Bf w b (.slice (some ⟨g, 0, none⟩) n cap) bs := by
  refine ⟨?_, by rw [Lib.cell_of_heap hbk]; rfl⟩
  have h := Lib.isBuffer_mk (B := 0) (T := 47) (e := 5) (lr := lr) (cur := cur.toArray) (Nat.zero_le b) hbk (Nat.zero_le g) hg hnc hcm (by simpa using hcs) hgb
  rw [List.toList_toArray, ht] at h
  exact h
/-- A buffer with a row: its row's cells. -/
theorem open_row {w : World} {b g n cap : Nat} {bs : List Value} (h : Bf w b (.slice (some ⟨g, 0, none⟩) n cap) bs) : ∃ (lr : Int) (cur : List Value), w.heap[b]? = some (.cells #[.slice (some ⟨g, 0, none⟩) n cap, .int .i64 0, .int .i8 lr] 47 (0, 0)) ∧ w.heap[g]? = some (.cells cur.toArray 5 (0, 0)) ∧ n ≤ cap ∧ cap ≤ maxLen ∧ cur.length = cap ∧ g ≠ b ∧ cur.take n = bs ∧ n = bs.length := by
  obtain ⟨lr, hbk, hown, hne⟩ := h.open_
  rcases hown.2 with ⟨e, _⟩ | ⟨g', cap', cur, e, _, hg, hnc, hcm, hcs, htk⟩
  · cases e
  · injection e with e1 e2 e3
    injection e1 with e1
    injection e1 with e1
    subst e1 e3
    rw [← e2] at hnc htk
    rw [Nat.mul_one] at hcs htk
    exact ⟨lr, cur.toList, hbk, by simpa using hg, hnc, hcm, by simpa using hcs, by simpa [Value.ownBlock] using hne, htk, e2⟩
theorem readFrom_any (w0 w : World) (A : Option Addr) (c : Nat) (xs : List Int) (gr b : Nat) (ae : Addr) (hS : (Kd.int .u8).C w0 A xs.length xs) (hc : xs.length ≤ c) (hB : Below w0.heap.size w0 w) (hR : AtRd w gr A xs.length c 0) (hF : Bf w b (.slice none 0 0) []) (hge : w0.heap.size ≤ gr) (hgb : w0.heap.size ≤ b) (hne : gr ≠ b) (hx : xs.length ≤ 2147483647) (hE : Eof w0 ae) :
    Calls Tryd.prog 49 #[.pointer (some ⟨b, 0, none⟩), .iface 216 (.agg #[.pointer (some ⟨gr, 0, none⟩)])] w fun e w' => e = .returned (.tuple #[.int .i64 (xs.length : Int), .nilIface]) ∧ ∃ v, Bf w' b v (pkt.bv xs) ∧ Off (fun k => k = b ∨ k = gr) w w' ∧ AtRd w' gr A xs.length c xs.length ∧ Below w0.heap.size w0 w' := by
  obtain ⟨lr, c2⟩ := hF.c2
  have f2 := hF.f0 2
  have hF0 := hF.last 0
  have ho0 : Off (fun k => k = b ∨ k = gr) w (w.setCell ⟨b, 2, none⟩ (.int .i8 0)) := (Off.refl (fun k => k = b ∨ k = gr) _).cell (show b = b ∨ b = gr from .inl rfl) 2 _
  have hb0 : Below w0.heap.size w0 (w.setCell ⟨b, 2, none⟩ (.int .i8 0)) := hB.setCell (show w0.heap.size ≤ b from hgb) _
  have hR0 : AtRd (w.setCell ⟨b, 2, none⟩ (.int .i8 0)) gr A xs.length c 0 := by
    obtain ⟨pr, h⟩ := hR
    exact ⟨pr, by rw [Below.heap_setCell _ _ _ _ hne]; exact h⟩
  obtain ⟨W0, hW0⟩ : ∃ W0, w.setCell ⟨b, 2, none⟩ (.int .i8 0) = W0 := ⟨_, rfl⟩
  rw [hW0] at hF0 ho0 hb0 hR0
  have hWS : w.heap.size ≤ W0.heap.size := ho0.size
  have hse := same_err ae
  have hsn := nil_err 179 (.pointer (some ae))
  have hn1 := nc_nil ⟨gr, 0, none⟩ "Read" (.inr rfl)
  have hm1 := nc_read ⟨gr, 0, none⟩
  have HS := Aside0.mk hS
  have HE := Aside0.mk hE
  have HGE := Aside0.mk hge
  have HGB := Aside0.mk hgb
  have HNE := Aside0.mk hne
  have HF0 := Aside0.mk hF0
  have HO0 := Aside0.mk ho0
  have HB0 := Aside0.mk hb0
  have HR0 := Aside0.mk hR0
  have HWS := Aside0.mk hWS
  have HWW := Aside0.mk hB.size
  clear hS hE hB hR hF hge hgb hne hF0 ho0 hb0 hR0 hWS
  go_enter Tryd.func49, Tryd.ntmps49
  go_wp2_with fail
  clear c2 f2
  go_loopg [4] (xs.length + 1) (fun kq v4 w' => ∃ (i : Nat) (v : Value), v4 = .int .i64 (i : Int) ∧ i ≤ xs.length ∧ Aside0 (xs.length - i < kq) ∧ Aside0 (Bf w' b v (pkt.bv (xs.take i))) ∧ Aside0 (AtRd w' gr A xs.length c i) ∧ Aside0 (Off (fun k => k = b ∨ k = gr) w w') ∧ Aside0 (Below w0.heap.size w0 w') ∧ Aside0 (∀ k, v.ownBlock = some k → w.heap.size ≤ k))
  case atStart => exact ⟨0, .slice none 0 0, rfl, Nat.zero_le _, ⟨by omega⟩, HF0, HR0, HO0, HB0, ⟨by simp [Value.ownBlock]⟩⟩
  case round =>
    obtain ⟨i, v, rfl, hi, HK, HF, HR, HO, HB, HV⟩ := hrel
    clear HF0 HR0 HO0 HB0
    have hbl : (pkt.bv (xs.take i)).length = i := by rw [pkt.bv_len, List.length_take, Nat.min_eq_left hi]
    have HGR := Aside0.mk (grow_all b 512 v (pkt.bv (xs.take i)) wr HF.out (pkt.bv_one _) (by rw [hbl]; omega))
    rw [hbl] at HGR
    go_wp2_with fail
    refine HGR.out.mono ?_
    rintro e w1 ⟨rfl, hG⟩
    obtain ⟨zs, g, cap, cur0, hz, hF1, ho1, hv1, _⟩ := hG.row (by decide)
    rw [hbl] at hF1
    obtain ⟨lr1, cur, hbk1, hg1, hnc1, hcm1, hcl1, hgb1, htk1, _⟩ := open_row hF1
    have q0 := (blk_cell hbk1 0).trans (show _ = some (Value.slice (some ⟨g, 0, none⟩) (i + 512) cap) from rfl)
    have f0 := blk_frozen hbk1 0
    have hgf : w.heap.size ≤ g := by
      rcases hv1 with h | h
      · exact HV.out g h
      · exact Nat.le_trans (HO.out.size) h
    have hcut : cur.take i = pkt.bv (xs.take i) := by
      have h3 := congrArg (List.take i) htk1
      rwa [List.take_take, Nat.min_eq_left (Nat.le_add_right _ _), List.take_left' hbl] at h3
    have hgr1 : AtRd w1 gr A xs.length c i := by
      obtain ⟨pr, h⟩ := HR.out
      exact ⟨pr, (ho1.block gr (blk_lt h) HNE.out).trans h⟩
    have hb1 : Below w0.heap.size w0 w1 := HB.out.trans (ho1.below (HB.out.size) (fun k hk => hk ▸ HGB.out))
    have ho1' : Off (fun k => k = b ∨ k = gr) w w1 := HO.out.trans (ho1.mono (fun k hk => .inl hk))
    obtain ⟨W2, hW2⟩ : ∃ W2, w1.setCell ⟨b, 0, none⟩ (.slice (some ⟨g, 0, none⟩) i cap) = W2 := ⟨_, rfl⟩
    have hbk2 : W2.heap[b]? = some (.cells #[.slice (some ⟨g, 0, none⟩) i cap, .int .i64 0, .int .i8 lr1] 47 (0, 0)) := by rw [← hW2]; exact Lib.heap_setCell_same (i := 0) hbk1 _
    have hg2 : W2.heap[g]? = some (.cells cur.toArray 5 (0, 0)) := by rw [← hW2, Below.heap_setCell _ _ _ _ hgb1]; exact hg1
    have hr2 : AtRd W2 gr A xs.length c i := by
      obtain ⟨pr, h⟩ := hgr1
      exact ⟨pr, by rw [← hW2, Below.heap_setCell _ _ _ _ HNE.out]; exact h⟩
    have hb2 : Below w0.heap.size w0 W2 := by rw [← hW2]; exact hb1.setCell (show w0.heap.size ≤ b from HGB.out) _
    have ho2 : Off (fun k => k = b ∨ k = gr) w W2 := by rw [← hW2]; exact ho1'.cell (show b = b ∨ b = gr from .inl rfl) 0 _
    have hic : i ≤ cap := by omega
    have hgne : g ≠ gr := by
      intro e
      subst e
      obtain ⟨pr, h⟩ := hr2
      rw [hg2] at h
      injection h with h
      injection h with _ h _
      exact absurd h (by decide)
    have r0 := (blk_cell hbk2 0).trans (show _ = some (Value.slice (some ⟨g, 0, none⟩) i cap) from rfl)
    have hglt : 0 < w0.heap.size := World.block_lt_of_cell? w0 _ HE.out
    have HRD := Aside0.mk (read_any w0 W2.drew A c xs gr g i i (cap - i) (cap - i) cur 5 (.iface 179 (.pointer (some ae))) HS.out hc (below_drew hb2) hr2 hg2 hgne (by omega) HGE.out hi (by omega) ((hb2.cell hglt).trans HE.out))
    have HBK2 := Aside0.mk hbk2
    have HG2 := Aside0.mk hg2
    have HB2 := Aside0.mk hb2
    have HO2 := Aside0.mk ho2
    have HGF := Aside0.mk hgf
    have HCUT := Aside0.mk hcut
    have HCL := Aside0.mk hcl1
    have HCM := Aside0.mk hcm1
    have HGNE := Aside0.mk hgne
    have HGB1 := Aside0.mk hgb1
    have HFIT := Aside0.mk (show i + 512 ≤ cap from hnc1)
    have v1 : (0 : Int) ≤ (i : Int) := by omega
    have v2 : (i : Int) ≤ (cap : Int) := by omega
    have v3 : i ≤ cap := hic
    have v4 : (cap = i) = False := eq_false (by omega)
    clear hz hbl hcl1 hcm1 hgf hgne hgb1
    clear hG hF1 ho1 hv1 hbk1 hg1 htk1 hcut hgr1 hb1 ho1' hbk2 hg2 hr2 hb2 ho2 HGR HF HR HO HB HV
    go_wp2_with fail
    refine start_ (n := 21) (S := fun w' => w'.cell? ⟨b, 0, none⟩ = some (.slice (some ⟨g, 0, none⟩) i cap)) (ds := [15]) #[false, false, false, false, false, false, false, false, false, false, false, false, false, false, false, false, false, false, false, false, false] (by kernel_rfl) rfl rfl ((blk_cell (blk_drew HBK2.out) 0).trans rfl) (fun hHeld => ?_)
    refine pure_ (i := 0) (N := some 24) (v := ?_) (a' := ?_) #[true, false, false, false, false, false, false, false, false, false, false, false, false, false, false, false, false, false, false, false, false] rfl rfl (by kernel_rfl) (fun _ _ _ h => h) (Or.inl ⟨by rfl, ?_⟩) ?_ ?_
    rotate_left
    · intro w'
      go_simp
      with_reducible rfl
    rotate_left
    · simp only [Act.put, List.setIfInBounds_toArray, List.set_cons_zero, List.set_cons_succ, i64_w, i32_w]
      rfl
    refine pure_ (i := 1) (N := some 25) (v := ?_) (a' := ?_) #[true, true, false, false, false, false, false, false, false, false, false, false, false, false, false, false, false, false, false, false, false] rfl rfl (by kernel_rfl) (fun _ _ _ h => h) (Or.inl ⟨by rfl, ?_⟩) ?_ ?_
    rotate_left
    · intro w'
      go_simp
      with_reducible rfl
    rotate_left
    · simp only [Act.put, List.setIfInBounds_toArray, List.set_cons_zero, List.set_cons_succ, i64_w, i32_w]
      rfl
    refine pure_ (i := 2) (N := some 26) (v := ?_) (a' := ?_) #[true, true, true, false, false, false, false, false, false, false, false, false, false, false, false, false, false, false, false, false, false] rfl rfl (by kernel_rfl) (fun _ _ _ h => h) (Or.inl ⟨by rfl, ?_⟩) ?_ ?_
    rotate_left
    · intro w'
      go_simp
      with_reducible rfl
    rotate_left
    · simp only [Act.put, List.setIfInBounds_toArray, List.set_cons_zero, List.set_cons_succ, i64_w, i32_w]
      rfl
    refine pure_ (i := 3) (N := some 27) (v := ?_) (a' := ?_) #[true, true, true, true, false, false, false, false, false, false, false, false, false, false, false, false, false, false, false, false, false] rfl rfl (by kernel_rfl) (fun _ _ _ h => h) (Or.inl ⟨by rfl, ?_⟩) ?_ ?_
    rotate_left
    · intro w'
      go_simp
      with_reducible rfl
    rotate_left
    · simp only [Act.put, List.setIfInBounds_toArray, List.set_cons_zero, List.set_cons_succ, i64_w, i32_w]
      rfl
    refine pure_ (i := 5) (N := some 29) (v := ?_) (a' := ?_) #[true, true, true, true, false, true, false, false, false, false, false, false, false, false, false, false, false, false, false, false, false] rfl rfl (by kernel_rfl) (fun _ _ _ h => h) (Or.inl ⟨by rfl, ?_⟩) ?_ ?_
    rotate_left
    · intro w'
      go_simp
      with_reducible rfl
    rotate_left
    · simp only [Act.put, List.setIfInBounds_toArray, List.set_cons_zero, List.set_cons_succ, i64_w, i32_w]
      rfl
    refine pure_ (i := 6) (N := some 30) (v := ?_) (a' := ?_) #[true, true, true, true, false, true, true, false, false, false, false, false, false, false, false, false, false, false, false, false, false] rfl rfl (by kernel_rfl) (fun _ _ _ h => h) (Or.inl ⟨by rfl, ?_⟩) ?_ ?_
    rotate_left
    · intro w'
      go_simp
      with_reducible rfl
    rotate_left
    · simp only [Act.put, List.setIfInBounds_toArray, List.set_cons_zero, List.set_cons_succ, i64_w, i32_w]
      rfl
    refine pure_ (i := 7) (N := some 31) (v := ?_) (a' := ?_) #[true, true, true, true, false, true, true, true, false, false, false, false, false, false, false, false, false, false, false, false, false] rfl rfl (by kernel_rfl) (fun _ _ _ h => h) (Or.inl ⟨by rfl, ?_⟩) ?_ ?_
    rotate_left
    · intro w'
      go_simp
      with_reducible rfl
    rotate_left
    · simp only [Act.put, List.setIfInBounds_toArray, List.set_cons_zero, List.set_cons_succ, i64_w, i32_w]
      rfl
    refine pure_ (i := 8) (N := some 32) (v := ?_) (a' := ?_) #[true, true, true, true, false, true, true, true, true, false, false, false, false, false, false, false, false, false, false, false, false] rfl rfl (by kernel_rfl) (fun _ _ _ h => h) (Or.inl ⟨by rfl, ?_⟩) ?_ ?_
    rotate_left
    · intro w'
      go_simp
      with_reducible rfl
    rotate_left
    · simp only [Act.put, List.setIfInBounds_toArray, List.set_cons_zero, List.set_cons_succ, i64_w, i32_w]
      rfl
    refine pure_ (i := 12) (N := some 36) (v := ?_) (a' := ?_) #[true, true, true, true, false, true, true, true, true, false, false, false, true, false, false, false, false, false, false, false, false] rfl rfl (by kernel_rfl) (fun _ _ _ h => h) (Or.inl ⟨by rfl, ?_⟩) ?_ ?_
    rotate_left
    · intro w'
      go_simp
      with_reducible rfl
    rotate_left
    · simp only [Act.put, List.setIfInBounds_toArray, List.set_cons_zero, List.set_cons_succ, i64_w, i32_w]
      rfl
    refine pure_ (i := 13) (N := some 37) (v := ?_) (a' := ?_) #[true, true, true, true, false, true, true, true, true, false, false, false, true, true, false, false, false, false, false, false, false] rfl rfl (by kernel_rfl) (fun _ _ _ h => h) (Or.inl ⟨by rfl, ?_⟩) ?_ ?_
    rotate_left
    · intro w'
      go_simp
      with_reducible rfl
    rotate_left
    · simp only [Act.put, List.setIfInBounds_toArray, List.set_cons_zero, List.set_cons_succ, i64_w, i32_w]
      rfl
    refine pure_ (i := 14) (N := some 38) (v := ?_) (a' := ?_) #[true, true, true, true, false, true, true, true, true, false, false, false, true, true, true, false, false, false, false, false, false] rfl rfl (by kernel_rfl) (fun _ _ _ h => h) (Or.inl ⟨by rfl, ?_⟩) ?_ ?_
    rotate_left
    · intro w'
      go_simp
      with_reducible rfl
    rotate_left
    · simp only [Act.put, List.setIfInBounds_toArray, List.set_cons_zero, List.set_cons_succ, i64_w, i32_w]
      rfl
    refine take_ (i := 4) (N := some 28) (v := ?_) (a' := ?_) #[true, true, true, true, true, true, true, true, true, false, false, false, true, true, true, false, false, false, false, false, false] rfl rfl (by kernel_rfl) (fun _ _ _ h => h) (Or.inl ⟨by rfl, ?_⟩) hHeld ?_ ?_
    rotate_left
    · intro w' s0
      go_simp
      with_reducible rfl
    rotate_left
    · simp only [Act.put, List.setIfInBounds_toArray, List.set_cons_zero, List.set_cons_succ, i64_w, i32_w]
      rfl
    refine take_ (i := 9) (N := some 33) (v := ?_) (a' := ?_) #[true, true, true, true, true, true, true, true, true, true, false, false, true, true, true, false, false, false, false, false, false] rfl rfl (by kernel_rfl) (fun _ _ _ h => h) (Or.inl ⟨by rfl, ?_⟩) hHeld ?_ ?_
    rotate_left
    · intro w' s0
      go_simp
      with_reducible rfl
    rotate_left
    · simp only [Act.put, List.setIfInBounds_toArray, List.set_cons_zero, List.set_cons_succ, i64_w, i32_w]
      rfl
    refine pure_ (i := 10) (N := some 34) (v := ?_) (a' := ?_) #[true, true, true, true, true, true, true, true, true, true, true, false, true, true, true, false, false, false, false, false, false] rfl rfl (by kernel_rfl) (fun _ _ _ h => h) (Or.inl ⟨by rfl, ?_⟩) ?_ ?_
    rotate_left
    · intro w'
      go_simp
      with_reducible rfl
    rotate_left
    · simp only [Act.put, List.setIfInBounds_toArray, List.set_cons_zero, List.set_cons_succ, i64_w, i32_w]
      rfl
    refine pure_ (i := 11) (N := some 35) (v := ?_) (a' := ?_) #[true, true, true, true, true, true, true, true, true, true, true, true, true, true, true, false, false, false, false, false, false] rfl rfl (by kernel_rfl) (fun _ _ _ h => h) (Or.inl ⟨by rfl, ?_⟩) ?_ ?_
    rotate_left
    · intro w'
      go_simp
      with_reducible rfl
    rotate_left
    · simp only [Act.put, List.setIfInBounds_toArray, List.set_cons_zero, List.set_cons_succ, i64_w, i32_w]
      rfl
    refine last_ (i := 15) (N := some 39) #[true, true, true, true, true, true, true, true, true, true, true, true, true, true, true, true, false, false, false, false, false] rfl rfl (by kernel_rfl) (by decide) (fun K hK => ?_)
    refine goesI_ Tryd.func120 (by kernel_rfl) rfl 216 (.agg #[.pointer (some ⟨gr, 0, none⟩)]) (.pointer (some ⟨gr, 0, none⟩)) #[.slice (some ⟨g, i, none⟩) (cap - i) (cap - i)] (hm1 _) (by rfl) rfl rfl rfl (by simp only [List.map_toArray, List.map_cons, List.map_nil]; rfl) ?_
    refine HRD.out.mono ?_
    rintro e w3 ⟨hn3, hr3, hg3, rfl⟩
    refine ⟨_, rfl, ?_⟩
    refine hK.out _ _ ?_
    clear hK K
    refine norm_ (a' := ?_) ?_ ?_
    rotate_left
    · show Act.put _ (some 39) _ = _
      simp only [Act.put, List.setIfInBounds_toArray, List.set_cons_zero, List.set_cons_succ, i64_w, i32_w]
      rfl
    refine pure_ (i := 16) (N := some 23) (v := ?_) (a' := ?_) #[true, true, true, true, true, true, true, true, true, true, true, true, true, true, true, true, true, false, false, false, false] rfl rfl (by kernel_rfl) (fun _ _ _ h => h) (Or.inl ⟨by rfl, ?_⟩) ?_ ?_
    rotate_left
    · intro w'
      go_simp
      with_reducible rfl
    rotate_left
    · simp only [Act.put, List.setIfInBounds_toArray, List.set_cons_zero, List.set_cons_succ, i64_w, i32_w]
      rfl
    refine pure_ (i := 17) (N := some 40) (v := ?_) (a' := ?_) #[true, true, true, true, true, true, true, true, true, true, true, true, true, true, true, true, true, true, false, false, false] rfl rfl (by kernel_rfl) (fun _ _ _ h => h) (Or.inl ⟨by rfl, ?_⟩) ?_ ?_
    rotate_left
    · intro w'
      go_simp
      with_reducible rfl
    rotate_left
    · simp only [Act.put, List.setIfInBounds_toArray, List.set_cons_zero, List.set_cons_succ, i64_w, i32_w]
      rfl
    refine pure_ (i := 18) (N := some 41) (v := ?_) (a' := ?_) #[true, true, true, true, true, true, true, true, true, true, true, true, true, true, true, true, true, true, true, false, false] rfl rfl (by kernel_rfl) (fun _ _ _ h => h) (Or.inl ⟨by rfl, ?_⟩) ?_ ?_
    rotate_left
    · intro w'
      go_simp
      with_reducible rfl
    rotate_left
    · simp only [Act.put, List.setIfInBounds_toArray, List.set_cons_zero, List.set_cons_succ, i64_w, i32_w]
      rfl
    refine pure_ (i := 19) (N := some 7) (v := ?_) (a' := ?_) #[true, true, true, true, true, true, true, true, true, true, true, true, true, true, true, true, true, true, true, true, false] rfl rfl (by kernel_rfl) (fun _ _ _ h => h) (Or.inl ⟨by rfl, ?_⟩) ?_ ?_
    rotate_left
    · intro w'
      go_simp
      with_reducible rfl
    rotate_left
    · simp only [Act.put, List.setIfInBounds_toArray, List.set_cons_zero, List.set_cons_succ, i64_w, i32_w]
      rfl
    refine pure_ (i := 20) (N := some 8) (v := ?_) (a' := ?_) #[true, true, true, true, true, true, true, true, true, true, true, true, true, true, true, true, true, true, true, true, true] rfl rfl (by kernel_rfl) (fun _ _ _ h => h) (Or.inl ⟨by rfl, ?_⟩) ?_ ?_
    rotate_left
    · intro w'
      go_simp
      with_reducible rfl
    rotate_left
    · simp only [Act.put, List.setIfInBounds_toArray, List.set_cons_zero, List.set_cons_succ, i64_w, i32_w]
      rfl
    refine done_ (by kernel_rfl) ?_

    obtain ⟨ys, hys⟩ : ∃ ys, (xs.drop i).take (cap - i) = ys := ⟨_, rfl⟩
    rw [hys] at hr3 hg3
    obtain ⟨m, hm⟩ : ∃ m, min (cap - i) (xs.length - i) = m := ⟨_, rfl⟩
    have hyl : ys.length = m := by rw [← hys, List.length_take, List.length_drop, hm]
    have hgb1 := HGB1.out
    have hgne := HGNE.out
    have hbk3 : w3.heap[b]? = some (.cells #[.slice (some ⟨g, 0, none⟩) i cap, .int .i64 0, .int .i8 lr1] 47 (0, 0)) := (hn3.block b (blk_lt HBK2.out) (fun e => HNE.out e.symm) (fun e => hgb1 (Option.some.inj e).symm)).trans HBK2.out
    have q3 := (blk_cell hbk3 0).trans (show _ = some (Value.slice (some ⟨g, 0, none⟩) i cap) from rfl)
    have f3 := blk_frozen hbk3 0
    have hbe : pkt.bv (xs.take i) ++ pkt.bv ys = pkt.bv (xs.take (i + ys.length)) := by rw [← hys]; exact bv_take_snoc xs i (cap - i)
    have hyc : i + ys.length ≤ cap := by omega
    have hyx : i + ys.length ≤ xs.length := by omega
    have hF4 : Bf (w3.setCell ⟨b, 0, none⟩ (.slice (some ⟨g, 0, none⟩) (i + ys.length) cap)) b (.slice (some ⟨g, 0, none⟩) (i + ys.length) cap) (pkt.bv (xs.take (i + ys.length))) := by
      refine bf_row (lr := lr1) (cur := splice cur i (pkt.bv ys)) (Lib.heap_setCell_same (i := 0) hbk3 _) (by rw [Below.heap_setCell _ _ _ _ hgb1]; exact hg3) hyc HCM.out (by rw [splice_len (by rw [pkt.bv_len, HCL.out]; exact hyc)]; exact HCL.out) hgb1 ?_
      rw [← hbe, ← HCUT.out, ← splice_take (by rw [HCL.out]; omega), pkt.bv_len]
    have hR4 : AtRd (w3.setCell ⟨b, 0, none⟩ (.slice (some ⟨g, 0, none⟩) (i + ys.length) cap)) gr A xs.length c (i + ys.length) := by
      obtain ⟨pr, h⟩ := hr3
      exact ⟨pr, by rw [Below.heap_setCell _ _ _ _ HNE.out]; exact h⟩
    have ho3 : Off (fun k => k = b ∨ k = gr) w w3 := off_trans2 HO2.out.drew (off_near hn3) (fun k hk e => by
      rcases e with e | e
      · exact .inr e
      · injection e with e
        exact absurd hk (Nat.not_lt.mpr (e ▸ HGF.out)))
    have HO4 := Aside0.mk (ho3.cell (show b = b ∨ b = gr from .inl rfl) 0 (.slice (some ⟨g, 0, none⟩) (i + ys.length) cap))
    have hb3 : Below w0.heap.size w0 w3 := (below_drew HB2.out).trans (hn3.below (show w0.heap.size ≤ W2.heap.size from HB2.out.size) HGE.out (fun k hk => by injection hk with hk; exact hk ▸ Nat.le_trans HWW.out HGF.out))
    have HB4 := Aside0.mk (hb3.setCell (p := ⟨b, 0, none⟩) (show w0.heap.size ≤ b from HGB.out) (.slice (some ⟨g, 0, none⟩) (i + ys.length) cap))
    have HF4 := Aside0.mk hF4
    have HR4 := Aside0.mk hR4
    have hE3 := (hb3.cell hglt).trans HE.out
    have hmx : i + m ≤ xs.length := by omega
    have HMX := Aside0.mk hmx
    rw [hyl] at HF4 HR4 HO4 HB4
    obtain ⟨W5, hW5⟩ : ∃ W5, w3.setCell ⟨b, 0, none⟩ (.slice (some ⟨g, 0, none⟩) (i + m) cap) = W5 := ⟨_, rfl⟩
    rw [hW5] at HF4 HR4 HO4 HB4
    have hE5 : W5.cell? ⟨0, 0, none⟩ = some (.iface 179 (.pointer (some ae))) := (HB4.out.cell hglt).trans HE.out
    have m0 : decide ((m : Int) < 0) = false := decide_eq_false (by omega)
    have m1 : (0 : Int) ≤ (m : Int) := by omega
    have m2 : (i : Int) + (m : Int) ≤ (cap : Int) := by omega
    have m3 : i + m ≤ cap := by omega
    have m4 : (i : Int) + (m : Int) ≤ 2147483647 := by omega
    have hmp : i < xs.length → 0 < m := fun h => by have := HFIT.out; omega
    have HMP := Aside0.mk hmp
    have HHM := Aside0.mk hm
    rw [hm]
    clear hr3 hg3 hyl hbe hyc hyx hF4 hR4 ho3 hys hm hmx hmp hb3 hbk3 hn3
    by_cases hlt : i < xs.length
    · rw [if_pos hlt]
      have HLT := Aside0.mk hlt
      clear hlt
      go_wp2_with fail
      cases gk with
      | zero => exact absurd HK.out (by have := HLT.out; omega)
      | succ k1 =>
        go_roundg k1
        case measure => omega
        case rel => exact ⟨i + m, _, by go_num, HMX.out, ⟨by have h1 := HK.out; have h2 := HMP.out HLT.out; have h3 := HLT.out; omega⟩, HF4, HR4, HO4, HB4, ⟨fun k hk => by
          have e : g = k := by simpa [Value.ownBlock] using hk
          exact e ▸ HGF.out⟩⟩
    · rw [if_neg hlt]
      have hme : m = 0 ∧ i = xs.length := by have := HHM.out; omega
      have HME := Aside0.mk hme
      clear hlt hme
      go_wp2_with fail
      go_ret2
      obtain ⟨em, ei⟩ := HME.out
      have hf := HF4.out
      have hr := HR4.out
      have ho := HO4.out
      have hb := HB4.out
      have e0 : i + m = xs.length := by omega
      have e1 : (i : Int) + (m : Int) = (xs.length : Int) := by omega
      rw [e0, List.take_length] at hf
      rw [e0] at hr
      rw [e1]
      exact ⟨rfl, _, hf, ho, hr, hb⟩
end
section
open Go.RowKit Go.Proofs.YtghcecngdhcjpaaDoorW.PrintWords Go.Proofs.YtghcecngdhcjpaaDoorW.PrintLast Go.Proofs.YtghcecngdhcjpaaDoorW.PrintMore Go.Proofs.YtghcecngdhcjpaaDoor.off Go.Proofs.YtghcecngdhcjpaaDoor.bf Go.Proofs.YtghcecngdhcjpaaDoor.pkt Go.Proofs.YtghcecngdhcjpaaDoor.mo
set_option linter.unusedVariables false
set_option linter.unusedSimpArgs false
set_option maxHeartbeats 4000000
set_option maxRecDepth 100000
/-- A slice of bytes, in the words of the printed contracts. -/
theorem slc_C {w : World} {A : Option Addr} {n c : Nat} {xs : List Int} (h : Slc w (.slice A n c) (pkt.bv xs)) : n = xs.length ∧ xs.length ≤ c ∧ c ≤ maxLen ∧ (Kd.int .u8).C w A xs.length xs := by
  rcases h with ⟨e, hn⟩ | ⟨b, o, n', c', e, hm⟩
  · injection e with e1 e2 e3
    subst e1 e2 e3
    have hx : xs = [] := by simpa [pkt.bv] using hn
    subst hx
    exact ⟨rfl, Nat.le_refl _, by decide, rfl, by decide, fun h => absurd h (by decide)⟩
  · injection e with e1 e2 e3
    subst e1 e2 e3
    have hl : xs.length = n := by rw [← hm.len, pkt.bv_len]
    have hml : maxLen = 9223372036854775807 := rfl
    refine ⟨hl.symm, by rw [hl]; exact hm.room, hm.max, Kd.C_of_reads (enc := Value.int .u8) (d := (0 : Int)) (h1 := fun _ => rfl) ⟨rfl, by have := hm.room; have := hm.max; omega, fun h0 => ⟨_, rfl, fun j hj => ?_⟩⟩⟩
    have := hm.rng j (.int .u8 (xs[j]'hj)) (by rw [pkt.bv, List.getElem?_map, List.getElem?_eq_getElem hj]; rfl)
    rw [Addr.add_mid, this]
    simp [hj]
theorem make512 (w : World) : ∃ W1, (Instr.makeSlice 25 (.int .i64 512) (.int .i64 512)).run Tryd.prog w = .ok (.slice (some ⟨w.heap.size, 0, none⟩) 512 512) W1 ∧ Below w.heap.size w W1 ∧ ∃ cur : List Value, W1.heap[w.heap.size]? = some (.cells cur.toArray 5 (0, 0)) ∧ cur.length = 512 := by
  obtain ⟨i0, hi, hzz⟩ := Option.map_eq_some_iff.1 mo.info5
  simp only [Prod.mk.injEq] at hzz
  obtain ⟨hz0, hz1, hz2⟩ := hzz
  refine ⟨_, run_makeSlice w 25 5 i0 _ Tryd.underlying25 hi hz0 .i64 .i64 512 512 (by decide) (by decide) (by rw [hz1]; decide) (by rw [hz2]; decide) (by decide), below_alloc (Below.refl _ _) _, (madeCells (Value.int .u8 0).cells ((512 : Int).toNat * i0.size)).toList, ?_, ?_⟩
  · rw [Array.toArray_toList]; exact blk_new w _
  · rw [Array.length_toList, size_madeCells, hz1]; rfl
theorem src_row {w : World} {g : Nat} {cur : List Value} {tb : TypeId} (h : w.heap[g]? = some (.cells cur.toArray tb (0, 0))) (m : Nat) (ys : List Value) (hy : cur.take m = ys) (hl : ys.length = m) (h1 : ∀ u ∈ ys, u.oneCell' = true) : Src w (some ⟨g, 0, none⟩) m ys :=
  ⟨hl, fun j u hj => ⟨_, rfl, by
    rw [Lib.addr_add, Nat.zero_add, blk_cell h]
    rw [← hy, List.getElem?_take] at hj
    split at hj
    · simpa using hj
    · cases hj⟩, h1⟩
theorem readAll_any (w0 w : World) (A : Option Addr) (c : Nat) (xs : List Int) (gr : Nat) (ae : Addr) (hS : (Kd.int .u8).C w0 A xs.length xs) (hc : xs.length ≤ c) (hB : Below w0.heap.size w0 w) (hR : AtRd w gr A xs.length c 0) (hge : w0.heap.size ≤ gr) (hx : xs.length ≤ 2147483647) (hE : Eof w0 ae) :
    Calls Tryd.prog 54 #[.iface 216 (.agg #[.pointer (some ⟨gr, 0, none⟩)]), .int .i64 512] w fun e w' => ∃ v, e = .returned (.tuple #[v, .bool true]) ∧ Slc w' v (pkt.bv xs) ∧ Below w0.heap.size w0 w' := by
  obtain ⟨W1, hmk, hb1, cur1, hp1, hl1⟩ := make512 w
  have hgr := hR
  obtain ⟨pr0, hgr⟩ := hgr
  have hlt := blk_lt hgr
  have HB1 := Aside0.mk (below_step hB hb1)
  have HR1 := Aside0.mk (show AtRd W1 gr A xs.length c 0 from hR.below hb1)
  have HP1 := Aside0.mk hp1
  have HL1 := Aside0.mk hl1
  have HSZ := Aside0.mk hb1.size
  have HBW := Aside0.mk hB.size
  have HLT := Aside0.mk hlt
  have HS := Aside0.mk hS
  have HE := Aside0.mk hE
  have HGE := Aside0.mk hge
  have hn1 := nc_nil ⟨gr, 0, none⟩ "Read" (.inr rfl)
  have hm1 := nc_read ⟨gr, 0, none⟩
  have hmx : max (1 : Int) 512 = 512 := by decide
  have hse := same_err ae
  obtain ⟨gp, hgp⟩ : ∃ gp, w.heap.size = gp := ⟨_, rfl⟩
  rw [hgp] at hmk HP1 HLT HBW
  have HGP := Aside0.mk (show gp < W1.heap.size from blk_lt HP1.out)
  clear hS hR hE hb1 hp1 hl1 hB hgr hlt hge hgp
  go_enter Tryd.func54, Tryd.ntmps54
  go_wp2_with fail
  go_loopg [6] (xs.length + 1) (fun kq v6 w' => ∃ (i : Nat) (v : Value) (cur : List Value), v6 = v ∧ i ≤ xs.length ∧ Aside0 (xs.length - i < kq) ∧ Aside0 (Slc w' v (pkt.bv (xs.take i))) ∧ Aside0 (AtRd w' gr A xs.length c i) ∧ Aside0 (w'.heap[gp]? = some (.cells cur.toArray 5 (0, 0))) ∧ Aside0 (cur.length = 512) ∧ Aside0 (Below w0.heap.size w0 w') ∧ Aside0 (∀ k, v.ownBlock = some k → gp < k) ∧ Aside0 (W1.heap.size ≤ w'.heap.size))
  case atStart => exact ⟨0, .slice none 0 0, cur1, rfl, Nat.zero_le _, ⟨by omega⟩, ⟨.inl ⟨rfl, rfl⟩⟩, HR1, HP1, HL1, HB1, ⟨by simp [Value.ownBlock]⟩, ⟨Nat.le_refl _⟩⟩
  case round =>
    obtain ⟨i, v, cur, rfl, hi, HK, HV, HR, HP, HL, HB, HF, HZ⟩ := hrel
    clear HR1 HP1 HL1 HB1
    have hglt : 0 < w0.heap.size := World.block_lt_of_cell? w0 _ HE.out
    have hgpr : gp ≠ gr := fun e => by have := HLT.out; omega
    have HRD := Aside0.mk (read_any w0 wr A c xs gr gp i 0 512 512 cur 5 (.iface 179 (.pointer (some ae))) HS.out hc HB.out HR.out HP.out hgpr (by rw [HL.out]; decide) HGE.out hi (by omega) ((HB.out.cell hglt).trans HE.out))
    obtain ⟨A0, c0, rfl, hc0⟩ := Slc_shape HV.out
    have hbl : (pkt.bv (xs.take i)).length = i := by rw [pkt.bv_len, List.length_take, Nat.min_eq_left hi]
    rw [hbl] at hc0 HV HF ⊢
    have HBL := Aside0.mk hbl
    have HGPR := Aside0.mk hgpr
    have HGL := Aside0.mk hglt
    clear hbl hgpr hglt hc0
    go_wp2_with fail
    refine HRD.out.mono ?_
    rintro e w3 ⟨hn3, hr3, hg3, rfl⟩
    obtain ⟨ys, hys⟩ : ∃ ys, (xs.drop i).take 512 = ys := ⟨_, rfl⟩
    rw [hys] at hr3 hg3 ⊢
    have hyl : ys.length = min 512 (xs.length - i) := by rw [← hys, List.length_take, List.length_drop]
    obtain ⟨m, hm⟩ : ∃ m, ys.length = m := ⟨_, rfl⟩
    have hbe : pkt.bv (xs.take i) ++ pkt.bv ys = pkt.bv (xs.take (i + m)) := by rw [← hm, ← hys]; exact bv_take_snoc xs i 512
    have hv3 : Slc w3 (.slice A0 i c0) (pkt.bv (xs.take i)) := HV.out.off (off_near hn3) (fun k hk e => by
      have h1 := HF.out k hk
      have h2 := HLT.out
      rcases e with e | e
      · omega
      · injection e with e
        omega)
    have hsp : (splice cur 0 (pkt.bv ys)).take m = pkt.bv ys := by
      have := splice_take (cur := cur) (i := 0) (ys := pkt.bv ys) (Nat.zero_le _)
      rw [pkt.bv_len, hm, Nat.zero_add] at this
      simpa using this
    obtain ⟨v1, w4, hrun, hsl, hof, hfr⟩ := mo.appendU8 (c := 512) 25 hv3 (src_row hg3 m (pkt.bv ys) hsp (by rw [pkt.bv_len, hm]) (pkt.bv_one _)) (by rw [HBL.out]; omega)
    rw [hbe] at hsl
    have hlt3 : gp < w3.heap.size := blk_lt hg3
    have hF4 : ∀ k, v1.ownBlock = some k → gp < k := fun k hk => by
      rcases hfr with e | ⟨b, e, hb⟩
      · exact HF.out k (e ▸ hk)
      · rw [e] at hk; injection hk with hk; omega
    have hr4 : AtRd w4 gr A xs.length c (i + m) := by
      obtain ⟨pr, h⟩ := hr3
      rw [hm] at h
      exact ⟨pr, (hof.block gr (blk_lt h) (fun e => by have := HF.out gr e; have := HLT.out; omega)).trans h⟩
    have hg4 : w4.heap[gp]? = some (.cells (splice cur 0 (pkt.bv ys)).toArray 5 (0, 0)) := (hof.block gp hlt3 (fun e => by have := HF.out gp e; omega)).trans hg3
    have hb3 : Below w0.heap.size w0 w3 := HB.out.trans (hn3.below HB.out.size HGE.out (fun k hk => by injection hk with hk; have := HBW.out; omega))
    have hb4 : Below w0.heap.size w0 w4 := hb3.trans (hof.below hb3.size (fun k hk => by have := HF.out k hk; have := HBW.out; omega))
    have hE4 := (hb4.cell HGL.out).trans HE.out
    have HRUN := Aside0.mk hrun
    have HSL := Aside0.mk hsl
    have HF4 := Aside0.mk hF4
    have HR4 := Aside0.mk hr4
    have HG4 := Aside0.mk hg4
    have HL4 := Aside0.mk (show (splice cur 0 (pkt.bv ys)).length = 512 by rw [splice_len (by rw [pkt.bv_len, HL.out, hm]; omega)]; exact HL.out)
    have HB4 := Aside0.mk hb4
    have HZ4 := Aside0.mk (Nat.le_trans HZ.out (Nat.le_trans hn3.size hof.size))
    have HM := Aside0.mk (show m = min 512 (xs.length - i) by omega)
    have m5 : (m : Int) ≤ 512 := by omega
    have m6 : m ≤ 512 := by omega
    have m7 : (0 : Int) ≤ (m : Int) := by omega
    have hmm : min 512 (xs.length - i) = m := by omega
    try rw [hm]
    try rw [hmm]
    clear hm hyl hbe hv3 hsp hrun hsl hof hfr hlt3 hF4 hr4 hg4 hb3 hb4 hr3 hg3 hn3 HRD HV HR HP HB HF HZ HL hys hmm
    by_cases hlt : i < xs.length
    · rw [if_pos hlt]
      have HLTI := Aside0.mk hlt
      clear hlt hE4
      go_wp2_with (first | ((with_reducible refine gate_builtin (b := .append) (xs := #[.tmp 19, .tmp 22]) rfl ?_); at_builtin; go_must (refine wpList_append_run rfl (.tmp 19) (.tmp 22) 25 rfl _ _ rfl rfl HRUN.out ?_)) | fail)
      cases gk with
      | zero => exact absurd HK.out (by have := HLTI.out; omega)
      | succ k1 =>
        go_roundg k1
        case measure => omega
        case rel => exact ⟨i + m, v1, _, rfl, by have := HM.out; omega, ⟨by have h1 := HK.out; have h2 := HM.out; have h3 := HLTI.out; omega⟩, HSL, HR4, HG4, HL4, HB4, HF4, HZ4⟩
    · rw [if_neg hlt]
      have HNL := Aside0.mk hlt
      clear hlt
      go_wp2_with (first | ((with_reducible refine gate_builtin (b := .append) (xs := #[.tmp 19, .tmp 22]) rfl ?_); at_builtin; go_must (refine wpList_append_run rfl (.tmp 19) (.tmp 22) 25 rfl _ _ rfl rfl HRUN.out ?_)) | fail)
      go_quiet (fail)
      go_wp2_with fail
      go_ret2
      have e0 : i + m = xs.length := by have := HM.out; have := HNL.out; omega
      have hs := HSL.out
      rw [e0, List.take_length] at hs
      exact ⟨v1, rfl, hs.off (S := fun _ => False) ((Off.refl _ _).drewN _) (fun _ _ h => h), pw_below_drewN HB4.out _⟩
end
section
open Go.RowKit Go.Proofs.YtghcecngdhcjpaaDoorW.PrintWords Go.Proofs.YtghcecngdhcjpaaDoorW.PrintLast Go.Proofs.YtghcecngdhcjpaaDoorW.PrintMore Go.Proofs.YtghcecngdhcjpaaDoor.off Go.Proofs.YtghcecngdhcjpaaDoor.bf Go.Proofs.YtghcecngdhcjpaaDoor.pkt Go.Proofs.YtghcecngdhcjpaaDoor.mo
set_option linter.unusedVariables false
set_option linter.unusedSimpArgs false
set_option maxHeartbeats 4000000
set_option maxRecDepth 100000
theorem c_src {w : World} {A : Option Addr} {xs : List Int} (h : (Kd.int .u8).C w A xs.length xs) : Src w A xs.length (pkt.bv xs) :=
  ⟨pkt.bv_len xs, fun j u hj => by
    rw [pkt.bv, List.getElem?_map, Option.map_eq_some_iff] at hj
    obtain ⟨x, hx, rfl⟩ := hj
    obtain ⟨hlt, rfl⟩ := List.getElem?_eq_some_iff.1 hx
    obtain ⟨ad, e, hc⟩ := pkt.src_at h j hlt
    exact ⟨ad, e, hc j hlt⟩, pkt.bv_one xs⟩
theorem mo_nil (a : Addr) (m : String) (hm : m = "Close" ∨ m = "SetSize" ∨ m = "Writer" ∨ m = "Reader" ∨ m = "Write") (w : World) : (nilAhead 326 78 (.pointer (some a)) m).run Tryd.prog w = .ok (some false) w := by
  rcases hm with rfl | rfl | rfl | rfl | rfl <;> kernel_rfl
theorem mo_close (a : Addr) (w : World) : (method 326 78 (.pointer (some a)) "Close").run Tryd.prog w = .ok (122, .pointer (some a)) w := by kernel_rfl
theorem mo_setSize (a : Addr) (w : World) : (method 326 78 (.pointer (some a)) "SetSize").run Tryd.prog w = .ok (124, .pointer (some a)) w := by kernel_rfl
theorem mo_writer (a : Addr) (w : World) : (method 326 78 (.pointer (some a)) "Writer").run Tryd.prog w = .ok (125, .pointer (some a)) w := by kernel_rfl
theorem mo_reader (a : Addr) (w : World) : (method 326 78 (.pointer (some a)) "Reader").run Tryd.prog w = .ok (123, .pointer (some a)) w := by kernel_rfl
theorem mo_write (a : Addr) (w : World) : (method 326 78 (.pointer (some a)) "Write").run Tryd.prog w = .ok (45, .pointer (some a)) w := by kernel_rfl
theorem reader_any (w : World) (go : Nat) (marr : Array Value) (A : Option Addr) (n c : Nat) (hM : w.heap[go]? = some (.cells marr 84 (0, 0))) (hc : marr[21]? = some (.slice A n c)) :
    Calls Tryd.prog 123 #[.pointer (some ⟨go, 0, none⟩)] w fun e w' => ∃ gr, w.heap.size ≤ gr ∧ e = .returned (.tuple #[.iface 216 (.agg #[.pointer (some ⟨gr, 0, none⟩)]), .nilIface]) ∧ AtRd w' gr A n c 0 ∧ Below w.heap.size w w' := by
  have q0 := (blk_cell hM 21).trans hc
  clear hM hc
  go_enter Tryd.func123, Tryd.ntmps123
  go_wp2_with fail
  refine (newReader_any _ A n c).mono ?_
  rintro e w1 ⟨gr, hgr, rfl, hR, hb⟩
  have HR := Aside0.mk hR
  have HB := Aside0.mk hb
  have HG := Aside0.mk hgr
  clear hgr hR hb
  go_wp2_with fail
  go_ret2
  exact ⟨gr, HG.out, rfl, HR.out, HB.out⟩
theorem textOf_any (w : World) (go : Nat) (marr : Array Value) (v : Value) (xs : List Int) (ae : Addr) (hM : Mo w go marr v (pkt.bv xs)) (hx : xs.length ≤ 2147483647) (hE : Eof w ae) :
    Calls Tryd.prog 33 #[.iface 78 (.pointer (some ⟨go, 0, none⟩))] w fun e w' => ∃ v', e = .returned (.tuple #[v', .bool true]) ∧ Slc w' v' (pkt.bv xs) ∧ Below w.heap.size w w' := by
  obtain ⟨A, c, rfl, _⟩ := Slc_shape hM.slc
  obtain ⟨_, hc, _, hC⟩ := slc_C hM.slc
  have hbl : (pkt.bv xs).length = xs.length := pkt.bv_len xs
  rw [hbl] at hM
  have HM := Aside0.mk hM
  have HC := Aside0.mk hC
  have HE := Aside0.mk hE
  have hn1 := mo_nil ⟨go, 0, none⟩ "Reader" (.inr (.inr (.inr (.inl rfl))))
  have hm1 := mo_reader ⟨go, 0, none⟩
  clear hM hC hE hbl
  go_enter Tryd.func33, Tryd.ntmps33
  go_wp2_with fail
  refine (reader_any _ go marr A xs.length c HM.out.heap HM.out.c21).mono ?_
  rintro e w1 ⟨gr, hgr, rfl, hR, hb⟩
  have HR := Aside0.mk hR
  have HB1 := Aside0.mk hb
  have HG := Aside0.mk hgr
  clear hR hb hgr
  go_wp2_with fail
  refine (readAll_any w w1 A c xs gr ae HC.out hc HB1.out HR.out HG.out hx HE.out).mono ?_
  rintro e w2 ⟨v, rfl, hs, hb⟩
  have HB2 := Aside0.mk hb
  have HS := Aside0.mk hs
  have hn2 := nc_nil ⟨gr, 0, none⟩ "Close" (.inl rfl)
  have hm2 := nc_close ⟨gr, 0, none⟩
  clear hb hs
  go_wp2_with fail
  refine (ncClose_any _ _).mono ?_
  rintro e w3 ⟨rfl, hb⟩
  have HB3 := Aside0.mk (below_step HB2.out hb)
  have HS3 := Aside0.mk (HS.out.off (Off.of_below (S := fun _ => False) hb) (fun _ _ h => h))
  clear hb
  go_wp2_with fail
  go_ret2
  exact ⟨v, rfl, HS3.out, HB3.out⟩
theorem memory_any (w : World) (A : Option Addr) (c : Nat) (xs : List Int) (k : Int) (hk : 0 ≤ k ∧ k ≤ 7) (hC : (Kd.int .u8).C w A xs.length xs) (hc : xs.length ≤ c) (hx : xs.length ≤ 140737488355328) :
    Calls Tryd.prog 31 #[.int .i64 k, .slice A xs.length c] w fun e w' => ∃ go marr v, w.heap.size ≤ go ∧ e = .returned (.pointer (some ⟨go, 0, none⟩)) ∧ Mo w' go marr v (pkt.bv xs) ∧ (∀ j, v.ownBlock = some j → w.heap.size ≤ j) ∧ Below w.heap.size w w' := by
  have HC := Aside0.mk hC
  obtain ⟨hk0, hk1⟩ := hk
  clear hC
  go_enter Tryd.func31, Tryd.ntmps31
  go_wp2_with (first | ((with_reducible refine gate_dst (N := 7) rfl ?_); refine box_event ?hg (N := 7) ?hd (cs := mo.zero) (t := 84) ?hr ?_; (case hd => rfl); (case hg => rfl); (case hr => first | (go_simp; done) | (go_simp; rfl)); intro go hgo w1 hbox hb; have BM := Aside0.mk hbox; have HB1 := Aside0.mk hb; have GO := Aside0.mk hgo; clear hbox hb hgo) | fail)
  have hM := mo.Mo.zero_ BM.out
  refine (setType_any w1 go _ _ _ hM k).mono ?_
  rintro e w2 ⟨rfl, hw2⟩
  have HM2 := Aside0.mk (show Mo w2 go _ _ [] by rw [hw2]; exact hM.set 0 (by decide) (.int .i8 k))
  have HB2 := Aside0.mk (show Below w.heap.size w w2 by rw [hw2]; exact (show Below w.heap.size w w1 from HB1.out).setCell (p := ⟨go, 0, none⟩) (show w.heap.size ≤ go from Nat.le_of_eq GO.out.symm) _)
  have HX := Aside0.mk (show (([] : List Int).length + xs.length) * 1 ≤ 140737488355328 by simpa using hx)
  have hsz := HB2.out.size
  clear hw2 hM HB1 BM
  go_wp2_with (first | ((with_reducible refine gate_builtin (b := .append) (xs := #[.tmp 13, .tmp 14]) rfl ?_); at_builtin; go_must (refine Kd.R_append_row (Value.int .u8) 0 (w0 := w2) w2.heap.size rfl (.tmp 13) (.tmp 14) 25 5 (.int .u8 0) 1 rfl Tryd.underlying25 mo.info5 rfl (by decide) _ [] xs A xs.length c (fun _ => True) rfl rfl (fun _ _ => trivial) (leb.R_empty w2 _ (Nat.le_refl _)) (Kd.C_alloc (Kd.C_below HC.out HB2.out) _) (below_alloc (Below.refl _ _) _) (by simp) HX.out ?_); intro v1 w3 hR3 hB3 _ _; have HR3 := Aside0.mk hR3; have HB3 := Aside0.mk hB3; obtain ⟨A3, c3, rfl⟩ := Kd.R_slice hR3; clear hR3 hB3) | fail)
  have hc3 := (Kd.R_reads' HR3.out).2.2
  simp only [List.nil_append] at hc3
  have HW := Aside0.mk (mo.write_any w3 go _ _ [] (pkt.bv xs) A3 xs.length c3 (HM2.out.below HB3.out) (c_src hc3) (by simpa using hx))
  try simp only [List.nil_append]
  clear hc3 HR3
  refine HW.out.mono ?_
  rintro e w4 ⟨rfl, hwr⟩
  obtain ⟨v', h1, h2, h3⟩ := hwr.out
  have HM4 := Aside0.mk h1
  have HO4 := Aside0.mk h2
  have HV4 := Aside0.mk h3
  clear hwr h1 h2 h3 HW
  go_wp2_with fail
  go_ret
  have hg := GO.out
  have hb3 : Below w.heap.size w w3 := HB2.out.trans (HB3.out.mono hsz)
  refine ⟨go, _, v', Nat.le_of_eq hg.symm, rfl, by simpa using HM4.out, ?_, hb3.trans (HO4.out.below hb3.size (fun j hj => ?_))⟩
  · intro j hj
    rcases HV4.out with e | ⟨b, e, hb⟩
    · rw [e] at hj; cases hj
    · rw [e] at hj; injection hj with hj; have := hb3.size; omega
  · rcases hj with rfl | hj
    · omega
    · cases hj
end
end Go.Proofs.YtghcecngdhcjpaaDoor.rf
