/- Revisions: bufio.Reader.fill. -/
import Derived.Test.YtiibeefadgmicaaDoorRevB
namespace Go.Proofs.YtiibeefadgmicaaDoor.rev
open Go.RowKit Go.Proofs.YtiibeefadgmicaaDoorW.PrintWords Go.Proofs.YtiibeefadgmicaaDoorW.PrintLast Go.Proofs.YtiibeefadgmicaaDoorW.PrintMore Go.Proofs.YtiibeefadgmicaaDoor.PFnRevSteps
set_option linter.unusedVariables false
set_option linter.unusedSimpArgs false
set_option maxHeartbeats 2000000
set_option maxRecDepth 100000
/-- A call of a method through an interface value, as an arm of a region's walk. -/
theorem goesI_ {P : Program} {ops : Array Oper} {Q : Exit → Act → World → Prop} {oi : Oper} {N : Option Tmp} {a : Act} {w : World} {K : Act → World → Prop} {f : FuncId} {fn : Func} {r : Operand} {name : String} {os : Array Operand} {ts : Array TypeId} (hf : P.funcs[f]? = some fn) (hname : (fn.name == "runtime.NumGoroutine") = false) (hb : fn.body.isSome = true) (τ : TypeId) (u u' : Value) (args : Array Value)
    (hm : (method (P.types.size + Made.depth) τ u name).run P w = .ok (f, u') w) (hw : Region.wanted oi (yielded ops a.tmps) = true) (hN : oi.dst = N) (hop : oi.op = .call { callee := .invoke r name, args := os, argTypes := ts }) (hr : a.eval r = .iface τ u) (hargs : os.map a.eval = args)
    (h : Calls P f (#[u'] ++ args) w fun e w' => ∃ v, e = .returned v ∧ K (a.put N v) w') : if Region.wanted oi (yielded ops a.tmps) = true then Oper.wp P oi a w K Q else K (a.put N undef) w := by
  refine call_ f (#[u'] ++ args) hw hN ?_ h
  have he := enters_ hf hname hb (#[u'] ++ args) w
  unfold execOp
  have e0 : (#[Value.iface τ u] ++ args)[0]? = some (.iface τ u) := by
    rw [Array.getElem?_append_left (by simp)]
    rfl
  have e1 : (#[Value.iface τ u] ++ args).extract 1 (#[Value.iface τ u] ++ args).size = args := by
    apply Array.ext
    · simp
    · intro i h1 h2
      simp
  simp only [hop, resolve, hr, hargs, Sem.run_bind, Sem.run_pure, Result.andThen_ok, invoke, e0, e1, callMethod, run_program, hm]
  exact he
/-- The cells of a bufio.Reader. -/
def rdC (gl gb r wv : Nat) (er : Value) (lb lr : Int) : Array Value := #[.slice (some ⟨gb, 0, none⟩) 4096 4096, .iface 124 (.pointer (some ⟨gl, 0, none⟩)), .int .i64 (r : Int), .int .i64 (wv : Int), er, .int .i64 lb, .int .i64 lr]
theorem fill_zero (w : World) (gr gl gb gu m : Nat) (lb lr : Int) (v : Value) (hv : (v = .nilIface ∧ 0 < m) ∨ (m = 0 ∧ ∃ τ u, v = .iface τ u)) (hm : m ≤ 4096) (hG : w.heap[gr]? = some (.cells (rdC gl gb 0 0 .nilIface lb lr) 128 (0, 0))) (h1 : gr ≠ gu) (h2 : gr ≠ gb) (h3 : gr ≠ gl) (Q : World → Prop)
    (hR : ∀ W : World, W.heap.size = w.heap.size → (∀ j, j ≠ gr → W.heap[j]? = w.heap[j]?) → Calls Tryd.prog 111 #[.pointer (some ⟨gl, 0, none⟩), .slice (some ⟨gb, 0, none⟩) 4096 4096] W fun e w' => e = .returned (.tuple #[.int .i64 (m : Int), v]) ∧ Off (In [gu, gb, gl]) W w' ∧ Q w') :
    Calls Tryd.prog 61 #[.pointer (some ⟨gr, 0, none⟩)] w fun e w' => e = .returned (.tuple #[]) ∧ Off (In [gu, gb, gl, gr]) w w' ∧ w'.heap[gr]? = some (.cells (rdC gl gb 0 m v lb lr) 128 (0, 0)) ∧ ∃ w2, Q w2 ∧ ∀ j, j ≠ gr → w'.heap[j]? = w2.heap[j]? := by
  have HG := Aside0.mk hG
  have HR := Aside0.mk hR
  have HX := Aside0.mk (show ¬ In [gu, gb, gl] gr by simp [In]; exact ⟨h1, h2, h3⟩)
  have q0 := (blk_cell hG 0).trans (show _ = some (Value.slice (some ⟨gb, 0, none⟩) 4096 4096) from rfl)
  have q1 := (blk_cell hG 1).trans (show _ = some (Value.iface 124 (.pointer (some ⟨gl, 0, none⟩))) from rfl)
  have q2 := (blk_cell hG 2).trans (show _ = some (Value.int .i64 0) from rfl)
  have q3 := (blk_cell hG 3).trans (show _ = some (Value.int .i64 0) from rfl)
  have hn1 := li_nil ⟨gl, 0, none⟩
  have hn2 := li_read ⟨gl, 0, none⟩
  have HV := Aside0.mk hv
  clear hG hR h1 h2 h3 hv
  go_enter Tryd.func61, Tryd.ntmps61
  go_wp2_with fail
  go_quiet (fail)
  go_wp2_with fail
  clear q0 q1 q2 q3
  go_loopg [2, 3, 4] 1 (fun kq v2 v3 v4 w' => v2 = .int .i64 100 ∧ Aside0 (kq = 1) ∧ Aside0 (w'.heap = w.heap) ∧ Aside0 (Off (In [gu, gb, gl]) w w'))
  case atStart => exact ⟨rfl, ⟨rfl⟩, ⟨rfl⟩, ⟨(Off.refl _ _).drewN _⟩⟩
  case round =>
    obtain ⟨rfl, HK, HH, HO⟩ := hrel
    cases gk with
    | zero => exact absurd HK.out (by omega)
    | succ k1 =>
      have HG1 := Aside0.mk (show wr.heap[gr]? = _ from (congrArg (fun h : Array Obj => h[gr]?) HH.out).trans HG.out)
      have HR1 := Aside0.mk (HR.out wr.drew (congrArg Array.size HH.out) (fun j _ => congrArg (fun h : Array Obj => h[j]?) HH.out))
      have HO1 := Aside0.mk HO.out.drew
      have q0 := (blk_cell HG1.out 0).trans (show _ = some (Value.slice (some ⟨gb, 0, none⟩) 4096 4096) from rfl)
      have q1 := (blk_cell HG1.out 1).trans (show _ = some (Value.iface 124 (.pointer (some ⟨gl, 0, none⟩))) from rfl)
      have q3 := (blk_cell HG1.out 3).trans (show _ = some (Value.int .i64 0) from rfl)
      go_wp2_with fail
      refine start_ (n := 21) (S := fun w' => w'.cell? ⟨gr, 0, none⟩ = some (.slice (some ⟨gb, 0, none⟩) 4096 4096) ∧ w'.cell? ⟨gr, 1, none⟩ = some (.iface 124 (.pointer (some ⟨gl, 0, none⟩))) ∧ w'.cell? ⟨gr, 3, none⟩ = some (.int .i64 0)) (ds := [15]) #[false, false, false, false, false, false, false, false, false, false, false, false, false, false, false, false, false, false, false, false, false] (by kernel_rfl) rfl rfl ⟨q0, q1, q3⟩ (fun hHeld => ?_)
      refine pure_ (i := 0) (N := some 58) (v := ?_) (a' := ?_) #[true, false, false, false, false, false, false, false, false, false, false, false, false, false, false, false, false, false, false, false, false] rfl rfl (by kernel_rfl) (fun _ _ _ h => h) (Or.inl ⟨by rfl, ?_⟩) ?_ ?_
      rotate_left
      · intro w'
        go_simp
        with_reducible rfl
      rotate_left
      · simp only [Act.put, List.setIfInBounds_toArray, List.set_cons_zero, List.set_cons_succ, i64_w, i32_w]
        rfl
      refine pure_ (i := 1) (N := some 59) (v := ?_) (a' := ?_) #[true, true, false, false, false, false, false, false, false, false, false, false, false, false, false, false, false, false, false, false, false] rfl rfl (by kernel_rfl) (fun _ _ _ h => h) (Or.inl ⟨by rfl, ?_⟩) ?_ ?_
      rotate_left
      · intro w'
        go_simp
        with_reducible rfl
      rotate_left
      · simp only [Act.put, List.setIfInBounds_toArray, List.set_cons_zero, List.set_cons_succ, i64_w, i32_w]
        rfl
      refine pure_ (i := 2) (N := some 60) (v := ?_) (a' := ?_) #[true, true, true, false, false, false, false, false, false, false, false, false, false, false, false, false, false, false, false, false, false] rfl rfl (by kernel_rfl) (fun _ _ _ h => h) (Or.inl ⟨by rfl, ?_⟩) ?_ ?_
      rotate_left
      · intro w'
        go_simp
        with_reducible rfl
      rotate_left
      · simp only [Act.put, List.setIfInBounds_toArray, List.set_cons_zero, List.set_cons_succ, i64_w, i32_w]
        rfl
      refine pure_ (i := 4) (N := some 62) (v := ?_) (a' := ?_) #[true, true, true, false, true, false, false, false, false, false, false, false, false, false, false, false, false, false, false, false, false] rfl rfl (by kernel_rfl) (fun _ _ _ h => h) (Or.inl ⟨by rfl, ?_⟩) ?_ ?_
      rotate_left
      · intro w'
        go_simp
        with_reducible rfl
      rotate_left
      · simp only [Act.put, List.setIfInBounds_toArray, List.set_cons_zero, List.set_cons_succ, i64_w, i32_w]
        rfl
      refine pure_ (i := 5) (N := some 63) (v := ?_) (a' := ?_) #[true, true, true, false, true, true, false, false, false, false, false, false, false, false, false, false, false, false, false, false, false] rfl rfl (by kernel_rfl) (fun _ _ _ h => h) (Or.inl ⟨by rfl, ?_⟩) ?_ ?_
      rotate_left
      · intro w'
        go_simp
        with_reducible rfl
      rotate_left
      · simp only [Act.put, List.setIfInBounds_toArray, List.set_cons_zero, List.set_cons_succ, i64_w, i32_w]
        rfl
      refine pure_ (i := 6) (N := some 64) (v := ?_) (a' := ?_) #[true, true, true, false, true, true, true, false, false, false, false, false, false, false, false, false, false, false, false, false, false] rfl rfl (by kernel_rfl) (fun _ _ _ h => h) (Or.inl ⟨by rfl, ?_⟩) ?_ ?_
      rotate_left
      · intro w'
        go_simp
        with_reducible rfl
      rotate_left
      · simp only [Act.put, List.setIfInBounds_toArray, List.set_cons_zero, List.set_cons_succ, i64_w, i32_w]
        rfl
      refine pure_ (i := 8) (N := some 66) (v := ?_) (a' := ?_) #[true, true, true, false, true, true, true, false, true, false, false, false, false, false, false, false, false, false, false, false, false] rfl rfl (by kernel_rfl) (fun _ _ _ h => h) (Or.inl ⟨by rfl, ?_⟩) ?_ ?_
      rotate_left
      · intro w'
        go_simp
        with_reducible rfl
      rotate_left
      · simp only [Act.put, List.setIfInBounds_toArray, List.set_cons_zero, List.set_cons_succ, i64_w, i32_w]
        rfl
      refine pure_ (i := 9) (N := some 67) (v := ?_) (a' := ?_) #[true, true, true, false, true, true, true, false, true, true, false, false, false, false, false, false, false, false, false, false, false] rfl rfl (by kernel_rfl) (fun _ _ _ h => h) (Or.inl ⟨by rfl, ?_⟩) ?_ ?_
      rotate_left
      · intro w'
        go_simp
        with_reducible rfl
      rotate_left
      · simp only [Act.put, List.setIfInBounds_toArray, List.set_cons_zero, List.set_cons_succ, i64_w, i32_w]
        rfl
      refine pure_ (i := 10) (N := some 68) (v := ?_) (a' := ?_) #[true, true, true, false, true, true, true, false, true, true, true, false, false, false, false, false, false, false, false, false, false] rfl rfl (by kernel_rfl) (fun _ _ _ h => h) (Or.inl ⟨by rfl, ?_⟩) ?_ ?_
      rotate_left
      · intro w'
        go_simp
        with_reducible rfl
      rotate_left
      · simp only [Act.put, List.setIfInBounds_toArray, List.set_cons_zero, List.set_cons_succ, i64_w, i32_w]
        rfl
      refine take_ (i := 3) (N := some 61) (v := ?_) (a' := ?_) #[true, true, true, true, true, true, true, false, true, true, true, false, false, false, false, false, false, false, false, false, false] rfl rfl (by kernel_rfl) (fun _ _ _ h => h) (Or.inl ⟨by rfl, ?_⟩) hHeld ?_ ?_
      rotate_left
      · rintro w' ⟨s0, s1, s2⟩
        go_simp
        with_reducible rfl
      rotate_left
      · simp only [Act.put, List.setIfInBounds_toArray, List.set_cons_zero, List.set_cons_succ, i64_w, i32_w]
        rfl
      refine pure_ (i := 13) (N := some 71) (v := ?_) (a' := ?_) #[true, true, true, true, true, true, true, false, true, true, true, false, false, true, false, false, false, false, false, false, false] rfl rfl (by kernel_rfl) (fun _ _ _ h => h) (Or.inl ⟨by rfl, ?_⟩) ?_ ?_
      rotate_left
      · intro w'
        go_simp
        with_reducible rfl
      rotate_left
      · simp only [Act.put, List.setIfInBounds_toArray, List.set_cons_zero, List.set_cons_succ, i64_w, i32_w]
        rfl
      refine pure_ (i := 14) (N := some 72) (v := ?_) (a' := ?_) #[true, true, true, true, true, true, true, false, true, true, true, false, false, true, true, false, false, false, false, false, false] rfl rfl (by kernel_rfl) (fun _ _ _ h => h) (Or.inl ⟨by rfl, ?_⟩) ?_ ?_
      rotate_left
      · intro w'
        go_simp
        with_reducible rfl
      rotate_left
      · simp only [Act.put, List.setIfInBounds_toArray, List.set_cons_zero, List.set_cons_succ, i64_w, i32_w]
        rfl
      refine take_ (i := 7) (N := some 65) (v := ?_) (a' := ?_) #[true, true, true, true, true, true, true, true, true, true, true, false, false, true, true, false, false, false, false, false, false] rfl rfl (by kernel_rfl) (fun _ _ _ h => h) (Or.inl ⟨by rfl, ?_⟩) hHeld ?_ ?_
      rotate_left
      · rintro w' ⟨s0, s1, s2⟩
        go_simp
        with_reducible rfl
      rotate_left
      · simp only [Act.put, List.setIfInBounds_toArray, List.set_cons_zero, List.set_cons_succ, i64_w, i32_w]
        rfl
      refine take_ (i := 11) (N := some 69) (v := ?_) (a' := ?_) #[true, true, true, true, true, true, true, true, true, true, true, true, false, true, true, false, false, false, false, false, false] rfl rfl (by kernel_rfl) (fun _ _ _ h => h) (Or.inl ⟨by rfl, ?_⟩) hHeld ?_ ?_
      rotate_left
      · rintro w' ⟨s0, s1, s2⟩
        go_simp
        with_reducible rfl
      rotate_left
      · simp only [Act.put, List.setIfInBounds_toArray, List.set_cons_zero, List.set_cons_succ, i64_w, i32_w]
        rfl
      refine pure_ (i := 12) (N := some 70) (v := ?_) (a' := ?_) #[true, true, true, true, true, true, true, true, true, true, true, true, true, true, true, false, false, false, false, false, false] rfl rfl (by kernel_rfl) (fun _ _ _ h => h) (Or.inl ⟨by rfl, ?_⟩) ?_ ?_
      rotate_left
      · intro w'
        go_simp
        with_reducible rfl
      rotate_left
      · simp only [Act.put, List.setIfInBounds_toArray, List.set_cons_zero, List.set_cons_succ, i64_w, i32_w]
        rfl
      refine last_ (i := 15) (N := some 73) #[true, true, true, true, true, true, true, true, true, true, true, true, true, true, true, true, false, false, false, false, false] rfl rfl (by kernel_rfl) (by decide) (fun K hK => ?_)
      refine goesI_ Tryd.func111 (by kernel_rfl) rfl 124 (.pointer (some ⟨gl, 0, none⟩)) (.pointer (some ⟨gl, 0, none⟩)) #[.slice (some ⟨gb, 0, none⟩) 4096 4096] (hn2 _) (by rfl) rfl rfl rfl (by simp only [List.map_toArray, List.map_cons, List.map_nil]; rfl) ?_
      refine HR1.out.mono ?_
      rintro e w3 ⟨rfl, ho3, hq3⟩
      refine ⟨_, rfl, ?_⟩
      refine hK.out _ _ ?_
      clear hK K
      refine norm_ (a' := ?_) ?_ ?_
      rotate_left
      · show Act.put _ (some 73) _ = _
        simp only [Act.put, List.setIfInBounds_toArray, List.set_cons_zero, List.set_cons_succ, i64_w, i32_w]
        rfl
      refine pure_ (i := 16) (N := some 57) (v := ?_) (a' := ?_) #[true, true, true, true, true, true, true, true, true, true, true, true, true, true, true, true, true, false, false, false, false] rfl rfl (by kernel_rfl) (fun _ _ _ h => h) (Or.inl ⟨by rfl, ?_⟩) ?_ ?_
      rotate_left
      · intro w'
        go_simp
        with_reducible rfl
      rotate_left
      · simp only [Act.put, List.setIfInBounds_toArray, List.set_cons_zero, List.set_cons_succ, i64_w, i32_w]
        rfl
      refine pure_ (i := 17) (N := some 74) (v := ?_) (a' := ?_) #[true, true, true, true, true, true, true, true, true, true, true, true, true, true, true, true, true, true, false, false, false] rfl rfl (by kernel_rfl) (fun _ _ _ h => h) (Or.inl ⟨by rfl, ?_⟩) ?_ ?_
      rotate_left
      · intro w'
        go_simp
        with_reducible rfl
      rotate_left
      · simp only [Act.put, List.setIfInBounds_toArray, List.set_cons_zero, List.set_cons_succ, i64_w, i32_w]
        rfl
      refine pure_ (i := 18) (N := some 75) (v := ?_) (a' := ?_) #[true, true, true, true, true, true, true, true, true, true, true, true, true, true, true, true, true, true, true, false, false] rfl rfl (by kernel_rfl) (fun _ _ _ h => h) (Or.inl ⟨by rfl, ?_⟩) ?_ ?_
      rotate_left
      · intro w'
        go_simp
        with_reducible rfl
      rotate_left
      · simp only [Act.put, List.setIfInBounds_toArray, List.set_cons_zero, List.set_cons_succ, i64_w, i32_w]
        rfl
      refine pure_ (i := 19) (N := some 3) (v := ?_) (a' := ?_) #[true, true, true, true, true, true, true, true, true, true, true, true, true, true, true, true, true, true, true, true, false] rfl rfl (by kernel_rfl) (fun _ _ _ h => h) (Or.inl ⟨by rfl, ?_⟩) ?_ ?_
      rotate_left
      · intro w'
        go_simp
        with_reducible rfl
      rotate_left
      · simp only [Act.put, List.setIfInBounds_toArray, List.set_cons_zero, List.set_cons_succ, i64_w, i32_w]
        rfl
      refine pure_ (i := 20) (N := some 4) (v := ?_) (a' := ?_) #[true, true, true, true, true, true, true, true, true, true, true, true, true, true, true, true, true, true, true, true, true] rfl rfl (by kernel_rfl) (fun _ _ _ h => h) (Or.inl ⟨by rfl, ?_⟩) ?_ ?_
      rotate_left
      · intro w'
        go_simp
        with_reducible rfl
      rotate_left
      · simp only [Act.put, List.setIfInBounds_toArray, List.set_cons_zero, List.set_cons_succ, i64_w, i32_w]
        rfl
      refine done_ (by kernel_rfl) ?_

      have HO3 := Aside0.mk (HO1.out.trans ho3)
      have HQ3 := Aside0.mk hq3
      have HG3 := Aside0.mk (HO3.out.blk HG.out HX.out)
      clear ho3 hq3 HR HR1 HO1 HG1 HH HO q0 q1 q3
      have q3 := (blk_cell HG3.out 3).trans (show _ = some (Value.int .i64 0) from rfl)
      have q4 := (blk_cell HG3.out 4).trans (show _ = some Value.nilIface from rfl)
      have f3 := blk_frozen HG3.out 3
      have f4 := blk_frozen HG3.out 4
      have HO4 := Aside0.mk (HO3.out.mono (S' := In [gu, gb, gl, gr]) (fun j hj => by simp only [In, List.mem_cons, List.not_mem_nil, or_false] at hj ⊢; rcases hj with h | h | h <;> simp [h]))
      rcases HV.out with ⟨rfl, h0⟩ | ⟨rfl, τ, u, rfl⟩
      · have c1 : decide ((m : Int) < 0) = false := decide_eq_false (by omega)
        have c2 : decide ((0 : Int) < (m : Int)) = true := decide_eq_true (by omega)
        have c3 : decide (0 < m) = true := decide_eq_true h0
        have w1 : wrap64 (m : Int) = (m : Int) := w64 (by omega) (by omega)
        clear HV HG HO3
        go_wp2_with fail
        refine bodyPost_ret (results_none rfl _ _ _) rfl ?_
        exact ⟨rfl, HO4.out.cell (g := gr) (by simp [In]) 3 _, blk_put HG3.out 3 _ rfl, w3, HQ3.out, fun j hj => Below.heap_setCell _ ⟨gr, 3, none⟩ _ j hj⟩
      · clear HV HG HO3
        go_wp2_with fail
        refine bodyPost_ret (results_none rfl _ _ _) rfl ?_
        exact ⟨rfl, (HO4.out.cell (g := gr) (by simp [In]) 3 _).cell (g := gr) (by simp [In]) 4 _, blk_put (blk_put HG3.out 3 _ rfl) 4 _ rfl, w3, HQ3.out, fun j hj => (Below.heap_setCell _ ⟨gr, 4, none⟩ _ j hj).trans (Below.heap_setCell _ ⟨gr, 3, none⟩ _ j hj)⟩
end Go.Proofs.YtiibeefadgmicaaDoor.rev
