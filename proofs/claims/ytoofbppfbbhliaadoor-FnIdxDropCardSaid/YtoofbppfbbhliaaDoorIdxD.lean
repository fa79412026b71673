/- index: Index.Remove, impl.filesOf, impl.DropFile. -/
import Derived.Test.YtoofbppfbbhliaaDoorIdxC
namespace Go.Proofs.YtoofbppfbbhliaaDoor.idx
open Go.RowKit Go.Lib Go.Proofs.YtoofbppfbbhliaaDoorW.PrintWords Go.Proofs.YtoofbppfbbhliaaDoorW.PrintLast Go.Proofs.YtoofbppfbbhliaaDoorW.PrintMore Go.Proofs.YtoofbppfbbhliaaDoor.PFnIdxDrop Go.Proofs.YtoofbppfbbhliaaDoor.ptr
set_option linter.unusedVariables false
set_option linter.unusedSimpArgs false
set_option maxHeartbeats 2000000
set_option maxRecDepth 100000
theorem infoE1 : (Tryd.prog.info? 91).map (·.size) = some 1 := by kernel_rfl
/-- What Remove does. -/
def Removed (gx base : Nat) (w : World) (l : List S35) (name : ByteArray) (ev : Value) (e : Ending) (w' : World) : Prop := Below base w w' ∧ ((∃ (j : Nat) (h : j < l.length) (p v' : Value), e = .returned (.tuple #[p, .nilIface]) ∧ eqB l[j].f9 name = true ∧ (∀ o ∈ l.take j, eqB o.f9 name = false) ∧ w'.heap[gx]? = some (.cells (idxCells v') 134 (0, 0)) ∧ Kd.R kPE 91 w' base (fun _ => True) v' (l.eraseIdx j)) ∨ ((∀ o ∈ l, eqB o.f9 name = false) ∧ e = .returned (.tuple #[.pointer none, ev])))
theorem rest_at (g j c : Nat) : (if c = j + 1 then some (⟨g, 0, none⟩ : Addr) else some ⟨g, j + 1, none⟩) = if c = j + 1 then some ⟨g, 0, none⟩ else (some (⟨g, 0, none⟩ : Addr)).map (·.add ((j + 1) * kPE.sz)) := by
  show _ = if c = j + 1 then some (⟨g, 0, none⟩ : Addr) else some ((⟨g, 0, none⟩ : Addr).add ((j + 1) * 1))
  rw [Addr.add_mid, Nat.zero_add, Nat.mul_one]
theorem take_no {l : List S35} {name : ByteArray} {j : Nat} (hj : j < l.length) (h1 : eqB l[j].f9 name = false) (h2 : ∀ o ∈ l.take j, eqB o.f9 name = false) : ∀ o ∈ l.take (j + 1), eqB o.f9 name = false := by
  rw [take_snoc hj]
  intro o ho
  rcases List.mem_append.1 ho with ho | ho
  · exact h2 o ho
  · rw [List.mem_singleton.1 ho]; exact h1
theorem remove_any (gx : Nat) (v : Value) (l : List S35) (name : ByteArray) (base : Nat) (w : World) (hbase : base ≤ w.heap.size) (hgx : base ≤ gx) (hX : w.heap[gx]? = some (.cells (idxCells v) 134 (0, 0))) (hO : Kd.R kPE 91 w base (fun _ => True) v l) (hl : l.length ≤ 1000) (ev : Value) (hE : w.cell? ⟨1, 0, none⟩ = some ev) :
    Calls Tryd.prog 52 #[.pointer (some ⟨gx, 0, none⟩), .string name] w (Removed gx base w l name ev) := by
  obtain ⟨A, c, ea⟩ := Kd.R_slice hO
  subst ea
  have h1 : w.cell? ⟨gx, 1, none⟩ = some (.slice A l.length c) := (blk_cell hX 1).trans rfl
  have HX := Aside0.mk hX
  have HO := Aside0.mk hO
  have HEV := Aside0.mk hE
  have HBS := Aside0.mk hbase
  have HGX := Aside0.mk hgx
  clear hX hO hE hbase hgx
  go_enter Tryd.func52, Tryd.ntmps52
  go_wp2_with fail
  clear h1
  go_loopg [14] (l.length + 1) (fun kq v14 w' => ∃ (j : Nat), v14 = .int .i64 (j : Int) ∧ j ≤ l.length ∧ Aside0 (kq + j = l.length + 1) ∧ Aside0 (∀ o ∈ l.take j, eqB o.f9 name = false) ∧ Aside0 (w = w'))
  case atStart => exact ⟨0, rfl, Nat.zero_le _, ⟨by omega⟩, ⟨by intro o ho; simp at ho⟩, ⟨rfl⟩⟩
  case round =>
    obtain ⟨j, rfl, hj, HK, HN, HWW⟩ := hrel
    obtain rfl := HWW.out
    cases gk with
    | zero => exact absurd HK.out (by omega)
    | succ k1 =>
      by_cases hlt : j < l.length
      · have p150 : 0 ≤ (j : Int) := by omega
        have q150 : (j : Int) < (l.length : Int) := by omega
        have c5b0 : decide ((j : Int) < (l.length : Int)) = true := decide_eq_true q150
        obtain ⟨ge, cc, e0, _, _, _⟩ := Kd.R_form HO.out (by omega)
        injection e0 with e0 _ ec
        subst e0
        subst ec
        obtain ⟨ad, c', g, arr, e1, hlc, hcl, _, hgb, hg, hM⟩ := at_ptrM HO.out j hlt
        injection e1 with e1 _ ec
        injection e1 with e1
        subst e1
        subst ec
        rw [Addr.add_mid, Nat.zero_add] at hcl
        obtain ⟨D, hD, _, _, _, ha⟩ := hM
        have hn : w.cell? ⟨g, 20, none⟩ = some (.string l[j].f9) := (ent_cell hg ha hD 0).trans rfl
        have HCap := Aside0.mk hlc
        obtain ⟨b, hb⟩ : ∃ b, eqB l[j].f9 name = b := ⟨_, rfl⟩
        have e2 : (l[j].f9.toList == name.toList) = b := hb
        have HBB := Aside0.mk hb
        have HI := Aside0.mk hlt
        clear hgb hg hD ha hb hlc
        cases b with
        | true =>
          have v1 : (j : Int) ≤ (c : Int) := by have := HCap.out; omega
          have v2 : (0 : Int) ≤ (j : Int) + 1 := by omega
          have v3 : (j : Int) + 1 ≤ (l.length : Int) := by omega
          have v4 : l.length ≤ c := HCap.out
          have w9 : wrap64 ((j : Int) + 1) = (j : Int) + 1 := w64 (by omega) (by omega)
          obtain ⟨Ar, hAr⟩ : ∃ Ar, (if c = j + 1 then some (⟨ge, 0, none⟩ : Addr) else some ⟨ge, j + 1, none⟩) = Ar := ⟨_, rfl⟩
          have BXd := Aside0.mk (blk_drew HX.out)
          have HBd := Aside0.mk (below_drew1 (Below.refl base w))
          have HRd := Aside0.mk (Kd.R_below HO.out (below_drew1 (Below.refl w.heap.size w)))
          have HBD := Aside0.mk (show base ≤ w.drew.heap.size from HBS.out)
          go_wp2_with fail
          refine start_ (n := 18) (S := fun w' => w'.cell? ⟨gx, 1, none⟩ = some (.slice (some ⟨ge, 0, none⟩) l.length c)) (ds := [14, 17]) #[false, false, false, false, false, false, false, false, false, false, false, false, false, false, false, false, false, false] (by kernel_rfl) rfl rfl ((blk_cell BXd.out 1).trans rfl) (fun hHeld => ?_)
          refine pure_ (i := 0) (N := some 25) (v := ?_) (a' := ?_) #[true, false, false, false, false, false, false, false, false, false, false, false, false, false, false, false, false, false] rfl rfl (by kernel_rfl) (fun _ _ _ h => h) (Or.inl ⟨by rfl, ?_⟩) ?_ ?_
          rotate_left
          · intro w'
            go_simp
            with_reducible rfl
          rotate_left
          · simp only [Act.put, List.setIfInBounds_toArray, List.set_cons_zero, List.set_cons_succ, i64_w, i32_w]
            rfl
          refine pure_ (i := 1) (N := some 26) (v := ?_) (a' := ?_) #[true, true, false, false, false, false, false, false, false, false, false, false, false, false, false, false, false, false] rfl rfl (by kernel_rfl) (fun _ _ _ h => h) (Or.inl ⟨by rfl, ?_⟩) ?_ ?_
          rotate_left
          · intro w'
            go_simp
            with_reducible rfl
          rotate_left
          · simp only [Act.put, List.setIfInBounds_toArray, List.set_cons_zero, List.set_cons_succ, i64_w, i32_w]
            rfl
          refine pure_ (i := 2) (N := some 27) (v := ?_) (a' := ?_) #[true, true, true, false, false, false, false, false, false, false, false, false, false, false, false, false, false, false] rfl rfl (by kernel_rfl) (fun _ _ _ h => h) (Or.inl ⟨by rfl, ?_⟩) ?_ ?_
          rotate_left
          · intro w'
            go_simp
            with_reducible rfl
          rotate_left
          · simp only [Act.put, List.setIfInBounds_toArray, List.set_cons_zero, List.set_cons_succ, i64_w, i32_w]
            rfl
          refine pure_ (i := 3) (N := some 28) (v := ?_) (a' := ?_) #[true, true, true, true, false, false, false, false, false, false, false, false, false, false, false, false, false, false] rfl rfl (by kernel_rfl) (fun _ _ _ h => h) (Or.inl ⟨by rfl, ?_⟩) ?_ ?_
          rotate_left
          · intro w'
            go_simp
            with_reducible rfl
          rotate_left
          · simp only [Act.put, List.setIfInBounds_toArray, List.set_cons_zero, List.set_cons_succ, i64_w, i32_w]
            rfl
          refine pure_ (i := 5) (N := some 30) (v := ?_) (a' := ?_) #[true, true, true, true, false, true, false, false, false, false, false, false, false, false, false, false, false, false] rfl rfl (by kernel_rfl) (fun _ _ _ h => h) (Or.inl ⟨by rfl, ?_⟩) ?_ ?_
          rotate_left
          · intro w'
            go_simp
            with_reducible rfl
          rotate_left
          · simp only [Act.put, List.setIfInBounds_toArray, List.set_cons_zero, List.set_cons_succ, i64_w, i32_w]
            rfl
          refine pure_ (i := 7) (N := some 32) (v := ?_) (a' := ?_) #[true, true, true, true, false, true, false, true, false, false, false, false, false, false, false, false, false, false] rfl rfl (by kernel_rfl) (fun _ _ _ h => h) (Or.inl ⟨by rfl, ?_⟩) ?_ ?_
          rotate_left
          · intro w'
            go_simp
            with_reducible rfl
          rotate_left
          · simp only [Act.put, List.setIfInBounds_toArray, List.set_cons_zero, List.set_cons_succ, i64_w, i32_w]
            rfl
          refine pure_ (i := 8) (N := some 33) (v := ?_) (a' := ?_) #[true, true, true, true, false, true, false, true, true, false, false, false, false, false, false, false, false, false] rfl rfl (by kernel_rfl) (fun _ _ _ h => h) (Or.inl ⟨by rfl, ?_⟩) ?_ ?_
          rotate_left
          · intro w'
            go_simp
            with_reducible rfl
          rotate_left
          · simp only [Act.put, List.setIfInBounds_toArray, List.set_cons_zero, List.set_cons_succ, i64_w, i32_w]
            rfl
          refine pure_ (i := 9) (N := some 34) (v := ?_) (a' := ?_) #[true, true, true, true, false, true, false, true, true, true, false, false, false, false, false, false, false, false] rfl rfl (by kernel_rfl) (fun _ _ _ h => h) (Or.inl ⟨by rfl, ?_⟩) ?_ ?_
          rotate_left
          · intro w'
            go_simp
            with_reducible rfl
          rotate_left
          · simp only [Act.put, List.setIfInBounds_toArray, List.set_cons_zero, List.set_cons_succ, i64_w, i32_w]
            rfl
          refine pure_ (i := 11) (N := some 36) (v := ?_) (a' := ?_) #[true, true, true, true, false, true, false, true, true, true, false, true, false, false, false, false, false, false] rfl rfl (by kernel_rfl) (fun _ _ _ h => h) (Or.inl ⟨by rfl, ?_⟩) ?_ ?_
          rotate_left
          · intro w'
            go_simp
            with_reducible rfl
          rotate_left
          · simp only [Act.put, List.setIfInBounds_toArray, List.set_cons_zero, List.set_cons_succ, i64_w, i32_w]
            rfl
          refine pure_ (i := 12) (N := some 37) (v := ?_) (a' := ?_) #[true, true, true, true, false, true, false, true, true, true, false, true, true, false, false, false, false, false] rfl rfl (by kernel_rfl) (fun _ _ _ h => h) (Or.inl ⟨by rfl, ?_⟩) ?_ ?_
          rotate_left
          · intro w'
            go_simp
            with_reducible rfl
          rotate_left
          · simp only [Act.put, List.setIfInBounds_toArray, List.set_cons_zero, List.set_cons_succ, i64_w, i32_w]
            rfl
          refine take_ (i := 4) (N := some 29) (v := ?_) (a' := ?_) #[true, true, true, true, true, true, false, true, true, true, false, true, true, false, false, false, false, false] rfl rfl (by kernel_rfl) (fun _ _ _ h => h) (Or.inl ⟨by rfl, ?_⟩) hHeld ?_ ?_
          rotate_left
          · intro w' s0
            go_simp
            with_reducible rfl
          rotate_left
          · simp only [Act.put, List.setIfInBounds_toArray, List.set_cons_zero, List.set_cons_succ, i64_w, i32_w]
            rfl
          refine pure_ (i := 6) (N := some 31) (v := ?_) (a' := ?_) #[true, true, true, true, true, true, true, true, true, true, false, true, true, false, false, false, false, false] rfl rfl (by kernel_rfl) (fun _ _ _ h => h) (Or.inl ⟨by rfl, ?_⟩) ?_ ?_
          rotate_left
          · intro w'
            go_simp
            with_reducible rfl
          rotate_left
          · simp only [Act.put, List.setIfInBounds_toArray, List.set_cons_zero, List.set_cons_succ, i64_w, i32_w]
            rfl
          refine take_ (i := 10) (N := some 35) (v := ?_) (a' := ?_) #[true, true, true, true, true, true, true, true, true, true, true, true, true, false, false, false, false, false] rfl rfl (by kernel_rfl) (fun _ _ _ h => h) (Or.inl ⟨by rfl, ?_⟩) hHeld ?_ ?_
          rotate_left
          · intro w' s0
            go_simp
            with_reducible rfl
          rotate_left
          · simp only [Act.put, List.setIfInBounds_toArray, List.set_cons_zero, List.set_cons_succ, i64_w, i32_w]
            rfl
          refine pure_ (i := 13) (N := some 38) (v := ?_) (a' := ?_) #[true, true, true, true, true, true, true, true, true, true, true, true, true, true, false, false, false, false] rfl rfl (by kernel_rfl) (fun _ _ _ h => h) (Or.inl ⟨by rfl, ?_⟩) ?_ ?_
          rotate_left
          · intro w'
            go_simp
            with_reducible rfl
          rotate_left
          · simp only [Act.put, List.setIfInBounds_toArray, List.set_cons_zero, List.set_cons_succ, i64_w, i32_w]
            rfl
          refine last_ (i := 14) (N := some 39) #[true, true, true, true, true, true, true, true, true, true, true, true, true, true, true, false, false, false] rfl rfl (by kernel_rfl) (by decide) (fun K hK => ?_)
          refine Kd.R_delete_step kPE (w0 := w) base (by rfl) (.tmp 31) (.tmp 38) 127 91 rfl Tryd.underlying127 infoE1 (c2 := c - (j + 1)) (A := Ar) rfl rfl (hAr.symm.trans (rest_at ge j c)) rfl HRd.out HI.out HBd.out HBD.out ?_
          intro w7 ho hb hg
          have HO7 := Aside0.mk ho
          have HB7 := Aside0.mk hb
          have BX7 := Aside0.mk (blk_grown (row := some ge) BXd.out hg (Kd.R_ne HRd.out BXd.out (by decide)))
          clear ho hb hg
          have m1 : w7.cell? ⟨gx, 1, none⟩ = some (.slice (some ⟨ge, 0, none⟩) l.length c) := (blk_cell BX7.out 1).trans rfl
          have mf := blk_frozen BX7.out 1
          refine hK.out _ _ ?_
          clear hK K
          refine norm_ (a' := ?_) ?_ ?_
          rotate_left
          · show Act.put _ (some 39) _ = _
            simp only [Act.put, List.setIfInBounds_toArray, List.set_cons_zero, List.set_cons_succ, i64_w, i32_w]
            rfl
          refine pure_ (i := 15) (N := some 40) (v := ?_) (a' := ?_) #[true, true, true, true, true, true, true, true, true, true, true, true, true, true, true, true, false, false] rfl rfl (by kernel_rfl) (fun _ _ _ h => h) (Or.inl ⟨by rfl, ?_⟩) ?_ ?_
          rotate_left
          · intro w'
            go_simp
            with_reducible rfl
          rotate_left
          · simp only [Act.put, List.setIfInBounds_toArray, List.set_cons_zero, List.set_cons_succ, i64_w, i32_w]
            rfl
          refine pure_ (i := 16) (N := some 41) (v := ?_) (a' := ?_) #[true, true, true, true, true, true, true, true, true, true, true, true, true, true, true, true, true, false] rfl rfl (by kernel_rfl) (fun _ _ _ h => h) (Or.inl ⟨by rfl, ?_⟩) ?_ ?_
          rotate_left
          · intro w'
            go_simp
            with_reducible rfl
          rotate_left
          · simp only [Act.put, List.setIfInBounds_toArray, List.set_cons_zero, List.set_cons_succ, i64_w, i32_w]
            rfl
          refine last_ (i := 17) (N := none) #[true, true, true, true, true, true, true, true, true, true, true, true, true, true, true, true, true, true] rfl rfl (by kernel_rfl) (by decide) (fun K hK => ?_)
          refine skip_ (w1 := ?_) (by rfl) rfl ?_ ?_
          rotate_left
          · go_simp
            rfl
          refine hK.out _ _ ?_
          clear hK K
          refine done_ (by kernel_rfl) ?_
          go_wp2
          go_ret2
          exact ⟨HB7.out.setCell (by exact HGX.out) _, .inl ⟨j, HI.out, _, _, rfl, HBB.out, HN.out, blk_put (cs := idxCells (.slice (some ⟨ge, 0, none⟩) l.length c)) BX7.out 1 _ rfl, Kd.R_set HO7.out BX7.out (by decide) 1 _⟩⟩
        | false =>
          go_wp2_with fail
          go_roundg k1
          case measure => have := HK.out; omega
          case rel => exact ⟨j + 1, by go_num, HI.out, ⟨by have := HK.out; omega⟩, ⟨take_no HI.out HBB.out HN.out⟩, ⟨rfl⟩⟩
      · have c5b0 : decide ((j : Int) < (l.length : Int)) = false := decide_eq_false (by omega)
        have HT := Aside0.mk (show l.take j = l from List.take_of_length_le (by omega))
        rw [HT.out] at HN
        go_wp2_with fail
        refine start_ (n := 3) (S := fun w' => w'.cell? ⟨1, 0, none⟩ = some ev) (ds := []) #[false, false, false] (by kernel_rfl) rfl rfl (HEV.out) (fun hHeld => ?_)
        refine pure_ (i := 1) (N := some 4) (v := ?_) (a' := ?_) #[false, true, false] rfl rfl (by kernel_rfl) (fun _ _ _ h => h) (Or.inl ⟨by rfl, ?_⟩) ?_ ?_
        rotate_left
        · intro w'
          go_simp
          with_reducible rfl
        rotate_left
        · simp only [Act.put, List.setIfInBounds_toArray, List.set_cons_zero, List.set_cons_succ, i64_w, i32_w]
          rfl
        refine take_ (i := 0) (N := some 44) (v := ?_) (a' := ?_) #[true, true, false] rfl rfl (by kernel_rfl) (fun _ _ _ h => h) (Or.inl ⟨by rfl, ?_⟩) hHeld ?_ ?_
        rotate_left
        · intro w' s0
          go_simp
          with_reducible rfl
        rotate_left
        · simp only [Act.put, List.setIfInBounds_toArray, List.set_cons_zero, List.set_cons_succ, i64_w, i32_w]
          rfl
        refine pure_ (i := 2) (N := some 5) (v := ?_) (a' := ?_) #[true, true, true] rfl rfl (by kernel_rfl) (fun _ _ _ h => h) (Or.inl ⟨by rfl, ?_⟩) ?_ ?_
        rotate_left
        · intro w'
          go_simp
          with_reducible rfl
        rotate_left
        · simp only [Act.put, List.setIfInBounds_toArray, List.set_cons_zero, List.set_cons_succ, i64_w, i32_w]
          rfl
        refine done_ (by kernel_rfl) ?_
        go_wp2
        go_ret2
        exact ⟨below_drew1 (Below.refl base w), .inr ⟨HN.out, rfl⟩⟩
end Go.Proofs.YtoofbppfbbhliaaDoor.idx
