/- Capabilities: Add of one that is there; Set. Capabilities: Set; impl.SetCap. Capabilities: impl.SetCap. -/
import Derived.Test.YtdobblddnfalcaaDoorSapF
namespace Go.Proofs.YtdobblddnfalcaaDoor.cap
section
open Go.RowKit Go.Proofs.YtdobblddnfalcaaDoorW.PrintWords Go.Proofs.YtdobblddnfalcaaDoorW.PrintLast Go.Proofs.YtdobblddnfalcaaDoorW.PrintMore Go.Proofs.YtdobblddnfalcaaDoor.off Go.Proofs.YtdobblddnfalcaaDoor.mapq Go.Proofs.YtdobblddnfalcaaDoor.PFnCapsWritten
set_option linter.unusedVariables false
set_option linter.unusedSimpArgs false
set_option maxHeartbeats 2000000
set_option maxRecDepth 100000
theorem find_mid {a b : List Row} {r : Row} {v' : Value} {vs' : List ByteArray} : find (a ++ ⟨r.name, r.ge, v', vs'⟩ :: b) = find (a ++ r :: b) := by
  funext s
  unfold find
  rw [List.find?_append, List.find?_append, List.find?_cons, List.find?_cons]
  cases a.find? (fun r => r.name.data.toList == s.data.toList) with
  | some q => rfl
  | none =>
    cases hq : (r.name.data.toList == s.data.toList) <;> rfl
/-- Another value in an entry, over the same row. -/
theorem capS_put {w : World} {gl gm : Nat} {sv : Value} {names : List ByteArray} {a b : List Row} {r : Row} (h : CapS w gl gm sv names (a ++ r :: b)) (v' : Value) (vs' : List ByteArray) (hs : Slc w v' (strs vs')) (ho : own v' = own r.v) :
    CapS (w.setCell ⟨r.ge, 1, none⟩ v') gl gm sv names (a ++ ⟨r.name, r.ge, v', vs'⟩ :: b) ∧ bl gl gm sv (a ++ ⟨r.name, r.ge, v', vs'⟩ :: b) = bl gl gm sv (a ++ r :: b) := by
  have hrr : r ∈ a ++ r :: b := List.mem_append_right _ List.mem_cons_self
  have hR := h.row r hrr
  obtain ⟨a1, a2, a3, a4⟩ := h.apart
  have hfl : (a ++ r :: b).flatMap blks = (a.flatMap blks ++ [r.ge]) ++ own r.v ++ b.flatMap blks := by
    rw [List.flatMap_append, List.flatMap_cons]
    simp [blks]
  have hfl' : (a ++ ⟨r.name, r.ge, v', vs'⟩ :: b).flatMap blks = (a.flatMap blks ++ [r.ge]) ++ own r.v ++ b.flatMap blks := by
    rw [List.flatMap_append, List.flatMap_cons]
    simp [blks, ho]
  have hown : ∀ k ∈ own r.v, k ∈ (a ++ r :: b).flatMap blks := fun k hk => mem_rows hrr (List.mem_cons_of_mem _ hk)
  have hnd : (a.flatMap blks ++ r.ge :: (own r.v ++ b.flatMap blks)).Nodup := by
    have := a4
    rw [hfl] at this
    simpa using this
  obtain ⟨n1, n2, n3⟩ := List.nodup_append.1 hnd
  obtain ⟨n4, n5⟩ := List.nodup_cons.1 n2
  have hge : ∀ k ∈ own r.v, k ≠ r.ge := fun k hk e => n4 (by rw [← e]; exact List.mem_append_left _ hk)
  have hoth : ∀ q ∈ a ++ b, ∀ k ∈ blks q, k ≠ r.ge := fun q hq k hk => by
    rcases List.mem_append.1 hq with hq | hq
    · exact fun e => n3 k (mem_rows hq hk) r.ge List.mem_cons_self e
    · exact fun e => n4 (by rw [← e]; exact List.mem_append_right _ (mem_rows hq hk))
  have hset := Off.cell (S := fun k => k = r.ge) (Off.refl _ w) (g := r.ge) rfl 1 v'
  have hgerow : r.ge ∈ (a ++ r :: b).flatMap blks := mem_rows hrr List.mem_cons_self
  have hbl : bl gl gm sv (a ++ ⟨r.name, r.ge, v', vs'⟩ :: b) = bl gl gm sv (a ++ r :: b) := by
    unfold bl
    rw [hfl, hfl']
  refine ⟨⟨hset.blk h.list (fun e => (a3 r.ge hgerow).1 e.symm), ?_, h.sort.off hset (fun k hk e => (a3 r.ge hgerow).2.2 (by rw [← e]; exact own_mem.2 hk)), ?_, by rw [hbl]; exact h.nd⟩, hbl⟩
  · rw [find_mid]
    have := h.map.off hset (fun e => (a3 r.ge hgerow).2.1 e.symm)
    simpa using this
  · intro q hq
    have hoq : ∀ q ∈ a ++ b, RowAt (w.setCell ⟨r.ge, 1, none⟩ v') q := fun q hq => by
      have hq' : q ∈ a ++ r :: b := (List.mem_append.1 hq).elim (fun h => List.mem_append_left _ h) (fun h => List.mem_append_right _ (List.mem_cons_of_mem _ h))
      exact (h.row q hq').keep hset.size (fun k hk => Below.heap_setCell w ⟨r.ge, 1, none⟩ v' k (hoth q hq k hk))
    rcases List.mem_append.1 hq with hq | hq
    · exact hoq q (List.mem_append_left _ hq)
    rcases List.mem_cons.1 hq with rfl | hq
    · exact ⟨blk_put hR.cells 1 _ rfl, hs.off hset (fun k hk e => hge k (by rw [← ho]; exact own_mem.2 hk) e)⟩
    · exact hoq q (List.mem_append_right _ hq)
theorem cut_zero {w : World} {A : Option Addr} {n c : Nat} {xs : List Value} (h : Slc w (.slice A n c) xs) : Slc w (.slice A 0 c) (strs []) := by
  rcases h with ⟨h, _⟩ | ⟨b, off, n', c', h, hm⟩
  · injection h with h1 h2 h3
    subst h1 h3
    exact .inl ⟨rfl, rfl⟩
  · injection h with h1 h2 h3
    subst h1 h2 h3
    exact .inr ⟨b, off, 0, c, rfl, ⟨rfl, Nat.zero_le _, hm.max, (fun j v hv => by cases hv), hm.th, hm.blk, (fun u hu => by cases hu)⟩⟩
theorem add_old (base : Nat) (w : World) (gl gm : Nat) (sv : Value) (a b : List Row) (r : Row) (h : CapL base w gl gm sv (a ++ r :: b)) (hnd : ((a ++ r :: b).map (·.name)).Nodup) (hbw : base ≤ w.heap.size) (A : Option Addr) (c : Nat) (vs : List ByteArray) (ok : ArgsOk r.name vs) (hsrc : Src w A vs.length (strs vs)) (hA : ∀ ad, A = some ad → ad.block ∉ bl gl gm sv (a ++ r :: b))
    (hm : decide (r.name.data.toList ∈ multipleL) = false → r.vs = []) (hl : r.vs.length ≤ 1000) :
    Calls Tryd.prog 31 #[.pointer (some ⟨gl, 0, none⟩), .string r.name, .slice A vs.length c] w fun e w' => e = .returned .nilIface ∧ ∃ v', CapL base w' gl gm sv (a ++ ⟨r.name, r.ge, v', r.vs ++ vs⟩ :: b) ∧ Below base w w' ∧ Off (fun k => k ∈ bl gl gm sv (a ++ r :: b)) w w' ∧ ∀ k ∈ bl gl gm sv (a ++ ⟨r.name, r.ge, v', r.vs ++ vs⟩ :: b), k ∈ bl gl gm sv (a ++ r :: b) ∨ w.heap.size ≤ k := by
  have hrr : r ∈ a ++ r :: b := List.mem_append_right _ List.mem_cons_self
  have hf : find (a ++ r :: b) r.name = some r.ge := name_mem hrr hnd
  have hsz : r.name.size ≤ maxLen := Nat.le_trans ok.size (by decide)
  obtain ⟨name, ge, rv, rvs⟩ := r
  obtain ⟨Ar, cr, hrv, _⟩ := Slc_shape (h.s.row _ hrr).slc
  rw [strs_len] at hrv
  simp only at hf hsz ok hm hl hrv hA
  subst hrv
  have HV := Aside0.mk (validate_any w (.pointer (some ⟨gl, 0, none⟩)) name A c vs ok hsrc)
  have HSUP := Aside0.mk (fun W (hb : Below w.heap.size w W) => supports_any W gl gm sv _ _ (h.s.below hb) name hsz true (by rw [hf]; rfl))
  have HGE := Aside0.mk h.ge
  have HS0 := Aside0.mk h.s
  have HSRC := Aside0.mk hsrc
  have HA := Aside0.mk hA
  have HBW := Aside0.mk hbw
  have HF := Aside0.mk hf
  have HM := Aside0.mk hm
  have HL := Aside0.mk hl
  have HOK := Aside0.mk ok
  have HRR := Aside0.mk hrr
  clear h hsrc hA hbw hf hm hl ok hnd hrr
  go_enter Tryd.func31, Tryd.ntmps31
  go_wp2_with fail
  refine HV.out.mono ?_
  rintro e w1 ⟨rfl, hb⟩
  have HB1 := Aside0.mk hb
  clear hb HV
  go_wp2_with fail
  refine (HSUP.out _ HB1.out).mono ?_
  rintro e w2 ⟨rfl, hb⟩
  have HB2 := Aside0.mk (below_step HB1.out hb)
  clear hb HSUP HB1
  have H2 := Aside0.mk (HS0.out.below HB2.out)
  by_cases hv : vs.length = 0
  · obtain rfl : vs = [] := List.eq_nil_of_length_eq_zero hv
    go_wp2_with fail
    go_ret
    exact ⟨rfl, _, ⟨by rw [List.append_nil]; simpa using H2.out, by rw [List.append_nil]; exact HGE.out⟩, HB2.out.mono HBW.out, Off.of_below HB2.out, by rw [List.append_nil]; exact fun k hk => .inl hk⟩
  · have d0 : ((vs.length : Int) == 0) = false := beq_eq_false_iff_ne.2 (by omega)
    have d1 : (vs.length == 0) = false := beq_eq_false_iff_ne.2 hv
    have HK := Aside0.mk (fun W => known_any W name hsz true HOK.out.known)
    obtain ⟨mu, hmu⟩ : ∃ b, decide (name.data.toList ∈ multipleL) = b := ⟨_, rfl⟩
    have HU := Aside0.mk (fun W => multiple_any W name hsz mu hmu)
    have HMU := Aside0.mk (show mu = false → rvs = [] from fun e => HM.out (hmu.trans e))
    clear hmu hv HM
    go_wp2_with fail
    refine (HK.out _).mono ?_
    rintro e w7 ⟨rfl, hb⟩
    have HB7 := Aside0.mk (below_step HB2.out hb)
    clear hb
    go_wp2_with fail
    refine (HU.out _).mono ?_
    rintro e w8 ⟨rfl, hb⟩
    have HB8 := Aside0.mk (below_step HB7.out hb)
    clear hb HB7 HK HU
    have HSRC9 := Aside0.mk (Src.below HSRC.out HB8.out)
    have H9 := Aside0.mk (HS0.out.below HB8.out)
    have HB9 := Aside0.mk (HB8.out.mono HBW.out)
    obtain ⟨v10, w10, hr10, ⟨A10, c10, hv10⟩, hc10, hf10, h10, ho10, hg10⟩ := capS_vals (w := w8.drew) (a := a) (b := b) (r := ⟨name, ge, .slice Ar rvs.length cr, rvs⟩) (H9.out.keep (Nat.le_refl _) (fun _ _ => rfl)) (c := c) vs (Src.below HSRC9.out ((below_drew (Below.refl _ _)))) (by have := HOK.out.most; have := HL.out; simp only; omega)
    simp only at hv10 hc10 hf10 h10 ho10 hg10 hr10
    subst hv10
    have HR10 := Aside0.mk hr10
    have H10 := Aside0.mk h10
    have HO10 := Aside0.mk ho10
    have HG10 := Aside0.mk hg10
    have q0 := (blk_cell H9.out.list 0).trans (show _ = some (Value.map (some gm)) from rfl)
    have q1 := (blk_cell (H9.out.row _ HRR.out).cells 1).trans (show _ = some (Value.slice Ar rvs.length cr) from rfl)
    have hlk := fun W (hb : Below w8.heap.size w8 W) => (H9.out.map.keep (w' := W) (hb.block gm H9.out.map.lt)).look1 Tryd.underlying50 Tryd.underlying62 (zeroPtr W) name hsz
    rw [HF.out] at hlk
    have HLK := Aside0.mk (hlk w8.drew (below_drew (Below.refl _ _)))
    have hl8 : (Instr.lookup 62 (.map (some gm)) (.string name) false).run Tryd.prog w8 = .ok (.pointer (some ⟨ge, 0, none⟩)) w8 := hlk w8 (Below.refl _ _)
    have hne := (H9.out.apart.2.2.1 ge (mem_rows HRR.out List.mem_cons_self))
    have HE10 := Aside0.mk ((Below.heap_setCell w10 ⟨ge, 1, none⟩ (.slice A10 (rvs.length + vs.length) c10) gl (fun e => hne.1 e.symm)).symm.trans H10.out.list)
    have hl10 := (H10.out.map.keep (Below.heap_setCell w10 ⟨ge, 1, none⟩ (.slice A10 (rvs.length + vs.length) c10) gm (fun e => hne.2.1 e.symm)).symm).look1 Tryd.underlying50 Tryd.underlying62 (zeroPtr w10) name hsz
    rw [show find (a ++ ⟨name, ge, .slice A10 (rvs.length + vs.length) c10, rvs ++ vs⟩ :: b) name = some ge by rw [find_mid (r := ⟨name, ge, .slice Ar rvs.length cr, rvs⟩)]; exact HF.out] at hl10
    have HL10 := Aside0.mk hl10
    clear hr10 h10 ho10 hg10 hlk HSRC9 hne hl10
    cases mu with
    | true =>
      clear hl8
      go_wp2_with fail
      refine start_ (n := 20) (S := fun w' => w'.cell? ⟨gl, 0, none⟩ = some (.map (some gm)) ∧ (Instr.lookup 62 (.map (some gm)) (.string name) false).run Tryd.prog w' = .ok (.pointer (some ⟨ge, 0, none⟩)) w' ∧ w'.cell? ⟨ge, 1, none⟩ = some (.slice Ar rvs.length cr)) (ds := [19]) #[false, false, false, false, false, false, false, false, false, false, false, false, false, false, false, false, false, false, false, false] (by kernel_rfl) rfl rfl ⟨q0, HLK.out, q1⟩ (fun hHeld => ?_)
      refine pure_ (i := 0) (N := some 62) (v := ?_) (a' := ?_) #[true, false, false, false, false, false, false, false, false, false, false, false, false, false, false, false, false, false, false, false] rfl rfl (by kernel_rfl) (fun _ _ _ h => h) (Or.inl ⟨by rfl, ?_⟩) ?_ ?_
      rotate_left
      · intro w'
        go_simp
        with_reducible rfl
      rotate_left
      · simp only [Act.put, List.setIfInBounds_toArray, List.set_cons_zero, List.set_cons_succ, i64_w, i32_w]
        rfl
      refine pure_ (i := 1) (N := some 63) (v := ?_) (a' := ?_) #[true, true, false, false, false, false, false, false, false, false, false, false, false, false, false, false, false, false, false, false] rfl rfl (by kernel_rfl) (fun _ _ _ h => h) (Or.inl ⟨by rfl, ?_⟩) ?_ ?_
      rotate_left
      · intro w'
        go_simp
        with_reducible rfl
      rotate_left
      · simp only [Act.put, List.setIfInBounds_toArray, List.set_cons_zero, List.set_cons_succ, i64_w, i32_w]
        rfl
      refine pure_ (i := 2) (N := some 64) (v := ?_) (a' := ?_) #[true, true, true, false, false, false, false, false, false, false, false, false, false, false, false, false, false, false, false, false] rfl rfl (by kernel_rfl) (fun _ _ _ h => h) (Or.inl ⟨by rfl, ?_⟩) ?_ ?_
      rotate_left
      · intro w'
        go_simp
        with_reducible rfl
      rotate_left
      · simp only [Act.put, List.setIfInBounds_toArray, List.set_cons_zero, List.set_cons_succ, i64_w, i32_w]
        rfl
      refine pure_ (i := 4) (N := some 66) (v := ?_) (a' := ?_) #[true, true, true, false, true, false, false, false, false, false, false, false, false, false, false, false, false, false, false, false] rfl rfl (by kernel_rfl) (fun _ _ _ h => h) (Or.inl ⟨by rfl, ?_⟩) ?_ ?_
      rotate_left
      · intro w'
        go_simp
        with_reducible rfl
      rotate_left
      · simp only [Act.put, List.setIfInBounds_toArray, List.set_cons_zero, List.set_cons_succ, i64_w, i32_w]
        rfl
      refine pure_ (i := 6) (N := some 68) (v := ?_) (a' := ?_) #[true, true, true, false, true, false, true, false, false, false, false, false, false, false, false, false, false, false, false, false] rfl rfl (by kernel_rfl) (fun _ _ _ h => h) (Or.inl ⟨by rfl, ?_⟩) ?_ ?_
      rotate_left
      · intro w'
        go_simp
        with_reducible rfl
      rotate_left
      · simp only [Act.put, List.setIfInBounds_toArray, List.set_cons_zero, List.set_cons_succ, i64_w, i32_w]
        rfl
      refine pure_ (i := 7) (N := some 69) (v := ?_) (a' := ?_) #[true, true, true, false, true, false, true, true, false, false, false, false, false, false, false, false, false, false, false, false] rfl rfl (by kernel_rfl) (fun _ _ _ h => h) (Or.inl ⟨by rfl, ?_⟩) ?_ ?_
      rotate_left
      · intro w'
        go_simp
        with_reducible rfl
      rotate_left
      · simp only [Act.put, List.setIfInBounds_toArray, List.set_cons_zero, List.set_cons_succ, i64_w, i32_w]
        rfl
      refine pure_ (i := 8) (N := some 70) (v := ?_) (a' := ?_) #[true, true, true, false, true, false, true, true, true, false, false, false, false, false, false, false, false, false, false, false] rfl rfl (by kernel_rfl) (fun _ _ _ h => h) (Or.inl ⟨by rfl, ?_⟩) ?_ ?_
      rotate_left
      · intro w'
        go_simp
        with_reducible rfl
      rotate_left
      · simp only [Act.put, List.setIfInBounds_toArray, List.set_cons_zero, List.set_cons_succ, i64_w, i32_w]
        rfl
      refine pure_ (i := 10) (N := some 72) (v := ?_) (a' := ?_) #[true, true, true, false, true, false, true, true, true, false, true, false, false, false, false, false, false, false, false, false] rfl rfl (by kernel_rfl) (fun _ _ _ h => h) (Or.inl ⟨by rfl, ?_⟩) ?_ ?_
      rotate_left
      · intro w'
        go_simp
        with_reducible rfl
      rotate_left
      · simp only [Act.put, List.setIfInBounds_toArray, List.set_cons_zero, List.set_cons_succ, i64_w, i32_w]
        rfl
      refine pure_ (i := 15) (N := some 77) (v := ?_) (a' := ?_) #[true, true, true, false, true, false, true, true, true, false, true, false, false, false, false, true, false, false, false, false] rfl rfl (by kernel_rfl) (fun _ _ _ h => h) (Or.inl ⟨by rfl, ?_⟩) ?_ ?_
      rotate_left
      · intro w'
        go_simp
        with_reducible rfl
      rotate_left
      · simp only [Act.put, List.setIfInBounds_toArray, List.set_cons_zero, List.set_cons_succ, i64_w, i32_w]
        rfl
      refine take_ (i := 3) (N := some 65) (v := ?_) (a' := ?_) #[true, true, true, true, true, false, true, true, true, false, true, false, false, false, false, true, false, false, false, false] rfl rfl (by kernel_rfl) (fun _ _ _ h => h) (Or.inl ⟨by rfl, ?_⟩) hHeld ?_ ?_
      rotate_left
      · rintro w' ⟨s0, s1, s2⟩
        go_simp
        with_reducible rfl
      rotate_left
      · simp only [Act.put, List.setIfInBounds_toArray, List.set_cons_zero, List.set_cons_succ, i64_w, i32_w]
        rfl
      refine take_ (i := 5) (N := some 67) (v := ?_) (a' := ?_) #[true, true, true, true, true, true, true, true, true, false, true, false, false, false, false, true, false, false, false, false] rfl rfl (by kernel_rfl) (fun _ _ _ h => h) (Or.inl ⟨by rfl, ?_⟩) hHeld ?_ ?_
      rotate_left
      · rintro w' ⟨s0, s1, s2⟩
        go_simp
        with_reducible rfl
      rotate_left
      · simp only [Act.put, List.setIfInBounds_toArray, List.set_cons_zero, List.set_cons_succ, i64_w, i32_w]
        rfl
      refine take_ (i := 9) (N := some 71) (v := ?_) (a' := ?_) #[true, true, true, true, true, true, true, true, true, true, true, false, false, false, false, true, false, false, false, false] rfl rfl (by kernel_rfl) (fun _ _ _ h => h) (Or.inl ⟨by rfl, ?_⟩) hHeld ?_ ?_
      rotate_left
      · rintro w' ⟨s0, s1, s2⟩
        go_simp
        with_reducible rfl
      rotate_left
      · simp only [Act.put, List.setIfInBounds_toArray, List.set_cons_zero, List.set_cons_succ, i64_w, i32_w]
        rfl
      refine take_ (i := 11) (N := some 73) (v := ?_) (a' := ?_) #[true, true, true, true, true, true, true, true, true, true, true, true, false, false, false, true, false, false, false, false] rfl rfl (by kernel_rfl) (fun _ _ _ h => h) (Or.inl ⟨by rfl, ?_⟩) hHeld ?_ ?_
      rotate_left
      · rintro w' ⟨s0, s1, s2⟩
        go_simp
        with_reducible rfl
      rotate_left
      · simp only [Act.put, List.setIfInBounds_toArray, List.set_cons_zero, List.set_cons_succ, i64_w, i32_w]
        rfl
      refine pure_ (i := 12) (N := some 74) (v := ?_) (a' := ?_) #[true, true, true, true, true, true, true, true, true, true, true, true, true, false, false, true, false, false, false, false] rfl rfl (by kernel_rfl) (fun _ _ _ h => h) (Or.inl ⟨by rfl, ?_⟩) ?_ ?_
      rotate_left
      · intro w'
        go_simp
        with_reducible rfl
      rotate_left
      · simp only [Act.put, List.setIfInBounds_toArray, List.set_cons_zero, List.set_cons_succ, i64_w, i32_w]
        rfl
      refine pure_ (i := 13) (N := some 75) (v := ?_) (a' := ?_) #[true, true, true, true, true, true, true, true, true, true, true, true, true, true, false, true, false, false, false, false] rfl rfl (by kernel_rfl) (fun _ _ _ h => h) (Or.inl ⟨by rfl, ?_⟩) ?_ ?_
      rotate_left
      · intro w'
        go_simp
        with_reducible rfl
      rotate_left
      · simp only [Act.put, List.setIfInBounds_toArray, List.set_cons_zero, List.set_cons_succ, i64_w, i32_w]
        rfl
      refine take_ (i := 14) (N := some 76) (v := ?_) (a' := ?_) #[true, true, true, true, true, true, true, true, true, true, true, true, true, true, true, true, false, false, false, false] rfl rfl (by kernel_rfl) (fun _ _ _ h => h) (Or.inl ⟨by rfl, ?_⟩) hHeld ?_ ?_
      rotate_left
      · rintro w' ⟨s0, s1, s2⟩
        go_simp
        with_reducible rfl
      rotate_left
      · simp only [Act.put, List.setIfInBounds_toArray, List.set_cons_zero, List.set_cons_succ, i64_w, i32_w]
        rfl
      refine one_ (i := 16) (N := some 78) #[true, true, true, true, true, true, true, true, true, true, true, true, true, true, true, true, true, false, false, false] rfl rfl (by kernel_rfl) (by decide) (fun K hK => ?_)
      refine step_append_run (by rfl) (.tmp 76) (.tmp 77) 28 rfl _ _ rfl rfl HR10.out ?_
      refine hK.out _ _ ⟨(blk_cell HE10.out 0).trans rfl, HL10.out, hc10⟩ (fun hHeld => ?_)
      clear hK K
      refine norm_ (a' := ?_) ?_ ?_
      rotate_left
      · show Act.put _ (some 78) _ = _
        simp only [Act.put, List.setIfInBounds_toArray, List.set_cons_zero, List.set_cons_succ, i64_w, i32_w]
        rfl
      refine pure_ (i := 17) (N := some 79) (v := ?_) (a' := ?_) #[true, true, true, true, true, true, true, true, true, true, true, true, true, true, true, true, true, true, false, false] rfl rfl (by kernel_rfl) (fun _ _ _ h => h) (Or.inl ⟨by rfl, ?_⟩) ?_ ?_
      rotate_left
      · intro w'
        go_simp
        with_reducible rfl
      rotate_left
      · simp only [Act.put, List.setIfInBounds_toArray, List.set_cons_zero, List.set_cons_succ, i64_w, i32_w]
        rfl
      refine pure_ (i := 18) (N := some 80) (v := ?_) (a' := ?_) #[true, true, true, true, true, true, true, true, true, true, true, true, true, true, true, true, true, true, true, false] rfl rfl (by kernel_rfl) (fun _ _ _ h => h) (Or.inl ⟨by rfl, ?_⟩) ?_ ?_
      rotate_left
      · intro w'
        go_simp
        with_reducible rfl
      rotate_left
      · simp only [Act.put, List.setIfInBounds_toArray, List.set_cons_zero, List.set_cons_succ, i64_w, i32_w]
        rfl
      refine last_ (i := 19) (N := none) #[true, true, true, true, true, true, true, true, true, true, true, true, true, true, true, true, true, true, true, true] rfl rfl (by kernel_rfl) (by decide) (fun K hK => ?_)
      refine skip_ (w1 := ?_) (by rfl) rfl ?_ ?_
      rotate_left
      · go_simp
        rfl
      refine hK.out _ _ ?_
      clear hK K
      refine done_ (by kernel_rfl) ?_

      go_wp2_with fail
      go_ret
      refine ⟨rfl, .slice A10 (rvs.length + vs.length) c10, ⟨?_, fun k hk => ?_⟩, (below_drew HB9.out).trans ((off_below HO10.out (by have := HB9.out.size; have := HBW.out; show base ≤ w8.heap.size; omega) (fun k hk => HGE.out k hk))), off_trans2 (Off.of_below HB8.out).drew HO10.out (fun k hk h => h), fun k hk => (HG10.out k hk).elim .inl (fun h => .inr (Nat.le_trans HB8.out.size h))⟩
      · simpa using H10.out
      · rcases HG10.out k hk with h | h
        · exact HGE.out k h
        · exact Nat.le_trans (Nat.le_trans HBW.out HB9.out.size) h
    | false =>
      obtain rfl := HMU.out rfl
      simp only [List.length_nil, Nat.zero_add] at H10 HO10 HG10 HR10 HE10 HL10 q1
      go_wp2_with fail
      refine start_ (n := 20) (S := fun w' => w'.cell? ⟨gl, 0, none⟩ = some (.map (some gm)) ∧ (Instr.lookup 62 (.map (some gm)) (.string name) false).run Tryd.prog w' = .ok (.pointer (some ⟨ge, 0, none⟩)) w' ∧ w'.cell? ⟨ge, 1, none⟩ = some (.slice Ar 0 cr)) (ds := [19]) #[false, false, false, false, false, false, false, false, false, false, false, false, false, false, false, false, false, false, false, false] (by kernel_rfl) rfl rfl ⟨q0, HLK.out, q1⟩ (fun hHeld => ?_)
      refine pure_ (i := 0) (N := some 62) (v := ?_) (a' := ?_) #[true, false, false, false, false, false, false, false, false, false, false, false, false, false, false, false, false, false, false, false] rfl rfl (by kernel_rfl) (fun _ _ _ h => h) (Or.inl ⟨by rfl, ?_⟩) ?_ ?_
      rotate_left
      · intro w'
        go_simp
        with_reducible rfl
      rotate_left
      · simp only [Act.put, List.setIfInBounds_toArray, List.set_cons_zero, List.set_cons_succ, i64_w, i32_w]
        rfl
      refine pure_ (i := 1) (N := some 63) (v := ?_) (a' := ?_) #[true, true, false, false, false, false, false, false, false, false, false, false, false, false, false, false, false, false, false, false] rfl rfl (by kernel_rfl) (fun _ _ _ h => h) (Or.inl ⟨by rfl, ?_⟩) ?_ ?_
      rotate_left
      · intro w'
        go_simp
        with_reducible rfl
      rotate_left
      · simp only [Act.put, List.setIfInBounds_toArray, List.set_cons_zero, List.set_cons_succ, i64_w, i32_w]
        rfl
      refine pure_ (i := 2) (N := some 64) (v := ?_) (a' := ?_) #[true, true, true, false, false, false, false, false, false, false, false, false, false, false, false, false, false, false, false, false] rfl rfl (by kernel_rfl) (fun _ _ _ h => h) (Or.inl ⟨by rfl, ?_⟩) ?_ ?_
      rotate_left
      · intro w'
        go_simp
        with_reducible rfl
      rotate_left
      · simp only [Act.put, List.setIfInBounds_toArray, List.set_cons_zero, List.set_cons_succ, i64_w, i32_w]
        rfl
      refine pure_ (i := 4) (N := some 66) (v := ?_) (a' := ?_) #[true, true, true, false, true, false, false, false, false, false, false, false, false, false, false, false, false, false, false, false] rfl rfl (by kernel_rfl) (fun _ _ _ h => h) (Or.inl ⟨by rfl, ?_⟩) ?_ ?_
      rotate_left
      · intro w'
        go_simp
        with_reducible rfl
      rotate_left
      · simp only [Act.put, List.setIfInBounds_toArray, List.set_cons_zero, List.set_cons_succ, i64_w, i32_w]
        rfl
      refine pure_ (i := 6) (N := some 68) (v := ?_) (a' := ?_) #[true, true, true, false, true, false, true, false, false, false, false, false, false, false, false, false, false, false, false, false] rfl rfl (by kernel_rfl) (fun _ _ _ h => h) (Or.inl ⟨by rfl, ?_⟩) ?_ ?_
      rotate_left
      · intro w'
        go_simp
        with_reducible rfl
      rotate_left
      · simp only [Act.put, List.setIfInBounds_toArray, List.set_cons_zero, List.set_cons_succ, i64_w, i32_w]
        rfl
      refine pure_ (i := 7) (N := some 69) (v := ?_) (a' := ?_) #[true, true, true, false, true, false, true, true, false, false, false, false, false, false, false, false, false, false, false, false] rfl rfl (by kernel_rfl) (fun _ _ _ h => h) (Or.inl ⟨by rfl, ?_⟩) ?_ ?_
      rotate_left
      · intro w'
        go_simp
        with_reducible rfl
      rotate_left
      · simp only [Act.put, List.setIfInBounds_toArray, List.set_cons_zero, List.set_cons_succ, i64_w, i32_w]
        rfl
      refine pure_ (i := 8) (N := some 70) (v := ?_) (a' := ?_) #[true, true, true, false, true, false, true, true, true, false, false, false, false, false, false, false, false, false, false, false] rfl rfl (by kernel_rfl) (fun _ _ _ h => h) (Or.inl ⟨by rfl, ?_⟩) ?_ ?_
      rotate_left
      · intro w'
        go_simp
        with_reducible rfl
      rotate_left
      · simp only [Act.put, List.setIfInBounds_toArray, List.set_cons_zero, List.set_cons_succ, i64_w, i32_w]
        rfl
      refine pure_ (i := 10) (N := some 72) (v := ?_) (a' := ?_) #[true, true, true, false, true, false, true, true, true, false, true, false, false, false, false, false, false, false, false, false] rfl rfl (by kernel_rfl) (fun _ _ _ h => h) (Or.inl ⟨by rfl, ?_⟩) ?_ ?_
      rotate_left
      · intro w'
        go_simp
        with_reducible rfl
      rotate_left
      · simp only [Act.put, List.setIfInBounds_toArray, List.set_cons_zero, List.set_cons_succ, i64_w, i32_w]
        rfl
      refine pure_ (i := 15) (N := some 77) (v := ?_) (a' := ?_) #[true, true, true, false, true, false, true, true, true, false, true, false, false, false, false, true, false, false, false, false] rfl rfl (by kernel_rfl) (fun _ _ _ h => h) (Or.inl ⟨by rfl, ?_⟩) ?_ ?_
      rotate_left
      · intro w'
        go_simp
        with_reducible rfl
      rotate_left
      · simp only [Act.put, List.setIfInBounds_toArray, List.set_cons_zero, List.set_cons_succ, i64_w, i32_w]
        rfl
      refine take_ (i := 3) (N := some 65) (v := ?_) (a' := ?_) #[true, true, true, true, true, false, true, true, true, false, true, false, false, false, false, true, false, false, false, false] rfl rfl (by kernel_rfl) (fun _ _ _ h => h) (Or.inl ⟨by rfl, ?_⟩) hHeld ?_ ?_
      rotate_left
      · rintro w' ⟨s0, s1, s2⟩
        go_simp
        with_reducible rfl
      rotate_left
      · simp only [Act.put, List.setIfInBounds_toArray, List.set_cons_zero, List.set_cons_succ, i64_w, i32_w]
        rfl
      refine take_ (i := 5) (N := some 67) (v := ?_) (a' := ?_) #[true, true, true, true, true, true, true, true, true, false, true, false, false, false, false, true, false, false, false, false] rfl rfl (by kernel_rfl) (fun _ _ _ h => h) (Or.inl ⟨by rfl, ?_⟩) hHeld ?_ ?_
      rotate_left
      · rintro w' ⟨s0, s1, s2⟩
        go_simp
        with_reducible rfl
      rotate_left
      · simp only [Act.put, List.setIfInBounds_toArray, List.set_cons_zero, List.set_cons_succ, i64_w, i32_w]
        rfl
      refine take_ (i := 9) (N := some 71) (v := ?_) (a' := ?_) #[true, true, true, true, true, true, true, true, true, true, true, false, false, false, false, true, false, false, false, false] rfl rfl (by kernel_rfl) (fun _ _ _ h => h) (Or.inl ⟨by rfl, ?_⟩) hHeld ?_ ?_
      rotate_left
      · rintro w' ⟨s0, s1, s2⟩
        go_simp
        with_reducible rfl
      rotate_left
      · simp only [Act.put, List.setIfInBounds_toArray, List.set_cons_zero, List.set_cons_succ, i64_w, i32_w]
        rfl
      refine take_ (i := 11) (N := some 73) (v := ?_) (a' := ?_) #[true, true, true, true, true, true, true, true, true, true, true, true, false, false, false, true, false, false, false, false] rfl rfl (by kernel_rfl) (fun _ _ _ h => h) (Or.inl ⟨by rfl, ?_⟩) hHeld ?_ ?_
      rotate_left
      · rintro w' ⟨s0, s1, s2⟩
        go_simp
        with_reducible rfl
      rotate_left
      · simp only [Act.put, List.setIfInBounds_toArray, List.set_cons_zero, List.set_cons_succ, i64_w, i32_w]
        rfl
      refine pure_ (i := 12) (N := some 74) (v := ?_) (a' := ?_) #[true, true, true, true, true, true, true, true, true, true, true, true, true, false, false, true, false, false, false, false] rfl rfl (by kernel_rfl) (fun _ _ _ h => h) (Or.inl ⟨by rfl, ?_⟩) ?_ ?_
      rotate_left
      · intro w'
        go_simp
        with_reducible rfl
      rotate_left
      · simp only [Act.put, List.setIfInBounds_toArray, List.set_cons_zero, List.set_cons_succ, i64_w, i32_w]
        rfl
      refine pure_ (i := 13) (N := some 75) (v := ?_) (a' := ?_) #[true, true, true, true, true, true, true, true, true, true, true, true, true, true, false, true, false, false, false, false] rfl rfl (by kernel_rfl) (fun _ _ _ h => h) (Or.inl ⟨by rfl, ?_⟩) ?_ ?_
      rotate_left
      · intro w'
        go_simp
        with_reducible rfl
      rotate_left
      · simp only [Act.put, List.setIfInBounds_toArray, List.set_cons_zero, List.set_cons_succ, i64_w, i32_w]
        rfl
      refine take_ (i := 14) (N := some 76) (v := ?_) (a' := ?_) #[true, true, true, true, true, true, true, true, true, true, true, true, true, true, true, true, false, false, false, false] rfl rfl (by kernel_rfl) (fun _ _ _ h => h) (Or.inl ⟨by rfl, ?_⟩) hHeld ?_ ?_
      rotate_left
      · rintro w' ⟨s0, s1, s2⟩
        go_simp
        with_reducible rfl
      rotate_left
      · simp only [Act.put, List.setIfInBounds_toArray, List.set_cons_zero, List.set_cons_succ, i64_w, i32_w]
        rfl
      refine one_ (i := 16) (N := some 78) #[true, true, true, true, true, true, true, true, true, true, true, true, true, true, true, true, true, false, false, false] rfl rfl (by kernel_rfl) (by decide) (fun K hK => ?_)
      refine step_append_run (by rfl) (.tmp 76) (.tmp 77) 28 rfl _ _ rfl rfl HR10.out ?_
      refine hK.out _ _ ⟨(blk_cell HE10.out 0).trans rfl, HL10.out, hc10⟩ (fun hHeld => ?_)
      clear hK K
      refine norm_ (a' := ?_) ?_ ?_
      rotate_left
      · show Act.put _ (some 78) _ = _
        simp only [Act.put, List.setIfInBounds_toArray, List.set_cons_zero, List.set_cons_succ, i64_w, i32_w]
        rfl
      refine pure_ (i := 17) (N := some 79) (v := ?_) (a' := ?_) #[true, true, true, true, true, true, true, true, true, true, true, true, true, true, true, true, true, true, false, false] rfl rfl (by kernel_rfl) (fun _ _ _ h => h) (Or.inl ⟨by rfl, ?_⟩) ?_ ?_
      rotate_left
      · intro w'
        go_simp
        with_reducible rfl
      rotate_left
      · simp only [Act.put, List.setIfInBounds_toArray, List.set_cons_zero, List.set_cons_succ, i64_w, i32_w]
        rfl
      refine pure_ (i := 18) (N := some 80) (v := ?_) (a' := ?_) #[true, true, true, true, true, true, true, true, true, true, true, true, true, true, true, true, true, true, true, false] rfl rfl (by kernel_rfl) (fun _ _ _ h => h) (Or.inl ⟨by rfl, ?_⟩) ?_ ?_
      rotate_left
      · intro w'
        go_simp
        with_reducible rfl
      rotate_left
      · simp only [Act.put, List.setIfInBounds_toArray, List.set_cons_zero, List.set_cons_succ, i64_w, i32_w]
        rfl
      refine last_ (i := 19) (N := none) #[true, true, true, true, true, true, true, true, true, true, true, true, true, true, true, true, true, true, true, true] rfl rfl (by kernel_rfl) (by decide) (fun K hK => ?_)
      refine skip_ (w1 := ?_) (by rfl) rfl ?_ ?_
      rotate_left
      · go_simp
        rfl
      refine hK.out _ _ ?_
      clear hK K
      refine done_ (by kernel_rfl) ?_

      go_wp2_with fail
      go_ret
      refine ⟨rfl, .slice A10 vs.length c10, ⟨?_, fun k hk => ?_⟩, (below_drew HB9.out).trans ((off_below HO10.out (by have := HB9.out.size; have := HBW.out; show base ≤ w8.heap.size; omega) (fun k hk => HGE.out k hk))), off_trans2 (Off.of_below HB8.out).drew HO10.out (fun k hk h => h), fun k hk => (HG10.out k hk).elim .inl (fun h => .inr (Nat.le_trans HB8.out.size h))⟩
      · simpa using H10.out
      · rcases HG10.out k hk with h | h
        · exact HGE.out k h
        · exact Nat.le_trans (Nat.le_trans HBW.out HB9.out.size) h
end
section
open Go.RowKit Go.Proofs.YtdobblddnfalcaaDoorW.PrintWords Go.Proofs.YtdobblddnfalcaaDoorW.PrintLast Go.Proofs.YtdobblddnfalcaaDoorW.PrintMore Go.Proofs.YtdobblddnfalcaaDoor.off Go.Proofs.YtdobblddnfalcaaDoor.mapq Go.Proofs.YtdobblddnfalcaaDoor.PFnCapsWritten
set_option linter.unusedVariables false
set_option linter.unusedSimpArgs false
set_option maxHeartbeats 2000000
set_option maxRecDepth 100000
/-- What a list is when one of it, or a new one, has other values. -/
def SetTo (q : List (ByteArray × List ByteArray)) (n : ByteArray) (vs : List ByteArray) (q' : List (ByteArray × List ByteArray)) : Prop :=
  (∃ A old B, q = A ++ (n, old) :: B ∧ q' = A ++ (n, vs) :: B) ∨ (n ∉ q.map Prod.fst ∧ q' = q ++ [(n, vs)])
theorem find_some {rows : List Row} {s : ByteArray} {ge : Nat} (h : find rows s = some ge) : ∃ a r b, rows = a ++ r :: b ∧ r.name = s ∧ r.ge = ge := by
  induction rows with
  | nil => cases h
  | cons q t ih =>
    unfold find at h
    rw [List.find?_cons] at h
    cases hq : (q.name.data.toList == s.data.toList) with
    | true =>
      rw [hq] at h
      injection h with h
      exact ⟨[], q, t, rfl, name_eq.1 hq, h⟩
    | false =>
      rw [hq] at h
      obtain ⟨a, r, b, e1, e2, e3⟩ := ih h
      exact ⟨q :: a, r, b, by rw [e1]; rfl, e2, e3⟩
theorem find_not {rows : List Row} {s : ByteArray} (h : find rows s = none) : s ∉ rows.map (·.name) := by
  intro hs
  obtain ⟨r, hr, e⟩ := List.mem_map.1 hs
  unfold find at h
  rw [Option.map_eq_none_iff, List.find?_eq_none] at h
  exact h r hr (name_eq.2 e)
theorem set_any (base : Nat) (w : World) (gl gm : Nat) (sv : Value) (rows : List Row) (h : CapL base w gl gm sv rows) (hnd : (rows.map (·.name)).Nodup) (hbw : base ≤ w.heap.size) (name : ByteArray) (A : Option Addr) (c : Nat) (vs : List ByteArray) (ok : ArgsOk name vs) (hsrc : Src w A vs.length (strs vs)) (hA : ∀ ad, A = some ad → ad.block ∉ bl gl gm sv rows) (hn : rows.length ≤ 1000) :
    Calls Tryd.prog 20 #[.pointer (some ⟨gl, 0, none⟩), .string name, .slice A vs.length c] w fun e w' => e = .returned .nilIface ∧ ∃ sv' rows', CapL base w' gl gm sv' rows' ∧ SetTo (sig rows) name vs (sig rows') ∧ Below base w w' := by
  have hsz : name.size ≤ maxLen := Nat.le_trans ok.size (by decide)
  have q0 := (blk_cell h.s.list 0).trans (show _ = some (Value.map (some gm)) from rfl)
  have hr := h.s.map.look Tryd.underlying50 Tryd.underlying62 (zeroPtr w) name hsz
  cases hf : find rows name with
  | none =>
    rw [hf] at hr
    have hr' : (Instr.lookup 62 (.map (some gm)) (.string name) true).run Tryd.prog w = .ok (.tuple #[.pointer none, .bool false]) w := hr
    have HADD := Aside0.mk (add_new base w gl gm sv rows h hbw name A c vs ok hsrc hA hf hn)
    have HN := Aside0.mk (find_not hf)
    clear h hnd hbw ok hsrc hA hr hf
    go_enter Tryd.func20, Tryd.ntmps20
    go_wp2_with fail
    refine HADD.out.mono ?_
    rintro e w1 ⟨rfl, sv1, ge1, v1, h1, hb, _, _⟩
    have H1 := Aside0.mk h1
    have HB1 := Aside0.mk hb
    clear h1 hb
    go_wp2_with fail
    go_ret
    refine ⟨rfl, sv1, _, H1.out, .inr ⟨?_, by unfold sig; rw [List.map_append]; rfl⟩, HB1.out⟩
    unfold sig
    rw [List.map_map]
    exact HN.out
  | some ge =>
    rw [hf] at hr
    have hr' : (Instr.lookup 62 (.map (some gm)) (.string name) true).run Tryd.prog w = .ok (.tuple #[.pointer (some ⟨ge, 0, none⟩), .bool true]) w := hr
    have hlk : (Instr.lookup 62 (.map (some gm)) (.string name) false).run Tryd.prog w.drew = .ok (.pointer (some ⟨ge, 0, none⟩)) w.drew := by
      have := (h.s.map.keep (w' := w.drew) rfl).look1 Tryd.underlying50 Tryd.underlying62 (zeroPtr w.drew) name hsz
      rw [hf] at this
      exact this
    obtain ⟨a, r, b, hrows, rfl, rfl⟩ := find_some hf
    subst hrows
    have hrr : r ∈ a ++ r :: b := List.mem_append_right _ List.mem_cons_self
    have hRA := h.s.row _ hrr
    obtain ⟨name, ge, rv, rvs⟩ := r
    obtain ⟨Ar, cr, hrv, _⟩ := Slc_shape hRA.slc
    rw [strs_len] at hrv
    simp only at hrv
    subst hrv
    simp only at hr hr' hlk hsz ok
    have q1 := (blk_cell hRA.cells 1).trans (show _ = some (Value.slice Ar rvs.length cr) from rfl)
    have f1 := blk_frozen hRA.cells 1
    obtain ⟨hp, hbl⟩ := capS_put h.s (.slice Ar 0 cr) [] (cut_zero (h.s.row _ hrr).slc) (by cases Ar <;> rfl)
    simp only at hp hbl
    have hgb : base ≤ ge := h.ge ge (List.mem_cons_of_mem _ (List.mem_cons_of_mem _ (List.mem_append_right _ (mem_rows hrr List.mem_cons_self))))
    have hb2 : Below base w (w.setCell ⟨ge, 1, none⟩ (.slice Ar 0 cr)).drew := below_drew ((Below.refl _ _).setCell hgb _)
    have hp' : CapS (w.setCell ⟨ge, 1, none⟩ (.slice Ar 0 cr)) gl gm sv ((a ++ ⟨name, ge, .slice Ar 0 cr, []⟩ :: b).map (·.name)) (a ++ ⟨name, ge, .slice Ar 0 cr, []⟩ :: b) := by simpa using hp
    have hgl2 : CapL base (w.setCell ⟨ge, 1, none⟩ (.slice Ar 0 cr)).drew gl gm sv (a ++ ⟨name, ge, .slice Ar 0 cr, []⟩ :: b) := ⟨hp'.keep (Nat.le_refl _) (fun _ _ => rfl), by rw [hbl]; exact h.ge⟩
    have hsrc2 : Src (w.setCell ⟨ge, 1, none⟩ (.slice Ar 0 cr)).drew A vs.length (strs vs) := ⟨hsrc.len, fun j u hj => by
      obtain ⟨ad, e1, e2⟩ := hsrc.rd j u hj
      refine ⟨ad, e1, ?_⟩
      rw [← e2]
      have hbk : (ad.add j).block = ad.block := by unfold Addr.add; split <;> rfl
      refine World.cell?_of_block ?_
      rw [hbk]
      refine Below.heap_setCell w ⟨ge, 1, none⟩ _ ad.block (fun e => hA ad e1 ?_)
      rw [e]
      exact List.mem_cons_of_mem _ (List.mem_cons_of_mem _ (List.mem_append_right _ (mem_rows hrr List.mem_cons_self))), hsrc.one⟩
    have HADD := Aside0.mk (add_old base _ gl gm sv a b ⟨name, ge, .slice Ar 0 cr, []⟩ hgl2 (by simpa using hnd) (by have := hb2.size; omega) A c vs ok hsrc2 (by rw [hbl]; exact hA) (fun _ => rfl) (by simp))
    have HB2 := Aside0.mk hb2
    have HLK := Aside0.mk hlk
    have v1 : (0 : Int) ≤ (rvs.length : Int) := by omega
    clear h hnd hbw ok hsrc hA hr hf hrr hRA hp hp' hbl hgb hb2 hgl2 hsrc2 hlk
    go_enter Tryd.func20, Tryd.ntmps20
    go_wp2_with fail
    refine start_ (n := 19) (S := fun w' => w'.cell? ⟨gl, 0, none⟩ = some (.map (some gm)) ∧ (Instr.lookup 62 (.map (some gm)) (.string name) false).run Tryd.prog w' = .ok (.pointer (some ⟨ge, 0, none⟩)) w' ∧ w'.cell? ⟨ge, 1, none⟩ = some (.slice Ar rvs.length cr)) (ds := [18]) #[false, false, false, false, false, false, false, false, false, false, false, false, false, false, false, false, false, false, false] (by kernel_rfl) rfl rfl ⟨q0, HLK.out, q1⟩ (fun hHeld => ?_)
    refine pure_ (i := 0) (N := some 19) (v := ?_) (a' := ?_) #[true, false, false, false, false, false, false, false, false, false, false, false, false, false, false, false, false, false, false] rfl rfl (by kernel_rfl) (fun _ _ _ h => h) (Or.inl ⟨by rfl, ?_⟩) ?_ ?_
    rotate_left
    · intro w'
      go_simp
      with_reducible rfl
    rotate_left
    · simp only [Act.put, List.setIfInBounds_toArray, List.set_cons_zero, List.set_cons_succ, i64_w, i32_w]
      rfl
    refine pure_ (i := 1) (N := some 20) (v := ?_) (a' := ?_) #[true, true, false, false, false, false, false, false, false, false, false, false, false, false, false, false, false, false, false] rfl rfl (by kernel_rfl) (fun _ _ _ h => h) (Or.inl ⟨by rfl, ?_⟩) ?_ ?_
    rotate_left
    · intro w'
      go_simp
      with_reducible rfl
    rotate_left
    · simp only [Act.put, List.setIfInBounds_toArray, List.set_cons_zero, List.set_cons_succ, i64_w, i32_w]
      rfl
    refine pure_ (i := 2) (N := some 21) (v := ?_) (a' := ?_) #[true, true, true, false, false, false, false, false, false, false, false, false, false, false, false, false, false, false, false] rfl rfl (by kernel_rfl) (fun _ _ _ h => h) (Or.inl ⟨by rfl, ?_⟩) ?_ ?_
    rotate_left
    · intro w'
      go_simp
      with_reducible rfl
    rotate_left
    · simp only [Act.put, List.setIfInBounds_toArray, List.set_cons_zero, List.set_cons_succ, i64_w, i32_w]
      rfl
    refine pure_ (i := 4) (N := some 23) (v := ?_) (a' := ?_) #[true, true, true, false, true, false, false, false, false, false, false, false, false, false, false, false, false, false, false] rfl rfl (by kernel_rfl) (fun _ _ _ h => h) (Or.inl ⟨by rfl, ?_⟩) ?_ ?_
    rotate_left
    · intro w'
      go_simp
      with_reducible rfl
    rotate_left
    · simp only [Act.put, List.setIfInBounds_toArray, List.set_cons_zero, List.set_cons_succ, i64_w, i32_w]
      rfl
    refine pure_ (i := 6) (N := some 25) (v := ?_) (a' := ?_) #[true, true, true, false, true, false, true, false, false, false, false, false, false, false, false, false, false, false, false] rfl rfl (by kernel_rfl) (fun _ _ _ h => h) (Or.inl ⟨by rfl, ?_⟩) ?_ ?_
    rotate_left
    · intro w'
      go_simp
      with_reducible rfl
    rotate_left
    · simp only [Act.put, List.setIfInBounds_toArray, List.set_cons_zero, List.set_cons_succ, i64_w, i32_w]
      rfl
    refine pure_ (i := 7) (N := some 26) (v := ?_) (a' := ?_) #[true, true, true, false, true, false, true, true, false, false, false, false, false, false, false, false, false, false, false] rfl rfl (by kernel_rfl) (fun _ _ _ h => h) (Or.inl ⟨by rfl, ?_⟩) ?_ ?_
    rotate_left
    · intro w'
      go_simp
      with_reducible rfl
    rotate_left
    · simp only [Act.put, List.setIfInBounds_toArray, List.set_cons_zero, List.set_cons_succ, i64_w, i32_w]
      rfl
    refine pure_ (i := 8) (N := some 27) (v := ?_) (a' := ?_) #[true, true, true, false, true, false, true, true, true, false, false, false, false, false, false, false, false, false, false] rfl rfl (by kernel_rfl) (fun _ _ _ h => h) (Or.inl ⟨by rfl, ?_⟩) ?_ ?_
    rotate_left
    · intro w'
      go_simp
      with_reducible rfl
    rotate_left
    · simp only [Act.put, List.setIfInBounds_toArray, List.set_cons_zero, List.set_cons_succ, i64_w, i32_w]
      rfl
    refine pure_ (i := 10) (N := some 29) (v := ?_) (a' := ?_) #[true, true, true, false, true, false, true, true, true, false, true, false, false, false, false, false, false, false, false] rfl rfl (by kernel_rfl) (fun _ _ _ h => h) (Or.inl ⟨by rfl, ?_⟩) ?_ ?_
    rotate_left
    · intro w'
      go_simp
      with_reducible rfl
    rotate_left
    · simp only [Act.put, List.setIfInBounds_toArray, List.set_cons_zero, List.set_cons_succ, i64_w, i32_w]
      rfl
    refine take_ (i := 3) (N := some 22) (v := ?_) (a' := ?_) #[true, true, true, true, true, false, true, true, true, false, true, false, false, false, false, false, false, false, false] rfl rfl (by kernel_rfl) (fun _ _ _ h => h) (Or.inl ⟨by rfl, ?_⟩) hHeld ?_ ?_
    rotate_left
    · rintro w' ⟨s0, s1, s2⟩
      go_simp
      with_reducible rfl
    rotate_left
    · simp only [Act.put, List.setIfInBounds_toArray, List.set_cons_zero, List.set_cons_succ, i64_w, i32_w]
      rfl
    refine take_ (i := 5) (N := some 24) (v := ?_) (a' := ?_) #[true, true, true, true, true, true, true, true, true, false, true, false, false, false, false, false, false, false, false] rfl rfl (by kernel_rfl) (fun _ _ _ h => h) (Or.inl ⟨by rfl, ?_⟩) hHeld ?_ ?_
    rotate_left
    · rintro w' ⟨s0, s1, s2⟩
      go_simp
      with_reducible rfl
    rotate_left
    · simp only [Act.put, List.setIfInBounds_toArray, List.set_cons_zero, List.set_cons_succ, i64_w, i32_w]
      rfl
    refine take_ (i := 9) (N := some 28) (v := ?_) (a' := ?_) #[true, true, true, true, true, true, true, true, true, true, true, false, false, false, false, false, false, false, false] rfl rfl (by kernel_rfl) (fun _ _ _ h => h) (Or.inl ⟨by rfl, ?_⟩) hHeld ?_ ?_
    rotate_left
    · rintro w' ⟨s0, s1, s2⟩
      go_simp
      with_reducible rfl
    rotate_left
    · simp only [Act.put, List.setIfInBounds_toArray, List.set_cons_zero, List.set_cons_succ, i64_w, i32_w]
      rfl
    refine take_ (i := 11) (N := some 30) (v := ?_) (a' := ?_) #[true, true, true, true, true, true, true, true, true, true, true, true, false, false, false, false, false, false, false] rfl rfl (by kernel_rfl) (fun _ _ _ h => h) (Or.inl ⟨by rfl, ?_⟩) hHeld ?_ ?_
    rotate_left
    · rintro w' ⟨s0, s1, s2⟩
      go_simp
      with_reducible rfl
    rotate_left
    · simp only [Act.put, List.setIfInBounds_toArray, List.set_cons_zero, List.set_cons_succ, i64_w, i32_w]
      rfl
    refine pure_ (i := 12) (N := some 31) (v := ?_) (a' := ?_) #[true, true, true, true, true, true, true, true, true, true, true, true, true, false, false, false, false, false, false] rfl rfl (by kernel_rfl) (fun _ _ _ h => h) (Or.inl ⟨by rfl, ?_⟩) ?_ ?_
    rotate_left
    · intro w'
      go_simp
      with_reducible rfl
    rotate_left
    · simp only [Act.put, List.setIfInBounds_toArray, List.set_cons_zero, List.set_cons_succ, i64_w, i32_w]
      rfl
    refine pure_ (i := 13) (N := some 32) (v := ?_) (a' := ?_) #[true, true, true, true, true, true, true, true, true, true, true, true, true, true, false, false, false, false, false] rfl rfl (by kernel_rfl) (fun _ _ _ h => h) (Or.inl ⟨by rfl, ?_⟩) ?_ ?_
    rotate_left
    · intro w'
      go_simp
      with_reducible rfl
    rotate_left
    · simp only [Act.put, List.setIfInBounds_toArray, List.set_cons_zero, List.set_cons_succ, i64_w, i32_w]
      rfl
    refine take_ (i := 14) (N := some 33) (v := ?_) (a' := ?_) #[true, true, true, true, true, true, true, true, true, true, true, true, true, true, true, false, false, false, false] rfl rfl (by kernel_rfl) (fun _ _ _ h => h) (Or.inl ⟨by rfl, ?_⟩) hHeld ?_ ?_
    rotate_left
    · rintro w' ⟨s0, s1, s2⟩
      go_simp
      with_reducible rfl
    rotate_left
    · simp only [Act.put, List.setIfInBounds_toArray, List.set_cons_zero, List.set_cons_succ, i64_w, i32_w]
      rfl
    refine pure_ (i := 15) (N := some 34) (v := ?_) (a' := ?_) #[true, true, true, true, true, true, true, true, true, true, true, true, true, true, true, true, false, false, false] rfl rfl (by kernel_rfl) (fun _ _ _ h => h) (Or.inl ⟨by rfl, ?_⟩) ?_ ?_
    rotate_left
    · intro w'
      go_simp
      with_reducible rfl
    rotate_left
    · simp only [Act.put, List.setIfInBounds_toArray, List.set_cons_zero, List.set_cons_succ, i64_w, i32_w]
      rfl
    refine pure_ (i := 16) (N := some 35) (v := ?_) (a' := ?_) #[true, true, true, true, true, true, true, true, true, true, true, true, true, true, true, true, true, false, false] rfl rfl (by kernel_rfl) (fun _ _ _ h => h) (Or.inl ⟨by rfl, ?_⟩) ?_ ?_
    rotate_left
    · intro w'
      go_simp
      with_reducible rfl
    rotate_left
    · simp only [Act.put, List.setIfInBounds_toArray, List.set_cons_zero, List.set_cons_succ, i64_w, i32_w]
      rfl
    refine pure_ (i := 17) (N := some 36) (v := ?_) (a' := ?_) #[true, true, true, true, true, true, true, true, true, true, true, true, true, true, true, true, true, true, false] rfl rfl (by kernel_rfl) (fun _ _ _ h => h) (Or.inl ⟨by rfl, ?_⟩) ?_ ?_
    rotate_left
    · intro w'
      go_simp
      with_reducible rfl
    rotate_left
    · simp only [Act.put, List.setIfInBounds_toArray, List.set_cons_zero, List.set_cons_succ, i64_w, i32_w]
      rfl
    refine last_ (i := 18) (N := none) #[true, true, true, true, true, true, true, true, true, true, true, true, true, true, true, true, true, true, true] rfl rfl (by kernel_rfl) (by decide) (fun K hK => ?_)
    refine skip_ (w1 := ?_) (by rfl) rfl ?_ ?_
    rotate_left
    · go_simp
      rfl
    refine hK.out _ _ ?_
    clear hK K
    refine done_ (by kernel_rfl) ?_

    go_wp2_with fail
    refine HADD.out.mono ?_
    rintro e w1 ⟨rfl, v1, h1, hb, _, _⟩
    have H1 := Aside0.mk h1
    have HB1 := Aside0.mk (HB2.out.trans hb)
    clear h1 hb
    go_wp2_with fail
    go_ret
    refine ⟨rfl, sv, _, H1.out, .inl ⟨sig a, rvs, sig b, ?_, ?_⟩, HB1.out⟩
    · unfold sig; rw [List.map_append]; rfl
    · unfold sig; rw [List.map_append]; rfl
end
section
open Go.RowKit Go.Proofs.YtdobblddnfalcaaDoorW.PrintWords Go.Proofs.YtdobblddnfalcaaDoorW.PrintLast Go.Proofs.YtdobblddnfalcaaDoorW.PrintMore Go.Proofs.YtdobblddnfalcaaDoor.off Go.Proofs.YtdobblddnfalcaaDoor.mapq Go.Proofs.YtdobblddnfalcaaDoor.PFnCapsWritten
set_option linter.unusedVariables false
set_option linter.unusedSimpArgs false
set_option maxHeartbeats 2000000
set_option maxRecDepth 100000
def itemsQ (q : List (ByteArray × List ByteArray)) : List ByteArray := q.flatMap fun p => items p.1 p.2
theorem sig_itemsQ (rows : List Row) : itemsOf rows = itemsQ (sig rows) := by
  unfold itemsOf sig itemsQ
  rw [List.flatMap_map]
/-- Good capabilities, told by names and values; no two of one name. -/
structure GoodQ (q : List (ByteArray × List ByteArray)) : Prop where
  good : ∀ p ∈ q, Good p.1 p.2
  nd : (q.map Prod.fst).Nodup
  most : q.length ≤ 61
theorem Goods.q {l : List S30} (h : Goods l) : GoodQ (pairs l) := ⟨fun p hp => by
  obtain ⟨x, hx, rfl⟩ := List.mem_map.1 hp
  exact h.good x hx, by
  unfold pairs
  rw [List.map_map]
  exact h.nd, by unfold pairs; rw [List.length_map]; have := h.most; omega⟩
theorem SetTo.good {l : List S30} {n : ByteArray} {vs : List ByteArray} {q' : List (ByteArray × List ByteArray)} (h : SetTo (pairs l) n vs q') (hl : Goods l) (hg : Good n vs) : GoodQ q' ∧ (n, vs) ∈ q' := by
  have hq := hl.q
  have hlen : (pairs l).length ≤ 60 := by unfold pairs; rw [List.length_map]; exact hl.most
  rcases h with ⟨A, old, B, e1, e2⟩ | ⟨h1, e2⟩
  · rw [e1] at hq hlen
    subst e2
    refine ⟨⟨fun p hp => ?_, ?_, ?_⟩, List.mem_append_right _ List.mem_cons_self⟩
    · rcases List.mem_append.1 hp with hp | hp
      · exact hq.good p (List.mem_append_left _ hp)
      rcases List.mem_cons.1 hp with rfl | hp
      · exact hg
      · exact hq.good p (List.mem_append_right _ (List.mem_cons_of_mem _ hp))
    · have := hq.nd
      rw [List.map_append, List.map_cons] at this ⊢
      exact this
    · rw [List.length_append, List.length_cons] at hlen ⊢
      omega
  · subst e2
    refine ⟨⟨fun p hp => ?_, ?_, ?_⟩, List.mem_append_right _ (List.mem_singleton.2 rfl)⟩
    · rcases List.mem_append.1 hp with hp | hp
      · exact hq.good p hp
      · rw [List.mem_singleton.1 hp]; exact hg
    · rw [List.map_append]
      refine List.nodup_append.2 ⟨hq.nd, List.nodup_cons.2 ⟨List.not_mem_nil, List.nodup_nil⟩, fun a ha b hb e => h1 ?_⟩
      rw [List.map_singleton, List.mem_singleton] at hb
      exact (show a = n from e.trans hb) ▸ ha
    · rw [List.length_append, List.length_singleton]
      omega
theorem GoodQ.rowOk {rows : List Row} (h : GoodQ (sig rows)) : ∀ r ∈ rows, RowOk r := by
  intro r hr
  have hg := h.good (r.name, r.vs) (List.mem_map.2 ⟨r, hr, rfl⟩)
  exact ⟨hg.args.size, fun s hs => by have := (hg.words s hs).most; omega, hg.args.most⟩
theorem GoodQ.names {rows : List Row} (h : GoodQ (sig rows)) : (rows.map (·.name)).Nodup := by
  have := h.nd
  unfold sig at this
  rw [List.map_map] at this
  exact this
theorem GoodQ.size {q : List (ByteArray × List ByteArray)} (h : GoodQ q) : ∀ s ∈ itemsQ q, s.size ≤ 3000 := by
  intro s hs
  obtain ⟨p, hp, hs⟩ := List.mem_flatMap.1 hs
  have hg := h.good p hp
  exact items_size hg.args.size (fun s hs => by have := (hg.words s hs).most; omega) s hs
theorem itemsQ_len : ∀ (q : List (ByteArray × List ByteArray)), (∀ p ∈ q, Good p.1 p.2) → (itemsQ q).length ≤ q.length * 1000
  | [], _ => by simp [itemsQ]
  | r :: t, h => by
    have h1 := itemsQ_len t (fun q hq => h q (List.mem_cons_of_mem _ hq))
    have h2 := items_len r.1 r.2 (h r List.mem_cons_self).args.most
    unfold itemsQ at h1 ⊢
    rw [List.flatMap_cons, List.length_append, List.length_cons]
    omega
theorem setCap_any (w : World) (A : Option Addr) (cc : Nat) (l : List S30) (hC : Kd.C k30 w A l.length l) (hg : Goods l) (nm : ByteArray) (A2 : Option Addr) (c2 : Nat) (vs : List ByteArray) (hsrc : Src w A2 vs.length (strs vs)) (hgd : Good nm vs) :
    Calls Tryd.prog 11 #[.slice A l.length cc, .agg #[.string nm, .slice A2 vs.length c2]] w fun e w' => ∃ q, e = .returned (.tuple #[.string (joinB (itemsQ q)), .bool true]) ∧ SetTo (pairs l) nm vs q ∧ Below w.heap.size w w' := by
  have HG := Aside0.mk hg
  have HL := Aside0.mk (fun W (hb : Below w.heap.size w W) => capList_any W A cc l (Kd.C_below hC hb) (fun x hx => (hg.good x hx).args) hg.nd (by have := hg.most; omega))
  have HSRC := Aside0.mk hsrc
  have HGD := Aside0.mk hgd
  clear hC hg hsrc hgd
  go_enter Tryd.func11, Tryd.ntmps11
  go_wp2_with (first | ((with_reducible refine gate_dst (N := 3) rfl ?_); refine box_event ?hg (N := 3) ?hd (cs := #[.string nm, .slice A2 vs.length c2]) (t := 30) ?hr ?_; (case hd => rfl); (case hg => rfl); (case hr => first | (go_simp; done) | (go_simp; rfl)); intro g3 hg3 wb hbox hb; have BX := Aside0.mk hbox; have HB1 := Aside0.mk (show Below w.heap.size w wb from hb); clear hbox hb hg3) | fail)
  refine (HL.out _ HB1.out).mono ?_
  rintro e w2 ⟨gl, gm, sv, rows, rfl, hL, hs, hb⟩
  have BX2 := Aside0.mk (blk_below BX.out hb)
  have HB2 := Aside0.mk (below_step HB1.out hb)
  have hwb : w.heap.size ≤ wb.heap.size := HB1.out.size
  have hL' : CapL w.heap.size w2 gl gm sv rows := ⟨hL.s, fun k hk => Nat.le_trans hwb (hL.ge k hk)⟩
  have HLL := Aside0.mk hL'
  have HSG := Aside0.mk hs
  clear hL hs hb hwb hL' HL BX HB1
  obtain ⟨A4, c4, w4, hr4, hs4, ho4, hb4⟩ := copy_strs (W := w2.drew) (c := c2) (Src.below (Src.below HSRC.out HB2.out) (below_drew (Below.refl _ _))) (by have := HGD.out.args.most; omega)
  have HR4 := Aside0.mk hr4
  have BF4 := Aside0.mk ((hb4.block g3 (blk_lt (blk_drew BX2.out))).trans (blk_drew BX2.out))
  have hb4' : Below w2.heap.size w2 w4 := (below_drew (Below.refl _ _)).trans hb4
  have HB4 := Aside0.mk (below_step HB2.out hb4')
  have HL4 := Aside0.mk (HLL.out.below hb4')
  have hmost := HG.out.most
  have hrl : rows.length ≤ 1000 := by rw [sig_len HSG.out]; omega
  have HSET := Aside0.mk (set_any w.heap.size w4 gl gm sv rows HL4.out (by rw [sig_names HSG.out]; exact HG.out.nd) HB4.out.size nm A4 c4 vs HGD.out.args hs4 (fun ad he hk => by
    have h1 : w2.heap.size ≤ ad.block := ho4 ad he
    have h2 := HLL.out.s.lt _ hk
    omega) hrl)
  clear hr4 hs4 ho4 hb4 hb4' hmost hrl
  go_wp2_with fail
  refine start_ (n := 13) (S := fun w' => w'.cell? ⟨g3, 0, none⟩ = some (.string nm) ∧ w'.cell? ⟨g3, 1, none⟩ = some (.slice A2 vs.length c2)) (ds := [10]) #[false, false, false, false, false, false, false, false, false, false, false, false, false] (by kernel_rfl) rfl rfl ⟨(blk_cell (blk_drew BX2.out) 0).trans rfl, (blk_cell (blk_drew BX2.out) 1).trans rfl⟩ (fun hHeld => ?_)
  refine pure_ (i := 0) (N := some 13) (v := ?_) (a' := ?_) #[true, false, false, false, false, false, false, false, false, false, false, false, false] rfl rfl (by kernel_rfl) (fun _ _ _ h => h) (Or.inl ⟨by rfl, ?_⟩) ?_ ?_
  rotate_left
  · intro w'
    go_simp
    with_reducible rfl
  rotate_left
  · simp only [Act.put, List.setIfInBounds_toArray, List.set_cons_zero, List.set_cons_succ, i64_w, i32_w]
    rfl
  refine pure_ (i := 1) (N := some 14) (v := ?_) (a' := ?_) #[true, true, false, false, false, false, false, false, false, false, false, false, false] rfl rfl (by kernel_rfl) (fun _ _ _ h => h) (Or.inl ⟨by rfl, ?_⟩) ?_ ?_
  rotate_left
  · intro w'
    go_simp
    with_reducible rfl
  rotate_left
  · simp only [Act.put, List.setIfInBounds_toArray, List.set_cons_zero, List.set_cons_succ, i64_w, i32_w]
    rfl
  refine pure_ (i := 2) (N := some 15) (v := ?_) (a' := ?_) #[true, true, true, false, false, false, false, false, false, false, false, false, false] rfl rfl (by kernel_rfl) (fun _ _ _ h => h) (Or.inl ⟨by rfl, ?_⟩) ?_ ?_
  rotate_left
  · intro w'
    go_simp
    with_reducible rfl
  rotate_left
  · simp only [Act.put, List.setIfInBounds_toArray, List.set_cons_zero, List.set_cons_succ, i64_w, i32_w]
    rfl
  refine pure_ (i := 3) (N := some 16) (v := ?_) (a' := ?_) #[true, true, true, true, false, false, false, false, false, false, false, false, false] rfl rfl (by kernel_rfl) (fun _ _ _ h => h) (Or.inl ⟨by rfl, ?_⟩) ?_ ?_
  rotate_left
  · intro w'
    go_simp
    with_reducible rfl
  rotate_left
  · simp only [Act.put, List.setIfInBounds_toArray, List.set_cons_zero, List.set_cons_succ, i64_w, i32_w]
    rfl
  refine pure_ (i := 4) (N := some 17) (v := ?_) (a' := ?_) #[true, true, true, true, true, false, false, false, false, false, false, false, false] rfl rfl (by kernel_rfl) (fun _ _ _ h => h) (Or.inl ⟨by rfl, ?_⟩) ?_ ?_
  rotate_left
  · intro w'
    go_simp
    with_reducible rfl
  rotate_left
  · simp only [Act.put, List.setIfInBounds_toArray, List.set_cons_zero, List.set_cons_succ, i64_w, i32_w]
    rfl
  refine pure_ (i := 7) (N := some 20) (v := ?_) (a' := ?_) #[true, true, true, true, true, false, false, true, false, false, false, false, false] rfl rfl (by kernel_rfl) (fun _ _ _ h => h) (Or.inl ⟨by rfl, ?_⟩) ?_ ?_
  rotate_left
  · intro w'
    go_simp
    with_reducible rfl
  rotate_left
  · simp only [Act.put, List.setIfInBounds_toArray, List.set_cons_zero, List.set_cons_succ, i64_w, i32_w]
    rfl
  refine take_ (i := 5) (N := some 18) (v := ?_) (a' := ?_) #[true, true, true, true, true, true, false, true, false, false, false, false, false] rfl rfl (by kernel_rfl) (fun _ _ _ h => h) (Or.inl ⟨by rfl, ?_⟩) hHeld ?_ ?_
  rotate_left
  · rintro w' ⟨s0, s1⟩
    go_simp
    with_reducible rfl
  rotate_left
  · simp only [Act.put, List.setIfInBounds_toArray, List.set_cons_zero, List.set_cons_succ, i64_w, i32_w]
    rfl
  refine take_ (i := 8) (N := some 21) (v := ?_) (a' := ?_) #[true, true, true, true, true, true, false, true, true, false, false, false, false] rfl rfl (by kernel_rfl) (fun _ _ _ h => h) (Or.inl ⟨by rfl, ?_⟩) hHeld ?_ ?_
  rotate_left
  · rintro w' ⟨s0, s1⟩
    go_simp
    with_reducible rfl
  rotate_left
  · simp only [Act.put, List.setIfInBounds_toArray, List.set_cons_zero, List.set_cons_succ, i64_w, i32_w]
    rfl
  refine one_ (i := 6) (N := some 19) #[true, true, true, true, true, true, true, true, true, false, false, false, false] rfl rfl (by kernel_rfl) (by decide) (fun K hK => ?_)
  refine value_ (w1 := ?_) (v := ?_) (by rfl) rfl ?_ ?_
  rotate_left 2
  · go_simp
    constructor
    · rfl
    · rfl
  refine hK.out _ _ ⟨(blk_cell (blk_alloc (blk_drew BX2.out) _) 0).trans rfl, (blk_cell (blk_alloc (blk_drew BX2.out) _) 1).trans rfl⟩ (fun hHeld => ?_)
  clear hK K
  refine norm_ (a' := ?_) ?_ ?_
  rotate_left
  · show Act.put _ (some 19) _ = _
    simp only [Act.put, List.setIfInBounds_toArray, List.set_cons_zero, List.set_cons_succ, i64_w, i32_w]
    rfl
  refine one_ (i := 9) (N := some 22) #[true, true, true, true, true, true, true, true, true, true, false, false, false] rfl rfl (by kernel_rfl) (by decide) (fun K hK => ?_)
  refine step_append_run (by rfl) (.tmp 19) (.tmp 21) 28 rfl _ _ rfl rfl HR4.out ?_
  refine hK.out _ _ ⟨(blk_cell BF4.out 0).trans rfl, (blk_cell BF4.out 1).trans rfl⟩ (fun hHeld => ?_)
  clear hK K
  refine norm_ (a' := ?_) ?_ ?_
  rotate_left
  · show Act.put _ (some 22) _ = _
    simp only [Act.put, List.setIfInBounds_toArray, List.set_cons_zero, List.set_cons_succ, i64_w, i32_w]
    rfl
  refine last_ (i := 10) (N := some 23) #[true, true, true, true, true, true, true, true, true, true, true, false, false] rfl rfl (by kernel_rfl) (by decide) (fun K hK => ?_)
  refine goes_ Tryd.func20 (by kernel_rfl) rfl #[.pointer (some ⟨gl, 0, none⟩), .string nm, .slice A4 vs.length c4] (by rfl) rfl rfl (by simp only [List.map_toArray, List.map_cons, List.map_nil]; rfl) ?_
  with_reducible refine (HSET.out).mono ?_
  rintro e w5 ⟨rfl, sv5, rows5, hl5, ht5, hb5⟩
  refine ⟨_, rfl, ?_⟩
  refine hK.out _ _ ?_
  clear hK K
  refine norm_ (a' := ?_) ?_ ?_
  rotate_left
  · show Act.put _ (some 23) _ = _
    simp only [Act.put, List.setIfInBounds_toArray, List.set_cons_zero, List.set_cons_succ, i64_w, i32_w]
    rfl
  refine pure_ (i := 11) (N := some 24) (v := ?_) (a' := ?_) #[true, true, true, true, true, true, true, true, true, true, true, true, false] rfl rfl (by kernel_rfl) (fun _ _ _ h => h) (Or.inl ⟨by rfl, ?_⟩) ?_ ?_
  rotate_left
  · intro w'
    go_simp
    with_reducible rfl
  rotate_left
  · simp only [Act.put, List.setIfInBounds_toArray, List.set_cons_zero, List.set_cons_succ, i64_w, i32_w]
    rfl
  refine pure_ (i := 12) (N := some 25) (v := ?_) (a' := ?_) #[true, true, true, true, true, true, true, true, true, true, true, true, true] rfl rfl (by kernel_rfl) (fun _ _ _ h => h) (Or.inl ⟨by rfl, ?_⟩) ?_ ?_
  rotate_left
  · intro w'
    go_simp
    with_reducible rfl
  rotate_left
  · simp only [Act.put, List.setIfInBounds_toArray, List.set_cons_zero, List.set_cons_succ, i64_w, i32_w]
    rfl
  refine done_ (by kernel_rfl) ?_

  have HT := Aside0.mk (show SetTo (pairs l) nm vs (sig rows5) by rw [← HSG.out]; exact ht5)
  obtain ⟨hgq, _⟩ := HT.out.good HG.out HGD.out
  have HB5 := Aside0.mk (HB4.out.trans hb5)
  have hi := sig_itemsQ rows5
  have hm5 : rows5.length ≤ 61 := by have := hgq.most; unfold sig at this; rwa [List.length_map] at this
  have HS := Aside0.mk (listString_any w5 gl gm sv5 rows5 hl5.s hgq.names hgq.rowOk (by omega) (fun W A c hb h => by
    rw [hi] at h ⊢
    exact join_any _ hgq.size (Nat.le_trans (itemsQ_len _ hgq.good) (by unfold sig; rw [List.length_map]; omega)) W A c h))
  rw [hi] at HS
  clear hl5 ht5 hb5 hgq hi hm5 HSET HR4 hHeld
  go_wp2_with fail
  refine HS.out.mono ?_
  rintro e w6 ⟨rfl, hb⟩
  have HB6 := Aside0.mk (below_step HB5.out hb)
  clear hb
  go_wp2_with fail
  go_ret2
  exact ⟨_, rfl, HT.out, HB6.out⟩
end
end Go.Proofs.YtdobblddnfalcaaDoor.cap
