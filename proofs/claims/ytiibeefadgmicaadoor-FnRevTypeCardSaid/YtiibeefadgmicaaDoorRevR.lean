/- Revisions: Parse. -/
import Derived.Test.YtiibeefadgmicaaDoorRevO
import Derived.Test.YtiibeefadgmicaaDoorRevQ
namespace Go.Proofs.YtiibeefadgmicaaDoor.rev
open Go.RowKit Go.Proofs.YtiibeefadgmicaaDoorW.PrintWords Go.Proofs.YtiibeefadgmicaaDoorW.PrintLast Go.Proofs.YtiibeefadgmicaaDoorW.PrintMore Go.Proofs.YtiibeefadgmicaaDoor.PFnRevSteps
set_option linter.unusedVariables false
set_option linter.unusedSimpArgs false
set_option maxHeartbeats 2000000
set_option maxRecDepth 100000
/-- What a function of the parser does, called at a state. -/
def Does (f : FuncId) (p : Pa) (st : St) (x : Rev) (st' : St) : Prop := ∀ W, AtP W p st → Calls Tryd.prog f #[.pointer (some ⟨p.gp, 0, none⟩)] W fun e w' => e = .returned (.tuple #[rv x, .nilIface]) ∧ Off p.S W w' ∧ AtP w' p st'
def Fails (f : FuncId) (p : Pa) (st : St) : Prop := ∀ W, AtP W p st → Calls Tryd.prog f #[.pointer (some ⟨p.gp, 0, none⟩)] W fun e w' => (∃ τ u, e = .returned (.tuple #[.nilIface, .iface τ u])) ∧ Off p.S W w'
/-- The parts that are read from a state on; does it end well. -/
inductive Script (p : Pa) : St → List Rev → Bool → Prop where
  | done {st : St} : st.next.t = 0 → Script p st [] true
  | ref {st st' : St} {x : Rev} {l : List Rev} {b : Bool} : st.next.t = 19 ∨ st.next.t = 11 → Does 31 p st.step.back x st' → Script p st' l b → Script p st (x :: l) b
  | at_ {st st' : St} {x : Rev} {l : List Rev} {b : Bool} : st.next.t = 3 → Does 25 p st.step x st' → Script p st' l b → Script p st (x :: l) b
  | tilde {st st' : St} {x : Rev} {l : List Rev} {b : Bool} : st.next.t = 17 → Does 26 p st.step x st' → Script p st' l b → Script p st (x :: l) b
  | caret {st st' : St} {x : Rev} {l : List Rev} {b : Bool} : st.next.t = 4 → Does 27 p st.step x st' → Script p st' l b → Script p st (x :: l) b
  | atBad {st : St} : st.next.t = 3 → Fails 25 p st.step → Script p st [] false
  | caretBad {st : St} : st.next.t = 4 → Fails 27 p st.step → Script p st [] false
theorem rv_iface (x : Rev) : ∃ τ u, rv x = .iface τ u := by cases x <;> exact ⟨_, _, rfl⟩
theorem infoV : (Tryd.prog.info? 47).map (fun i => (i.zero, i.size, i.bytes)) = some (some .nilIface, 1, 16) := by kernel_rfl
def ParsePost (p : Pa) (w : World) (l : List Rev) (b : Bool) (e : Ending) (w' : World) : Prop := Off p.S w w' ∧ (if b = true then ∃ A c, e = .returned (.tuple #[.slice A l.length c, .nilIface]) ∧ l.length ≤ c ∧ kV.C w' A l.length l else ∃ v τ u, e = .returned (.tuple #[v, .iface τ u]))
theorem Off.cellNew {S : Nat → Prop} {w w1 : World} (h : Off S w w1) {g : Nat} (hg : w.heap.size ≤ g) (j : Nat) (u : Value) : Off S w (w1.setCell ⟨g, j, none⟩ u) :=
  h.then_base ((Below.refl w.heap.size w1).setCell (show w.heap.size ≤ (⟨g, j, none⟩ : Addr).block from hg) u)
theorem AtP.setAbove {w1 : World} {p : Pa} {st : St} (h : AtP w1 p st) {n g : Nat} (hn : p.lt n) (h16 : 16 ≤ n) (hg : n ≤ g) (j : Nat) (u : Value) : AtP (w1.setCell ⟨g, j, none⟩ u) p st :=
  h.below ((Below.refl n w1).setCell (show n ≤ (⟨g, j, none⟩ : Addr).block from hg) u) hn h16
theorem parse_any (w : World) (p : Pa) (st : St) (l : List Rev) (b : Bool) (h : AtP w p st) (hs : Script p st l b) (hF : b = true → Fine l) (hl : l.length ≤ 1000) :
    Calls Tryd.prog 20 #[.pointer (some ⟨p.gp, 0, none⟩)] w (ParsePost p w l b) := by
  have H := Aside0.mk h
  have HS := Aside0.mk hs
  have HF := Aside0.mk hF
  have HL := Aside0.mk hl
  have HLT := Aside0.mk h.lt
  have H16 := Aside0.mk h.sz
  obtain ⟨gp, hg⟩ : ∃ gp, p.gp = gp := ⟨_, rfl⟩
  have HG := Aside0.mk hg
  have HPS := Aside0.mk (fun W st h => pscan_any W p st h)
  have HUS := Aside0.mk (fun W st h => unscan_any W p st h)
  rw [hg] at HPS HUS ⊢
  clear h hs hF hl hg
  go_enter Tryd.func20, Tryd.ntmps20
  go_wp2_with fail
  have H1 := Aside0.mk (H.out.new (below_alloc (Below.refl w.heap.size w) (.cells #[.slice none 0 0] 40 (0, 0))))
  have HB1 := Aside0.mk (blk_new w (.cells #[.slice none 0 0] 40 (0, 0)))
  have HO1 := Aside0.mk ((Off.refl p.S w).alloc (.cells #[.slice none 0 0] 40 (0, 0)))
  obtain ⟨gv, hgv⟩ : ∃ gv, w.heap.size = gv := ⟨_, rfl⟩
  have HGV := Aside0.mk hgv
  rw [hgv] at HB1
  obtain ⟨W1, hW1⟩ : ∃ W1, w.alloc (.cells #[.slice none 0 0] 40 (0, 0)) = W1 := ⟨_, rfl⟩
  rw [hW1] at H1 HB1 HO1
  simp only [hgv]
  clear hgv
  go_loopg [4, 6, 7] (l.length + 1) (fun kq v4 v6 v7 w' => ∃ (st' : St) (dn rest : List Rev) (v : Value), Aside0 (Script p st' rest b) ∧ Aside0 (dn ++ rest = l ∧ rest.length + 1 ≤ kq) ∧ Aside0 (AtP w' p st') ∧ Aside0 (Off p.S w w') ∧ Aside0 (w'.heap[gv]? = some (.cells #[v] 40 (0, 0))) ∧ Aside0 (kV.R 47 w' w.heap.size (fun k => k ≠ gv) v dn))
  case atStart => exact ⟨st, [], l, .slice none 0 0, HS, ⟨rfl, Nat.le_refl _⟩, by simpa [hW1] using H1, by simpa [hW1] using HO1, by simpa [hW1] using HB1, ⟨Kd.R_nil _ _ _ _ _⟩⟩
  case round =>
    obtain ⟨st', dn, rest, v, HSC, HC, HP, HO, HB, HR⟩ := hrel
    have hsn := HPS.out wr st' HP.out
    have hs := HSC.out
    clear HSC HPS
    cases hs with
    | done ht =>
      rw [ht] at hsn
      have HSN := Aside0.mk hsn
      clear hsn ht
      cases gk with
      | zero => exact absurd HC.out.2 (by simp)
      | succ k1 =>
        have hdl : dn = l := by have := HC.out.1; rwa [List.append_nil] at this
        subst hdl
        go_wp2_with fail
        refine HSN.out.mono ?_
        rintro e w2 ⟨rfl, ho2, hat2⟩
        have HO2 := Aside0.mk (HO.out.trans ho2)
        have HAT2 := Aside0.mk hat2
        have HB2 := Aside0.mk (ho2.blk HB.out (fun hs => by have := Pa.S_lt HLT.out _ hs; have := HGV.out; omega))
        have HR2 := Aside0.mk (show kV.R 47 w2 w.heap.size (fun k => k ≠ gv) v dn from Kd.R_mono (Kd.R_move (Kd.R_bound HR.out) (fun k hk => ho2.block k hk.2.2.1 (fun hs => by have := Pa.S_lt HLT.out _ hs; have := hk.2.1; omega))) (fun _ hk => hk.1))
        clear ho2 hat2 HSN HO HB HR HP
        go_wp2_with fail
        obtain ⟨Av, cv, hvv, hcv, hCv⟩ := Kd.R_reads HR2.out
        subst hvv
        have qv := (blk_cell HB2.out 0).trans (show _ = some (Value.slice Av dn.length cv) from rfl)
        refine (validate_any w2 (.pointer (some ⟨gp, 0, none⟩)) gv cv Av dn (by first | exact HF.out rfl | exact HF.out trivial) (by have := HL.out; omega) hcv hCv qv).mono ?_
        rintro e w3 ⟨rfl, rfl⟩
        go_wp2_with fail
        go_ret2
        exact ⟨HO2.out, ⟨Av, cv, rfl, hcv, hCv⟩⟩
    | ref ht hd hs' =>
      rename_i st2 x rest'
      obtain ⟨tt, htt⟩ : ∃ tt, st'.next.t = tt := ⟨_, rfl⟩
      rw [htt] at hsn ht
      have HSN := Aside0.mk hsn
      obtain ⟨τ, u, hτ⟩ := rv_iface x
      have HTAU := Aside0.mk hτ
      have HDO := Aside0.mk (fun W h => (show Calls _ _ _ W _ from hd W h))
      rw [HG.out, hτ] at HDO
      have k0 : (tt == 3) = false := beq_eq_false_iff_ne.2 (by rcases ht with h | h <;> omega)
      have k1' : (tt == 17) = false := beq_eq_false_iff_ne.2 (by rcases ht with h | h <;> omega)
      have k2 : (tt == 4) = false := beq_eq_false_iff_ne.2 (by rcases ht with h | h <;> omega)
      have k3 : (tt == 6) = false := beq_eq_false_iff_ne.2 (by rcases ht with h | h <;> omega)
      have k4 : (tt == 0) = false := beq_eq_false_iff_ne.2 (by rcases ht with h | h <;> omega)
      clear hsn ht hτ hd htt
      cases gk with
      | zero => exact absurd HC.out.2 (by simp)
      | succ k1 =>
        go_wp2_with fail
        refine HSN.out.mono ?_
        rintro e w2 ⟨rfl, ho2, hat2⟩
        have HO2 := Aside0.mk (HO.out.trans ho2)
        have HAT2 := Aside0.mk hat2
        have HB2 := Aside0.mk (ho2.blk HB.out (fun hs => by have := Pa.S_lt HLT.out _ hs; have := HGV.out; omega))
        have HR2 := Aside0.mk (show kV.R 47 w2 w.heap.size (fun k => k ≠ gv) v dn from Kd.R_mono (Kd.R_move (Kd.R_bound HR.out) (fun k hk => ho2.block k hk.2.2.1 (fun hs => by have := Pa.S_lt HLT.out _ hs; have := hk.2.1; omega))) (fun _ hk => hk.1))
        clear ho2 hat2 HSN HO HB HR HP
        go_wp2_with fail
        refine (HUS.out _ _ HAT2.out).mono ?_
        rintro e w3 ⟨rfl, ho3, hat3⟩
        have HO3 := Aside0.mk (HO2.out.trans ho3)
        have HAT3 := Aside0.mk hat3
        have HB3 := Aside0.mk (ho3.blk HB2.out (fun hs => by have := Pa.S_lt HLT.out _ hs; have := HGV.out; omega))
        have HR3 := Aside0.mk (show kV.R 47 w3 w.heap.size (fun k => k ≠ gv) v dn from Kd.R_mono (Kd.R_move (Kd.R_bound HR2.out) (fun k hk => ho3.block k hk.2.2.1 (fun hs => by have := Pa.S_lt HLT.out _ hs; have := hk.2.1; omega))) (fun _ hk => hk.1))
        clear ho3 hat3 HO2 HB2 HR2 HAT2
        go_wp2_with fail
        refine (HDO.out _ HAT3.out).mono ?_
        rintro e w4 ⟨rfl, ho4, hat4⟩
        have HO4 := Aside0.mk (HO3.out.trans ho4)
        have HAT4 := Aside0.mk hat4
        have HB4 := Aside0.mk (ho4.blk HB3.out (fun hs => by have := Pa.S_lt HLT.out _ hs; have := HGV.out; omega))
        have HR4 := Aside0.mk (show kV.R 47 w4 w.heap.size (fun k => k ≠ gv) v dn from Kd.R_mono (Kd.R_move (Kd.R_bound HR3.out) (fun k hk => ho4.block k hk.2.2.1 (fun hs => by have := Pa.S_lt HLT.out _ hs; have := hk.2.1; omega))) (fun _ hk => hk.1))
        clear ho4 hat4 HO3 HB3 HR3 HAT3
        have qv := (blk_cell HB4.out 0).trans (show _ = some v from rfl)
        obtain ⟨Av, cv, hvv, hcv, _⟩ := Kd.R_reads HR4.out
        have fv := blk_frozen HB4.out 0
        have HVV := Aside0.mk hvv
        rw [hvv] at qv
        have HROOM := Aside0.mk (show (dn.length + 1) * 16 ≤ 140737488355328 from by have h1 := HC.out.1; have h2 := HL.out; rw [← h1, List.length_append, List.length_cons] at h2; omega)
        have HLTV := Aside0.mk (blk_lt HB4.out)
        rw [hvv] at HR4
        clear hvv hcv
        go_wp2_with (first | ((with_reducible refine gate_builtin (b := .append) (xs := #[.tmp 66, .tmp 68]) rfl ?_); at_builtin; go_must (refine Kd.R_append kV (w0 := w4) w.heap.size rfl (.tmp 66) (.tmp 68) 40 47 .nilIface 16 rfl Tryd.underlying40 infoV rfl (by decide) (by decide) (.slice Av dn.length cv) dn x [.iface τ u] (fun k => k ≠ gv) (fun _ => False) rfl (by first | (go_simp; done) | (go_simp; rfl)) (by show [Value.iface τ u] = [rv x]; rw [HTAU.out]) (fun _ hk => hk.elim) (fun k hk => by have := HLTV.out; omega) HR4.out (Below.refl _ _) HO4.out.size HROOM.out ?_); intro v9 w9 ho hb hg hat; have HR9 := Aside0.mk ho; have HB9 := Aside0.mk (blk_grown HB4.out hg (fun he => HR4.out.1 gv he.symm rfl)); have HW9 := Aside0.mk hb; clear ho hb hg hat qv fv; (obtain ⟨A9, c9, hv9, _, _⟩ := Kd.R_reads HR9.out); (rw [List.length_append, List.length_singleton] at hv9); subst hv9; (have qv := (blk_cell HB9.out 0).trans (show _ = some v from rfl)); (have fv := blk_frozen HB9.out 0)) | fail)
        go_roundg k1
        case measure => omega
        case rel => exact ⟨_, dn ++ [x], _, _, ⟨hs'⟩, ⟨by rw [List.append_assoc]; exact HC.out.1, by have := HC.out.2; rw [List.length_cons] at this; omega⟩, ⟨(HAT4.out.below HW9.out HLT.out H16.out).setAbove HLT.out H16.out (by rw [HGV.out]; exact Nat.le_refl _) 0 _⟩, ⟨(HO4.out.then_base HW9.out).cellNew (by rw [HGV.out]; exact Nat.le_refl _) 0 _⟩, ⟨blk_put HB9.out 0 _ rfl⟩, ⟨Kd.R_move HR9.out (fun k hk => Below.heap_setCell _ ⟨gv, 0, none⟩ _ k hk)⟩⟩
    | at_ ht hd hs' =>
      rename_i st2 x rest'
      rw [ht] at hsn
      have HSN := Aside0.mk hsn
      obtain ⟨τ, u, hτ⟩ := rv_iface x
      have HTAU := Aside0.mk hτ
      have HDO := Aside0.mk (fun W h => (show Calls _ _ _ W _ from hd W h))
      rw [HG.out, hτ] at HDO
      clear hsn ht hτ hd
      cases gk with
      | zero => exact absurd HC.out.2 (by simp)
      | succ k1 =>
        go_wp2_with fail
        refine HSN.out.mono ?_
        rintro e w2 ⟨rfl, ho2, hat2⟩
        have HO2 := Aside0.mk (HO.out.trans ho2)
        have HAT2 := Aside0.mk hat2
        have HB2 := Aside0.mk (ho2.blk HB.out (fun hs => by have := Pa.S_lt HLT.out _ hs; have := HGV.out; omega))
        have HR2 := Aside0.mk (show kV.R 47 w2 w.heap.size (fun k => k ≠ gv) v dn from Kd.R_mono (Kd.R_move (Kd.R_bound HR.out) (fun k hk => ho2.block k hk.2.2.1 (fun hs => by have := Pa.S_lt HLT.out _ hs; have := hk.2.1; omega))) (fun _ hk => hk.1))
        clear ho2 hat2 HSN HO HB HR HP
        go_wp2_with fail
        refine (HDO.out _ HAT2.out).mono ?_
        rintro e w3 ⟨rfl, ho3, hat3⟩
        have HO3 := Aside0.mk (HO2.out.trans ho3)
        have HAT3 := Aside0.mk hat3
        have HB3 := Aside0.mk (ho3.blk HB2.out (fun hs => by have := Pa.S_lt HLT.out _ hs; have := HGV.out; omega))
        have HR3 := Aside0.mk (show kV.R 47 w3 w.heap.size (fun k => k ≠ gv) v dn from Kd.R_mono (Kd.R_move (Kd.R_bound HR2.out) (fun k hk => ho3.block k hk.2.2.1 (fun hs => by have := Pa.S_lt HLT.out _ hs; have := hk.2.1; omega))) (fun _ hk => hk.1))
        clear ho3 hat3 HO2 HB2 HR2 HAT2
        have qv := (blk_cell HB3.out 0).trans (show _ = some v from rfl)
        obtain ⟨Av, cv, hvv, hcv, _⟩ := Kd.R_reads HR3.out
        have fv := blk_frozen HB3.out 0
        have HVV := Aside0.mk hvv
        rw [hvv] at qv
        have HROOM := Aside0.mk (show (dn.length + 1) * 16 ≤ 140737488355328 from by have h1 := HC.out.1; have h2 := HL.out; rw [← h1, List.length_append, List.length_cons] at h2; omega)
        have HLTV := Aside0.mk (blk_lt HB3.out)
        rw [hvv] at HR3
        clear hvv hcv
        go_wp2_with (first | ((with_reducible refine gate_builtin (b := .append) (xs := #[.tmp 66, .tmp 68]) rfl ?_); at_builtin; go_must (refine Kd.R_append kV (w0 := w3) w.heap.size rfl (.tmp 66) (.tmp 68) 40 47 .nilIface 16 rfl Tryd.underlying40 infoV rfl (by decide) (by decide) (.slice Av dn.length cv) dn x [.iface τ u] (fun k => k ≠ gv) (fun _ => False) rfl (by first | (go_simp; done) | (go_simp; rfl)) (by show [Value.iface τ u] = [rv x]; rw [HTAU.out]) (fun _ hk => hk.elim) (fun k hk => by have := HLTV.out; omega) HR3.out (Below.refl _ _) HO3.out.size HROOM.out ?_); intro v9 w9 ho hb hg hat; have HR9 := Aside0.mk ho; have HB9 := Aside0.mk (blk_grown HB3.out hg (fun he => HR3.out.1 gv he.symm rfl)); have HW9 := Aside0.mk hb; clear ho hb hg hat qv fv; (obtain ⟨A9, c9, hv9, _, _⟩ := Kd.R_reads HR9.out); (rw [List.length_append, List.length_singleton] at hv9); subst hv9; (have qv := (blk_cell HB9.out 0).trans (show _ = some v from rfl)); (have fv := blk_frozen HB9.out 0)) | fail)
        go_roundg k1
        case measure => omega
        case rel => exact ⟨_, dn ++ [x], _, _, ⟨hs'⟩, ⟨by rw [List.append_assoc]; exact HC.out.1, by have := HC.out.2; rw [List.length_cons] at this; omega⟩, ⟨(HAT3.out.below HW9.out HLT.out H16.out).setAbove HLT.out H16.out (by rw [HGV.out]; exact Nat.le_refl _) 0 _⟩, ⟨(HO3.out.then_base HW9.out).cellNew (by rw [HGV.out]; exact Nat.le_refl _) 0 _⟩, ⟨blk_put HB9.out 0 _ rfl⟩, ⟨Kd.R_move HR9.out (fun k hk => Below.heap_setCell _ ⟨gv, 0, none⟩ _ k hk)⟩⟩
    | tilde ht hd hs' =>
      rename_i st2 x rest'
      rw [ht] at hsn
      have HSN := Aside0.mk hsn
      obtain ⟨τ, u, hτ⟩ := rv_iface x
      have HTAU := Aside0.mk hτ
      have HDO := Aside0.mk (fun W h => (show Calls _ _ _ W _ from hd W h))
      rw [HG.out, hτ] at HDO
      clear hsn ht hτ hd
      cases gk with
      | zero => exact absurd HC.out.2 (by simp)
      | succ k1 =>
        go_wp2_with fail
        refine HSN.out.mono ?_
        rintro e w2 ⟨rfl, ho2, hat2⟩
        have HO2 := Aside0.mk (HO.out.trans ho2)
        have HAT2 := Aside0.mk hat2
        have HB2 := Aside0.mk (ho2.blk HB.out (fun hs => by have := Pa.S_lt HLT.out _ hs; have := HGV.out; omega))
        have HR2 := Aside0.mk (show kV.R 47 w2 w.heap.size (fun k => k ≠ gv) v dn from Kd.R_mono (Kd.R_move (Kd.R_bound HR.out) (fun k hk => ho2.block k hk.2.2.1 (fun hs => by have := Pa.S_lt HLT.out _ hs; have := hk.2.1; omega))) (fun _ hk => hk.1))
        clear ho2 hat2 HSN HO HB HR HP
        go_wp2_with fail
        refine (HDO.out _ HAT2.out).mono ?_
        rintro e w3 ⟨rfl, ho3, hat3⟩
        have HO3 := Aside0.mk (HO2.out.trans ho3)
        have HAT3 := Aside0.mk hat3
        have HB3 := Aside0.mk (ho3.blk HB2.out (fun hs => by have := Pa.S_lt HLT.out _ hs; have := HGV.out; omega))
        have HR3 := Aside0.mk (show kV.R 47 w3 w.heap.size (fun k => k ≠ gv) v dn from Kd.R_mono (Kd.R_move (Kd.R_bound HR2.out) (fun k hk => ho3.block k hk.2.2.1 (fun hs => by have := Pa.S_lt HLT.out _ hs; have := hk.2.1; omega))) (fun _ hk => hk.1))
        clear ho3 hat3 HO2 HB2 HR2 HAT2
        have qv := (blk_cell HB3.out 0).trans (show _ = some v from rfl)
        obtain ⟨Av, cv, hvv, hcv, _⟩ := Kd.R_reads HR3.out
        have fv := blk_frozen HB3.out 0
        have HVV := Aside0.mk hvv
        rw [hvv] at qv
        have HROOM := Aside0.mk (show (dn.length + 1) * 16 ≤ 140737488355328 from by have h1 := HC.out.1; have h2 := HL.out; rw [← h1, List.length_append, List.length_cons] at h2; omega)
        have HLTV := Aside0.mk (blk_lt HB3.out)
        rw [hvv] at HR3
        clear hvv hcv
        go_wp2_with (first | ((with_reducible refine gate_builtin (b := .append) (xs := #[.tmp 66, .tmp 68]) rfl ?_); at_builtin; go_must (refine Kd.R_append kV (w0 := w3) w.heap.size rfl (.tmp 66) (.tmp 68) 40 47 .nilIface 16 rfl Tryd.underlying40 infoV rfl (by decide) (by decide) (.slice Av dn.length cv) dn x [.iface τ u] (fun k => k ≠ gv) (fun _ => False) rfl (by first | (go_simp; done) | (go_simp; rfl)) (by show [Value.iface τ u] = [rv x]; rw [HTAU.out]) (fun _ hk => hk.elim) (fun k hk => by have := HLTV.out; omega) HR3.out (Below.refl _ _) HO3.out.size HROOM.out ?_); intro v9 w9 ho hb hg hat; have HR9 := Aside0.mk ho; have HB9 := Aside0.mk (blk_grown HB3.out hg (fun he => HR3.out.1 gv he.symm rfl)); have HW9 := Aside0.mk hb; clear ho hb hg hat qv fv; (obtain ⟨A9, c9, hv9, _, _⟩ := Kd.R_reads HR9.out); (rw [List.length_append, List.length_singleton] at hv9); subst hv9; (have qv := (blk_cell HB9.out 0).trans (show _ = some v from rfl)); (have fv := blk_frozen HB9.out 0)) | fail)
        go_roundg k1
        case measure => omega
        case rel => exact ⟨_, dn ++ [x], _, _, ⟨hs'⟩, ⟨by rw [List.append_assoc]; exact HC.out.1, by have := HC.out.2; rw [List.length_cons] at this; omega⟩, ⟨(HAT3.out.below HW9.out HLT.out H16.out).setAbove HLT.out H16.out (by rw [HGV.out]; exact Nat.le_refl _) 0 _⟩, ⟨(HO3.out.then_base HW9.out).cellNew (by rw [HGV.out]; exact Nat.le_refl _) 0 _⟩, ⟨blk_put HB9.out 0 _ rfl⟩, ⟨Kd.R_move HR9.out (fun k hk => Below.heap_setCell _ ⟨gv, 0, none⟩ _ k hk)⟩⟩
    | caret ht hd hs' =>
      rename_i st2 x rest'
      rw [ht] at hsn
      have HSN := Aside0.mk hsn
      obtain ⟨τ, u, hτ⟩ := rv_iface x
      have HTAU := Aside0.mk hτ
      have HDO := Aside0.mk (fun W h => (show Calls _ _ _ W _ from hd W h))
      rw [HG.out, hτ] at HDO
      clear hsn ht hτ hd
      cases gk with
      | zero => exact absurd HC.out.2 (by simp)
      | succ k1 =>
        go_wp2_with fail
        refine HSN.out.mono ?_
        rintro e w2 ⟨rfl, ho2, hat2⟩
        have HO2 := Aside0.mk (HO.out.trans ho2)
        have HAT2 := Aside0.mk hat2
        have HB2 := Aside0.mk (ho2.blk HB.out (fun hs => by have := Pa.S_lt HLT.out _ hs; have := HGV.out; omega))
        have HR2 := Aside0.mk (show kV.R 47 w2 w.heap.size (fun k => k ≠ gv) v dn from Kd.R_mono (Kd.R_move (Kd.R_bound HR.out) (fun k hk => ho2.block k hk.2.2.1 (fun hs => by have := Pa.S_lt HLT.out _ hs; have := hk.2.1; omega))) (fun _ hk => hk.1))
        clear ho2 hat2 HSN HO HB HR HP
        go_wp2_with fail
        refine (HDO.out _ HAT2.out).mono ?_
        rintro e w3 ⟨rfl, ho3, hat3⟩
        have HO3 := Aside0.mk (HO2.out.trans ho3)
        have HAT3 := Aside0.mk hat3
        have HB3 := Aside0.mk (ho3.blk HB2.out (fun hs => by have := Pa.S_lt HLT.out _ hs; have := HGV.out; omega))
        have HR3 := Aside0.mk (show kV.R 47 w3 w.heap.size (fun k => k ≠ gv) v dn from Kd.R_mono (Kd.R_move (Kd.R_bound HR2.out) (fun k hk => ho3.block k hk.2.2.1 (fun hs => by have := Pa.S_lt HLT.out _ hs; have := hk.2.1; omega))) (fun _ hk => hk.1))
        clear ho3 hat3 HO2 HB2 HR2 HAT2
        have qv := (blk_cell HB3.out 0).trans (show _ = some v from rfl)
        obtain ⟨Av, cv, hvv, hcv, _⟩ := Kd.R_reads HR3.out
        have fv := blk_frozen HB3.out 0
        have HVV := Aside0.mk hvv
        rw [hvv] at qv
        have HROOM := Aside0.mk (show (dn.length + 1) * 16 ≤ 140737488355328 from by have h1 := HC.out.1; have h2 := HL.out; rw [← h1, List.length_append, List.length_cons] at h2; omega)
        have HLTV := Aside0.mk (blk_lt HB3.out)
        rw [hvv] at HR3
        clear hvv hcv
        go_wp2_with (first | ((with_reducible refine gate_builtin (b := .append) (xs := #[.tmp 66, .tmp 68]) rfl ?_); at_builtin; go_must (refine Kd.R_append kV (w0 := w3) w.heap.size rfl (.tmp 66) (.tmp 68) 40 47 .nilIface 16 rfl Tryd.underlying40 infoV rfl (by decide) (by decide) (.slice Av dn.length cv) dn x [.iface τ u] (fun k => k ≠ gv) (fun _ => False) rfl (by first | (go_simp; done) | (go_simp; rfl)) (by show [Value.iface τ u] = [rv x]; rw [HTAU.out]) (fun _ hk => hk.elim) (fun k hk => by have := HLTV.out; omega) HR3.out (Below.refl _ _) HO3.out.size HROOM.out ?_); intro v9 w9 ho hb hg hat; have HR9 := Aside0.mk ho; have HB9 := Aside0.mk (blk_grown HB3.out hg (fun he => HR3.out.1 gv he.symm rfl)); have HW9 := Aside0.mk hb; clear ho hb hg hat qv fv; (obtain ⟨A9, c9, hv9, _, _⟩ := Kd.R_reads HR9.out); (rw [List.length_append, List.length_singleton] at hv9); subst hv9; (have qv := (blk_cell HB9.out 0).trans (show _ = some v from rfl)); (have fv := blk_frozen HB9.out 0)) | fail)
        go_roundg k1
        case measure => omega
        case rel => exact ⟨_, dn ++ [x], _, _, ⟨hs'⟩, ⟨by rw [List.append_assoc]; exact HC.out.1, by have := HC.out.2; rw [List.length_cons] at this; omega⟩, ⟨(HAT3.out.below HW9.out HLT.out H16.out).setAbove HLT.out H16.out (by rw [HGV.out]; exact Nat.le_refl _) 0 _⟩, ⟨(HO3.out.then_base HW9.out).cellNew (by rw [HGV.out]; exact Nat.le_refl _) 0 _⟩, ⟨blk_put HB9.out 0 _ rfl⟩, ⟨Kd.R_move HR9.out (fun k hk => Below.heap_setCell _ ⟨gv, 0, none⟩ _ k hk)⟩⟩
    | atBad ht hd =>
      rw [ht] at hsn
      have HSN := Aside0.mk hsn
      have HDO := Aside0.mk (fun W h => (show Calls _ _ _ W _ from hd W h))
      rw [HG.out] at HDO
      clear hsn ht hd
      cases gk with
      | zero => exact absurd HC.out.2 (by simp)
      | succ k1 =>
        go_wp2_with fail
        refine HSN.out.mono ?_
        rintro e w2 ⟨rfl, ho2, hat2⟩
        have HO2 := Aside0.mk (HO.out.trans ho2)
        have HAT2 := Aside0.mk hat2
        have HB2 := Aside0.mk (ho2.blk HB.out (fun hs => by have := Pa.S_lt HLT.out _ hs; have := HGV.out; omega))
        have HR2 := Aside0.mk (show kV.R 47 w2 w.heap.size (fun k => k ≠ gv) v dn from Kd.R_mono (Kd.R_move (Kd.R_bound HR.out) (fun k hk => ho2.block k hk.2.2.1 (fun hs => by have := Pa.S_lt HLT.out _ hs; have := hk.2.1; omega))) (fun _ hk => hk.1))
        clear ho2 hat2 HSN HO HB HR HP
        go_wp2_with fail
        refine (HDO.out _ HAT2.out).mono ?_
        rintro e w3 ⟨⟨τ, u, rfl⟩, ho3⟩
        have HO3 := Aside0.mk (HO2.out.trans ho3)
        clear ho3
        go_wp2_with fail
        go_ret2
        exact ⟨HO3.out.alloc _, _, _, _, rfl⟩
    | caretBad ht hd =>
      rw [ht] at hsn
      have HSN := Aside0.mk hsn
      have HDO := Aside0.mk (fun W h => (show Calls _ _ _ W _ from hd W h))
      rw [HG.out] at HDO
      clear hsn ht hd
      cases gk with
      | zero => exact absurd HC.out.2 (by simp)
      | succ k1 =>
        go_wp2_with fail
        refine HSN.out.mono ?_
        rintro e w2 ⟨rfl, ho2, hat2⟩
        have HO2 := Aside0.mk (HO.out.trans ho2)
        have HAT2 := Aside0.mk hat2
        have HB2 := Aside0.mk (ho2.blk HB.out (fun hs => by have := Pa.S_lt HLT.out _ hs; have := HGV.out; omega))
        have HR2 := Aside0.mk (show kV.R 47 w2 w.heap.size (fun k => k ≠ gv) v dn from Kd.R_mono (Kd.R_move (Kd.R_bound HR.out) (fun k hk => ho2.block k hk.2.2.1 (fun hs => by have := Pa.S_lt HLT.out _ hs; have := hk.2.1; omega))) (fun _ hk => hk.1))
        clear ho2 hat2 HSN HO HB HR HP
        go_wp2_with fail
        refine (HDO.out _ HAT2.out).mono ?_
        rintro e w3 ⟨⟨τ, u, rfl⟩, ho3⟩
        have HO3 := Aside0.mk (HO2.out.trans ho3)
        clear ho3
        go_wp2_with fail
        go_ret2
        exact ⟨HO3.out.alloc _, _, _, _, rfl⟩
end Go.Proofs.YtiibeefadgmicaaDoor.rev
