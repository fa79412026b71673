/- Revisions: parseAt. -/
import Derived.Test.YtiibeefadgmicaaDoorRevN
namespace Go.Proofs.YtiibeefadgmicaaDoor.rev
open Go.RowKit Go.Proofs.YtiibeefadgmicaaDoorW.PrintWords Go.Proofs.YtiibeefadgmicaaDoorW.PrintLast Go.Proofs.YtiibeefadgmicaaDoorW.PrintMore Go.Proofs.YtiibeefadgmicaaDoor.PFnRevSteps
set_option linter.unusedVariables false
set_option linter.unusedSimpArgs false
set_option maxHeartbeats 2000000
set_option maxRecDepth 100000
theorem parseAt_u (w : World) (p : Pa) (st : St) (s1 s2 : List UInt8) (h : AtP w p st) (hn : st.next = ⟨12, s1⟩) (h2 : st.step.next = ⟨19, [117]⟩) (h3 : st.step.step.next = ⟨5, s2⟩) :
    Calls Tryd.prog 25 #[.pointer (some ⟨p.gp, 0, none⟩)] w fun e w' => e = .returned (.tuple #[.iface 70 (.agg #[.string ⟨#[]⟩]), .nilIface]) ∧ Off p.S w w' ∧ AtP w' p st.step.step.step := by
  have HSC := pscan_any w p st h
  rw [hn] at HSC
  have HSC := Aside0.mk HSC
  have hs2 := fun W h => pscan_any W p st.step h
  rw [h2, show txt [117] = (⟨#[117]⟩ : ByteArray) from rfl] at hs2
  have HS2 := Aside0.mk hs2
  have HS3 := Aside0.mk (fun W h => h3 ▸ pscan_any W p st.step.step h)
  obtain ⟨gp, hg⟩ : ∃ gp, p.gp = gp := ⟨_, rfl⟩
  rw [hg] at HSC HS2 HS3 ⊢
  clear h hn h2 h3 hg hs2
  go_enter Tryd.func25, Tryd.ntmps25
  go_wp2_with fail
  refine HSC.out.mono ?_
  rintro e w2 ⟨rfl, ho2, hat2⟩
  have HO2 := Aside0.mk ho2
  have HAT2 := Aside0.mk hat2
  clear ho2 hat2 HSC
  go_wp2_with fail
  refine (HS2.out _ HAT2.out).mono ?_
  rintro e w3 ⟨rfl, ho3, hat3⟩
  have HO3 := Aside0.mk (HO2.out.trans ho3)
  have HAT3 := Aside0.mk hat3
  clear ho3 hat3 HS2
  go_wp2_with fail
  refine (HS3.out _ HAT3.out).mono ?_
  rintro e w4 ⟨rfl, ho4, hat4⟩
  have HO4 := Aside0.mk (HO3.out.trans ho4)
  have HAT4 := Aside0.mk hat4
  clear ho4 hat4 HS3
  go_wp2_with fail
  go_ret2
  exact ⟨rfl, HO4.out, HAT4.out⟩
theorem parseAt_upstream (w : World) (p : Pa) (st : St) (s1 s2 : List UInt8) (h : AtP w p st) (hn : st.next = ⟨12, s1⟩) (h2 : st.step.next = ⟨19, [117, 112, 115, 116, 114, 101, 97, 109]⟩) (h3 : st.step.step.next = ⟨5, s2⟩) :
    Calls Tryd.prog 25 #[.pointer (some ⟨p.gp, 0, none⟩)] w fun e w' => e = .returned (.tuple #[.iface 70 (.agg #[.string ⟨#[]⟩]), .nilIface]) ∧ Off p.S w w' ∧ AtP w' p st.step.step.step := by
  have HSC := pscan_any w p st h
  rw [hn] at HSC
  have HSC := Aside0.mk HSC
  have hs2 := fun W h => pscan_any W p st.step h
  rw [h2, show txt [117, 112, 115, 116, 114, 101, 97, 109] = (⟨#[117, 112, 115, 116, 114, 101, 97, 109]⟩ : ByteArray) from rfl] at hs2
  have HS2 := Aside0.mk hs2
  have HS3 := Aside0.mk (fun W h => h3 ▸ pscan_any W p st.step.step h)
  obtain ⟨gp, hg⟩ : ∃ gp, p.gp = gp := ⟨_, rfl⟩
  rw [hg] at HSC HS2 HS3 ⊢
  clear h hn h2 h3 hg hs2
  go_enter Tryd.func25, Tryd.ntmps25
  go_wp2_with fail
  refine HSC.out.mono ?_
  rintro e w2 ⟨rfl, ho2, hat2⟩
  have HO2 := Aside0.mk ho2
  have HAT2 := Aside0.mk hat2
  clear ho2 hat2 HSC
  go_wp2_with fail
  refine (HS2.out _ HAT2.out).mono ?_
  rintro e w3 ⟨rfl, ho3, hat3⟩
  have HO3 := Aside0.mk (HO2.out.trans ho3)
  have HAT3 := Aside0.mk hat3
  clear ho3 hat3 HS2
  go_wp2_with fail
  refine (HS3.out _ HAT3.out).mono ?_
  rintro e w4 ⟨rfl, ho4, hat4⟩
  have HO4 := Aside0.mk (HO3.out.trans ho4)
  have HAT4 := Aside0.mk hat4
  clear ho4 hat4 HS3
  go_wp2_with fail
  go_ret2
  exact ⟨rfl, HO4.out, HAT4.out⟩
theorem parseAt_push (w : World) (p : Pa) (st : St) (s1 s2 : List UInt8) (h : AtP w p st) (hn : st.next = ⟨12, s1⟩) (h2 : st.step.next = ⟨19, [112, 117, 115, 104]⟩) (h3 : st.step.step.next = ⟨5, s2⟩) :
    Calls Tryd.prog 25 #[.pointer (some ⟨p.gp, 0, none⟩)] w fun e w' => e = .returned (.tuple #[.iface 71 (.agg #[.string ⟨#[]⟩]), .nilIface]) ∧ Off p.S w w' ∧ AtP w' p st.step.step.step := by
  have HSC := pscan_any w p st h
  rw [hn] at HSC
  have HSC := Aside0.mk HSC
  have hs2 := fun W h => pscan_any W p st.step h
  rw [h2, show txt [112, 117, 115, 104] = (⟨#[112, 117, 115, 104]⟩ : ByteArray) from rfl] at hs2
  have HS2 := Aside0.mk hs2
  have HS3 := Aside0.mk (fun W h => h3 ▸ pscan_any W p st.step.step h)
  obtain ⟨gp, hg⟩ : ∃ gp, p.gp = gp := ⟨_, rfl⟩
  rw [hg] at HSC HS2 HS3 ⊢
  clear h hn h2 h3 hg hs2
  go_enter Tryd.func25, Tryd.ntmps25
  go_wp2_with fail
  refine HSC.out.mono ?_
  rintro e w2 ⟨rfl, ho2, hat2⟩
  have HO2 := Aside0.mk ho2
  have HAT2 := Aside0.mk hat2
  clear ho2 hat2 HSC
  go_wp2_with fail
  refine (HS2.out _ HAT2.out).mono ?_
  rintro e w3 ⟨rfl, ho3, hat3⟩
  have HO3 := Aside0.mk (HO2.out.trans ho3)
  have HAT3 := Aside0.mk hat3
  clear ho3 hat3 HS2
  go_wp2_with fail
  refine (HS3.out _ HAT3.out).mono ?_
  rintro e w4 ⟨rfl, ho4, hat4⟩
  have HO4 := Aside0.mk (HO3.out.trans ho4)
  have HAT4 := Aside0.mk hat4
  clear ho4 hat4 HS3
  go_wp2_with fail
  go_ret2
  exact ⟨rfl, HO4.out, HAT4.out⟩
theorem bad_way {st' : St} {t3 : Int} {l3 m3 m' dt lit : List UInt8} {kq : Nat} (h : (st'.u = true ∧ st'.c = ⟨t3, l3⟩ ∧ m' = m3 ∧ dt = lit ∧ m'.length + 2 ≤ kq + 1 ∨ st'.u = false ∧ dt.length + m'.length ≤ 4000 ∧ m'.length + 1 ≤ kq + 1) ∧ st'.l = m' ∧ (∀ x ∈ m', isA x = true)) (ht : t3 = 0 ∧ m3 = [] ∧ l3 = [] ∨ t3 = 11 ∨ t3 = 19) (hl : lit.length + (l3.length + m3.length) ≤ 4000) :
    (∃ (k : Int) (l4 m4 : List UInt8), st'.next = ⟨k, l4⟩ ∧ st'.step = ⟨false, ⟨k, l4⟩, m4⟩ ∧ (k = 11 ∨ k = 19) ∧ (dt ++ l4).length + m4.length ≤ 4000 ∧ m4.length + 1 ≤ kq ∧ ∀ x ∈ m4, isA x = true) ∨ (∃ l4 m4, st'.next = ⟨0, l4⟩ ∧ st'.step = ⟨false, ⟨0, l4⟩, m4⟩) := by
  obtain ⟨h1, h2, h3⟩ := h
  rcases h1 with ⟨a1, a2, rfl, rfl, a5⟩ | ⟨a1, a2, a3⟩
  · have en : st'.next = ⟨t3, l3⟩ := by unfold St.next; rw [if_pos a1, a2]
    have es : st'.step = ⟨false, ⟨t3, l3⟩, m'⟩ := by unfold St.step; rw [if_pos a1, a2, h2]
    rcases ht with ⟨rfl, _, _⟩ | hk
    · exact .inr ⟨_, _, en, es⟩
    · exact .inl ⟨t3, l3, m', en, es, hk, by rw [List.length_append]; omega, by omega, h3⟩
  · have en : st'.next = (nx m').1 := by unfold St.next; rw [if_neg (by rw [a1]; simp), h2]
    have es : st'.step = ⟨false, (nx m').1, (nx m').2⟩ := by unfold St.step; rw [if_neg (by rw [a1]; simp), h2]
    cases m' with
    | nil => exact .inr ⟨_, _, en, es⟩
    | cons y m'' =>
      obtain ⟨k, l4, m4, hk, hnx, hlm, hne⟩ := nx_word (m := m'') (t := []) (h3 y (.head _)) ends_nil
      rw [List.append_nil, List.append_nil] at hnx
      rw [hnx] at en es
      have hll : 0 < l4.length := List.length_pos_iff.2 hne
      have hlen : l4.length + m4.length = m''.length + 1 := by rw [← List.length_append, hlm, List.length_cons]
      exact .inl ⟨k, l4, m4, en, es, hk.symm, by rw [List.length_append]; rw [List.length_cons] at a2; omega, by rw [List.length_cons] at a3; omega, fun x hx => h3 x (by rw [← hlm]; exact List.mem_append_right _ hx)⟩
theorem gk_pos {st' : St} {t3 : Int} {l3 m3 m' dt lit : List UInt8} {kq : Nat} (h : (st'.u = true ∧ st'.c = ⟨t3, l3⟩ ∧ m' = m3 ∧ dt = lit ∧ m'.length + 2 ≤ kq ∨ st'.u = false ∧ dt.length + m'.length ≤ 4000 ∧ m'.length + 1 ≤ kq) ∧ st'.l = m' ∧ (∀ x ∈ m', isA x = true)) : kq = kq - 1 + 1 := by
  rcases h.1 with h | h
  · have := h.2.2.2.2; omega
  · have := h.2.2; omega
/-- A word that is not closed. -/
theorem parseAt_bad (w : World) (p : Pa) (st : St) (s1 lit m : List UInt8) (h : AtP w p st) (hn : st.next = ⟨12, s1⟩) (h2 : st.step.next = ⟨19, lit⟩) (h2s : st.step.step = ⟨false, ⟨19, lit⟩, m⟩) (hm : ∀ x ∈ m, isA x = true) (hlen : lit.length + m.length ≤ 4000) :
    Calls Tryd.prog 25 #[.pointer (some ⟨p.gp, 0, none⟩)] w fun e w' => (∃ τ u, e = .returned (.tuple #[.nilIface, .iface τ u])) ∧ Off p.S w w' := by
  have HSC := pscan_any w p st h
  rw [hn] at HSC
  have HSC := Aside0.mk HSC
  have hs2 := fun W h => pscan_any W p st.step h
  rw [h2, h2s] at hs2
  have HS2 := Aside0.mk hs2
  have HPS := Aside0.mk (fun W st h => pscan_any W p st h)
  have HUS := Aside0.mk (fun W st h => unscan_any W p st h)
  -- the token behind the word
  have hway : ∃ (t3 : Int) (l3 m3 : List UInt8), nx m = (⟨t3, l3⟩, m3) ∧ (t3 = 0 ∧ m3 = [] ∧ l3 = [] ∨ t3 = 11 ∨ t3 = 19) ∧ l3.length + m3.length ≤ m.length ∧ (∀ x ∈ m3, isA x = true) := by
    cases m with
    | nil => exact ⟨0, [], [], rfl, .inl ⟨rfl, rfl, rfl⟩, Nat.le_refl _, fun x hx => by cases hx⟩
    | cons y m'' =>
      obtain ⟨k, l3, m3, hk, hnx, hlm, hne⟩ := nx_word (m := m'') (t := []) (hm y (.head _)) ends_nil
      rw [List.append_nil, List.append_nil] at hnx
      exact ⟨k, l3, m3, hnx, .inr (hk.symm), by rw [← List.length_append, hlm]; exact Nat.le_refl _, fun x hx => hm x (by rw [← hlm]; exact List.mem_append_right _ hx)⟩
  obtain ⟨t3, l3, m3, hnx, ht3, hl3, hA3⟩ := hway
  have hs3 := fun W (h : AtP W p ⟨false, ⟨19, lit⟩, m⟩) => pscan_any W p ⟨false, ⟨19, lit⟩, m⟩ h
  have e3 : St.next ⟨false, ⟨19, lit⟩, m⟩ = ⟨t3, l3⟩ := by unfold St.next; rw [if_neg (by simp), hnx]
  have e4 : St.step ⟨false, ⟨19, lit⟩, m⟩ = ⟨false, ⟨t3, l3⟩, m3⟩ := by unfold St.step; rw [if_neg (by simp), hnx]
  rw [e3, e4] at hs3
  have HS3 := Aside0.mk hs3
  obtain ⟨gp, hg⟩ : ∃ gp, p.gp = gp := ⟨_, rfl⟩
  rw [hg] at HSC HS2 HS3 HPS HUS ⊢
  have c1 : (t3 == 5) = false := beq_eq_false_iff_ne.2 (by rcases ht3 with h | h | h <;> omega)
  have HT3 := Aside0.mk ht3
  have HA3 := Aside0.mk hA3
  have HL := Aside0.mk (show lit.length + (l3.length + m3.length) ≤ 4000 by omega)
  clear h hn h2 h2s hg hs2 hs3 e3 e4 hnx ht3 hA3 hl3 hlen
  cases u1 : ((txt lit).toList == [117])
  all_goals cases u2 : ((txt lit).toList == [117, 112, 115, 116, 114, 101, 97, 109])
  all_goals cases u3 : ((txt lit).toList == [112, 117, 115, 104])
  all_goals go_enter Tryd.func25, Tryd.ntmps25
  all_goals go_wp2_with fail
  all_goals refine HSC.out.mono ?_
  all_goals rintro e w2 ⟨rfl, ho2, hat2⟩
  all_goals have HO2 := Aside0.mk ho2
  all_goals have HAT2 := Aside0.mk hat2
  all_goals clear ho2 hat2 HSC
  all_goals go_wp2_with fail
  all_goals refine (HS2.out _ HAT2.out).mono ?_
  all_goals rintro e w3 ⟨rfl, ho3, hat3⟩
  all_goals have HO3 := Aside0.mk (HO2.out.trans ho3)
  all_goals have HAT3 := Aside0.mk hat3
  all_goals clear ho3 hat3 HS2
  all_goals go_wp2_with fail
  all_goals refine (HS3.out _ HAT3.out).mono ?_
  all_goals rintro e w4 ⟨rfl, ho4, hat4⟩
  all_goals have HO4 := Aside0.mk (HO3.out.trans ho4)
  all_goals have HAT4 := Aside0.mk hat4
  all_goals clear ho4 hat4 HS3
  all_goals go_wp2_with fail
  all_goals refine (HUS.out _ _ HAT4.out).mono ?_
  all_goals rintro e w5 ⟨rfl, ho5, hat5⟩
  all_goals have HO5 := Aside0.mk (HO4.out.trans ho5)
  all_goals have HAT5 := Aside0.mk hat5
  all_goals clear ho5 hat5 HUS
  all_goals go_wp2_with fail
  all_goals go_loopg [4, 6, 8, 16, 17, 18] (m3.length + 2) (fun kq v4 v6 v8 v16 v17 v18 w' => ∃ (st' : St) (dt m' : List UInt8), v16 = .string (txt dt) ∧ Aside0 ((st'.u = true ∧ st'.c = ⟨t3, l3⟩ ∧ m' = m3 ∧ dt = lit ∧ m'.length + 2 ≤ kq ∨ st'.u = false ∧ dt.length + m'.length ≤ 4000 ∧ m'.length + 1 ≤ kq) ∧ st'.l = m' ∧ (∀ x ∈ m', isA x = true)) ∧ Aside0 (AtP w' p st') ∧ Aside0 (Off p.S w w'))
  all_goals first | (case atStart => exact ⟨_, lit, m3, rfl, ⟨.inl ⟨rfl, rfl, rfl, rfl, Nat.le_refl _⟩, rfl, HA3.out⟩, HAT5, HO5⟩) | skip
  all_goals obtain ⟨st', dt, m', rfl, HST, HP, HOO⟩ := hrel
  all_goals obtain ⟨kk, rfl⟩ : ∃ kk, gk = kk + 1 := ⟨gk - 1, gk_pos HST.out⟩
  all_goals have hway := bad_way HST.out HT3.out HL.out
  all_goals have hsc := HPS.out wr st' HP.out
  all_goals rcases hway with ⟨k, l4, m4, hnx, hst, hk, hlen, hgk, hA4⟩ | ⟨l4, m4, hnx, hst⟩
  all_goals rw [hnx, hst] at hsc
  all_goals have HSC := Aside0.mk hsc
  all_goals clear hsc hnx hst HST
  all_goals first
    | (have k0 : (k == 0) = false := beq_eq_false_iff_ne.2 (by rcases hk with h | h <;> omega)
       have k5 : (k == 5) = false := beq_eq_false_iff_ne.2 (by rcases hk with h | h <;> omega)
       have hsum := txt_append dt l4
       have b1 : ((txt dt).size : Int) ≤ 8388608 := by rw [List.length_append] at hlen; rw [txt_size]; omega
       have b2 : ((txt dt).size : Int) + ((txt l4).size : Int) ≤ 8388608 := by rw [List.length_append] at hlen; rw [txt_size, txt_size]; omega
       have HK := Aside0.mk (And.intro hlen (And.intro hgk hA4))
       clear hk hlen hgk hA4
       go_wp2_with fail
       refine HSC.out.mono ?_
       rintro e w6 ⟨rfl, ho6, hat6⟩
       have HO6 := Aside0.mk (HOO.out.trans ho6)
       have HAT6 := Aside0.mk hat6
       clear ho6 hat6 HSC
       go_wp2_with fail
       go_roundg kk
       case measure => omega
       case rel => exact ⟨_, dt ++ l4, m4, rfl, ⟨.inr ⟨rfl, HK.out.1, by have := HK.out.2.1; omega⟩, rfl, HK.out.2.2⟩, HAT6, HO6⟩)
    | (go_wp2_with fail
       refine HSC.out.mono ?_
       rintro e w6 ⟨rfl, ho6, hat6⟩
       have HO6 := Aside0.mk (HOO.out.trans ho6)
       clear ho6 hat6 HSC
       go_wp2_with fail
       go_ret2
       exact ⟨⟨_, _, rfl⟩, HO6.out.alloc _⟩)
end Go.Proofs.YtiibeefadgmicaaDoor.rev
