/- Revisions: names: checkRefFormat, parseRef. -/
import Derived.Test.YtiibeefadgmicaaDoorRevL
import Derived.WalkLawsBesides
import Derived.WalkSpells
namespace Go.Proofs.YtiibeefadgmicaaDoor.rev
open Go.RowKit Go.Proofs.YtiibeefadgmicaaDoorW.PrintWords Go.Proofs.YtiibeefadgmicaaDoorW.PrintLast Go.Proofs.YtiibeefadgmicaaDoorW.PrintMore Go.Proofs.YtiibeefadgmicaaDoor.PFnRevSteps
set_option linter.unusedVariables false
set_option linter.unusedSimpArgs false
set_option maxHeartbeats 2000000
set_option maxRecDepth 100000
/-- Tokens that a name is made of, or that end one. -/
def InRef (t : Int) : Prop := t = 19 ∨ t = 11 ∨ t = 0 ∨ t = 3 ∨ t = 17 ∨ t = 4
theorem txt_size (l : List UInt8) : (txt l).size = l.length := by simp [txt, ByteArray.size]
theorem not_lock {l : List UInt8} (hl : ∀ x ∈ l, isA x = true) (h : 4 < l.length) : ((txt l).extract (l.length - 5) l.length).toList ≠ [46, 108, 111, 99, 107] := by
  intro he
  rw [ByteArray.toList_eq] at he
  rw [ByteArray.data_extract, Array.toList_extract] at he
  have hm : (46 : UInt8) ∈ (txt l).data.toList.extract (l.length - 5) l.length := by rw [he]; exact .head _
  have hm : (46 : UInt8) ∈ l := List.mem_of_mem_drop (List.mem_of_mem_take hm)
  have := hl 46 hm
  revert this
  decide
theorem check_any (w : World) (p t q : Int) (A : Value) (s : ByteArray) (l : List UInt8) (bb : Bool) (ht : InRef t) (hq : q = 0 ∨ q = 19 ∨ q = 11) (hl : ∀ x ∈ l, isA x = true) (hlen : l.length ≤ 100000) :
    Calls Tryd.prog 41 #[A, .int .i64 t, .string s, .int .i64 q, .string (txt l), .bool bb] w fun e w' => e = .returned .nilIface ∧ w = w' := by
  have t0 : (t == 1) = false := beq_eq_false_iff_ne.2 (by rcases ht with h | h | h | h | h | h <;> omega)
  have t1 : (t == 16) = false := beq_eq_false_iff_ne.2 (by rcases ht with h | h | h | h | h | h <;> omega)
  have t2 : (t == 7) = false := beq_eq_false_iff_ne.2 (by rcases ht with h | h | h | h | h | h <;> omega)
  have t3 : (t == 14) = false := beq_eq_false_iff_ne.2 (by rcases ht with h | h | h | h | h | h <;> omega)
  have t4 : (t == 2) = false := beq_eq_false_iff_ne.2 (by rcases ht with h | h | h | h | h | h <;> omega)
  have t5 : (t == 13) = false := beq_eq_false_iff_ne.2 (by rcases ht with h | h | h | h | h | h <;> omega)
  have t6 : (t == 8) = false := beq_eq_false_iff_ne.2 (by rcases ht with h | h | h | h | h | h <;> omega)
  have t7 : (t == 15) = false := beq_eq_false_iff_ne.2 (by rcases ht with h | h | h | h | h | h <;> omega)
  have q0 : (q == 8) = false := beq_eq_false_iff_ne.2 (by rcases hq with h | h | h <;> omega)
  have q1 : (q == 15) = false := beq_eq_false_iff_ne.2 (by rcases hq with h | h | h <;> omega)
  have hsz := txt_size l
  obtain ⟨bf, hbf⟩ : ∃ bf, txt l = bf := ⟨_, rfl⟩
  obtain ⟨n, hn⟩ : ∃ n, l.length = n := ⟨_, rfl⟩
  have hnl : 4 < l.length → ((bf.extract (n - 5) n).toList == [46, 108, 111, 99, 107]) = false := fun h => by
    rw [beq_eq_false_iff_ne, ← hbf, ← hn]
    exact not_lock hl h
  rw [hn] at hsz hlen hnl
  rw [hbf] at hsz ⊢
  clear hbf hn hl ht hq
  cases bb with
  | false =>
    go_enter Tryd.func41, Tryd.ntmps41
    go_wp2
    go_ret
    exact ⟨rfl, rfl⟩
  | true =>
    by_cases h4 : 4 < n
    · have c1 : decide ((4 : Int) < (bf.size : Int)) = true := decide_eq_true (by omega)
      have c2 : decide (4 < bf.size) = true := decide_eq_true (by omega)
      have h5 := hnl h4
      have w1 : wrap64 ((bf.size : Int) - 5) = (bf.size : Int) - 5 := w64 (by omega) (by omega)
      have b1 : (0 : Int) ≤ (bf.size : Int) - 5 := by omega
      have b2 : (bf.size : Int) - 5 ≤ (bf.size : Int) := by omega
      have b3 : (5 : Int) ≤ (bf.size : Int) := by omega
      have e1 : ((bf.size : Int) - 5).toNat = bf.size - 5 := by omega
      rw [← hsz] at h5
      have H5 := Aside0.mk h5
      clear hnl hsz h4 hlen
      go_enter Tryd.func41, Tryd.ntmps41
      go_wp2
      go_ret
      exact ⟨rfl, rfl⟩
    · have c1 : decide ((4 : Int) < (bf.size : Int)) = false := decide_eq_false (by omega)
      have c2 : decide (4 < bf.size) = false := decide_eq_false (by omega)
      clear hnl hsz h4 hlen
      go_enter Tryd.func41, Tryd.ntmps41
      go_wp2
      go_ret
      exact ⟨rfl, rfl⟩
theorem parseRef_any (w : World) (p : Pa) (t0 : Tok) (m tail : List UInt8) (h : AtP w p ⟨true, t0, m ++ tail⟩) (ht0 : t0.t = 19 ∨ t0.t = 11) (hs0 : ∀ x ∈ t0.s, isA x = true) (hm : ∀ x ∈ m, isA x = true) (hn : (t0.s ++ m).length ≤ 100000) (hend : Ends tail) (htl : (nx tail).1.t = 0 ∨ (nx tail).1.t = 3 ∨ (nx tail).1.t = 17 ∨ (nx tail).1.t = 4) :
    Calls Tryd.prog 31 #[.pointer (some ⟨p.gp, 0, none⟩)] w fun e w' => e = .returned (.tuple #[.iface 59 (.string (txt (t0.s ++ m))), .nilIface]) ∧ Off p.S w w' ∧ AtP w' p ⟨true, (nx tail).1, (nx tail).2⟩ := by
  have H := Aside0.mk h
  have HT0 := Aside0.mk ht0
  have HS0 := Aside0.mk hs0
  have HM := Aside0.mk hm
  have HN := Aside0.mk hn
  have HE := Aside0.mk hend
  have HTL := Aside0.mk htl
  obtain ⟨gp, hg⟩ : ∃ gp, p.gp = gp := ⟨_, rfl⟩
  have HG := Aside0.mk hg
  rw [hg]
  have HPS := Aside0.mk (fun W st h => pscan_any W p st h)
  have HUS := Aside0.mk (fun W st h => unscan_any W p st h)
  rw [hg] at HPS HUS
  clear h ht0 hs0 hm hn hend htl hg
  go_enter Tryd.func31, Tryd.ntmps31
  go_wp2_with fail
  go_loopg [4, 5, 6, 7, 8, 9, 10] (m.length + 2) (fun kq v4 v5 v6 v7 v8 v9 v10 w' => ∃ (st : St) (bf m' : List UInt8) (q : Int), v5 = .int .i64 q ∧ v7 = .string (txt bf) ∧ v8 = .bool false ∧ Aside0 (q = 0 ∨ q = 19 ∨ q = 11) ∧ Aside0 ((st.u = true ∧ st.c = t0 ∧ bf = [] ∧ m' = m ∧ m'.length + 2 ≤ kq ∨ st.u = false ∧ bf ++ m' = t0.s ++ m ∧ m'.length + 1 ≤ kq) ∧ st.l = m' ++ tail ∧ (∀ x ∈ bf, isA x = true) ∧ (∀ x ∈ m', isA x = true)) ∧ Aside0 (AtP w' p st) ∧ Aside0 (Off p.S w w'))
  case atStart => exact ⟨_, [], m, 0, rfl, rfl, rfl, ⟨.inl rfl⟩, ⟨.inl ⟨rfl, rfl, rfl, rfl, Nat.le_refl _⟩, rfl, (fun x hx => by cases hx), HM.out⟩, H, ⟨Off.refl _ _⟩⟩
  case round =>
    obtain ⟨st, bf, m', q, rfl, rfl, rfl, HQ, HST, HP, HO⟩ := hrel
    have hway : (∃ (k : Int) (lit m3 : List UInt8), st.next = ⟨k, lit⟩ ∧ st.step = ⟨false, ⟨k, lit⟩, m3 ++ tail⟩ ∧ (k = 19 ∨ k = 11) ∧ (bf ++ lit) ++ m3 = t0.s ++ m ∧ m3.length + 2 ≤ gk ∧ (∀ x ∈ bf ++ lit, isA x = true) ∧ ∀ x ∈ m3, isA x = true) ∨ (st.next = (nx tail).1 ∧ st.step = ⟨false, (nx tail).1, (nx tail).2⟩ ∧ bf = t0.s ++ m) := by
      obtain ⟨h1, h2, h3, h4⟩ := HST.out
      rcases h1 with ⟨a1, a2, rfl, rfl, a5⟩ | ⟨a1, a2, a3⟩
      · refine .inl ⟨t0.t, t0.s, m', ?_, ?_, HT0.out, by rw [List.nil_append], a5, fun x hx => HS0.out x (by simpa using hx), h4⟩
        · unfold St.next; rw [if_pos a1, a2]
        · unfold St.step; rw [if_pos a1, a2, h2]
      · have hn : st.next = (nx (m' ++ tail)).1 := by unfold St.next; rw [if_neg (by rw [a1]; simp), h2]
        have hs : st.step = ⟨false, (nx (m' ++ tail)).1, (nx (m' ++ tail)).2⟩ := by unfold St.step; rw [if_neg (by rw [a1]; simp), h2]
        cases m' with
        | nil =>
          rw [List.nil_append] at hn hs
          rw [List.append_nil] at a2
          exact .inr ⟨hn, hs, a2⟩
        | cons y m'' =>
          obtain ⟨k, lit, m3, hk, hnx, hlm, hne⟩ := nx_word (m := m'') (h4 y (.head _)) HE.out
          rw [hnx] at hn hs
          have hll : 0 < lit.length := List.length_pos_iff.2 hne
          have hlen : lit.length + m3.length = m''.length + 1 := by rw [← List.length_append, hlm, List.length_cons]
          refine .inl ⟨k, lit, m3, hn, hs, hk, by rw [List.append_assoc, hlm]; exact a2, by rw [List.length_cons] at a3; omega, fun x hx => ?_, fun x hx => h4 x (by rw [← hlm]; exact List.mem_append_right _ hx)⟩
          rcases List.mem_append.1 hx with hx | hx
          · exact h3 x hx
          · exact h4 x (by rw [← hlm]; exact List.mem_append_left _ hx)
    have HBF := Aside0.mk HST.out.2.2.1
    have hsc := HPS.out wr st HP.out
    rcases hway with ⟨k, lit, m3, hnx, hst, hk, hcat, hlen, hA, hA3⟩ | ⟨hnx, hst, hbf⟩
    · rw [hnx, hst] at hsc
      have HSC := Aside0.mk hsc
      have HCK := Aside0.mk (fun W => check_any W 0 k q (.pointer (some ⟨gp, 0, none⟩)) (txt lit) bf false (hk.imp id (fun h => .inl h)) HQ.out HBF.out (by have := HN.out; rw [← hcat, List.append_assoc, List.length_append] at this; omega))
      have k0 : (k == 0) = false := beq_eq_false_iff_ne.2 (by rcases hk with h | h <;> omega)
      have k1 : (k == 3) = false := beq_eq_false_iff_ne.2 (by rcases hk with h | h <;> omega)
      have k2 : (k == 6) = false := beq_eq_false_iff_ne.2 (by rcases hk with h | h <;> omega)
      have k3 : (k == 17) = false := beq_eq_false_iff_ne.2 (by rcases hk with h | h <;> omega)
      have k4 : (k == 4) = false := beq_eq_false_iff_ne.2 (by rcases hk with h | h <;> omega)
      have HK := Aside0.mk hk
      have HCAT := Aside0.mk (And.intro hcat (And.intro hlen (And.intro hA hA3)))
      have hsum := txt_append bf lit
      have b1 : ((txt bf).size : Int) ≤ 8388608 := by have := HN.out; rw [← hcat, List.append_assoc, List.length_append] at this; rw [txt_size]; omega
      have b2 : ((txt bf).size : Int) + ((txt lit).size : Int) ≤ 8388608 := by have := HN.out; rw [← hcat, List.append_assoc, List.length_append, List.length_append] at this; rw [txt_size, txt_size]; omega
      have B1 := Aside0.mk b1
      have B2 := Aside0.mk b2
      clear hsc hnx hst hk hcat hlen hA hA3 HST HPS
      cases gk with
      | zero => exact absurd HCAT.out.2.1 (by omega)
      | succ k1' =>
        go_wp2_with fail
        refine HSC.out.mono ?_
        rintro e w2 ⟨rfl, ho2, hat2⟩
        have HO2 := Aside0.mk (HO.out.trans ho2)
        have HAT2 := Aside0.mk hat2
        clear ho2 hat2 HSC
        go_wp2_with fail
        refine (HCK.out _).mono ?_
        rintro e w3 ⟨rfl, rfl⟩
        go_wp2_with fail
        go_roundg k1'
        case measure => omega
        case rel => exact ⟨_, bf ++ lit, m3, k, rfl, rfl, rfl, ⟨.inr HK.out⟩, ⟨.inr ⟨rfl, HCAT.out.1, by have := HCAT.out.2.1; omega⟩, rfl, HCAT.out.2.2.1, HCAT.out.2.2.2⟩, HAT2, HO2⟩
    · subst hbf
      rw [hnx, hst] at hsc
      have HSC := Aside0.mk hsc
      obtain ⟨tk, htk⟩ : ∃ tk, nx tail = tk := ⟨_, rfl⟩
      obtain ⟨⟨tt, ts⟩, tl⟩ := tk
      have HTK := Aside0.mk htk
      have htl := HTL.out
      rw [htk] at HSC htl
      have HCK := Aside0.mk (fun W => check_any W 0 tt q (.pointer (some ⟨gp, 0, none⟩)) (txt ts) (t0.s ++ m) true (.inr (.inr (htl.imp id (fun h => h.imp id id)))) HQ.out HBF.out HN.out)
      clear hsc hnx hst HST HPS htk
      rcases htl with h | h | h | h
      all_goals (have htt : tt = _ := h)
      all_goals subst htt
      all_goals go_wp2_with fail
      all_goals refine HSC.out.mono ?_
      all_goals rintro e w2 ⟨rfl, ho2, hat2⟩
      all_goals have HO2 := Aside0.mk (HO.out.trans ho2)
      all_goals have HAT2 := Aside0.mk hat2
      all_goals clear ho2 hat2 HSC
      all_goals go_wp2_with fail
      all_goals refine (HCK.out _).mono ?_
      all_goals rintro e w3 ⟨rfl, rfl⟩
      all_goals go_wp2_with fail
      all_goals refine (HUS.out _ _ HAT2.out).mono ?_
      all_goals rintro e w4 ⟨rfl, ho4, hat4⟩
      all_goals have HO4 := Aside0.mk (HO2.out.trans ho4)
      all_goals have HAT4 := Aside0.mk hat4
      all_goals clear ho4 hat4 HUS
      all_goals go_wp2_with fail
      all_goals go_ret2
      all_goals rw [HTK.out]
      all_goals exact ⟨rfl, HO4.out, HAT4.out⟩
end Go.Proofs.YtiibeefadgmicaaDoor.rev
