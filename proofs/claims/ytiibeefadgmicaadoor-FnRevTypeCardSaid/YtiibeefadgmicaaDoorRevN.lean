/- Revisions: parseTilde, parseCaret, parseCaretBraces. -/
import Derived.Test.YtiibeefadgmicaaDoorRevM
import Derived.Test.YtiibeefadgmicaaDoorShelf
import Derived.Lib.AtoiErrMem
namespace Go.Proofs.YtiibeefadgmicaaDoor.rev
open Go.RowKit Go.Proofs.YtiibeefadgmicaaDoorW.PrintWords Go.Proofs.YtiibeefadgmicaaDoorW.PrintLast Go.Proofs.YtiibeefadgmicaaDoorW.PrintMore Go.Proofs.YtiibeefadgmicaaDoor.PFnRevSteps
set_option linter.unusedVariables false
set_option linter.unusedSimpArgs false
set_option maxHeartbeats 2000000
set_option maxRecDepth 100000
theorem Off.alloc {S : Nat → Prop} {w w1 : World} (h : Off S w w1) (o : Obj) : Off S w (w1.alloc o) := h.then_ (below_alloc (Below.refl _ _) o)
theorem atoi_any (l : List UInt8) (n : Int) (hl : l.length ≤ 18) (h : Lib.atoi l = some n) (w : World) :
    Calls Tryd.prog 36 #[.string (txt l)] w fun e w' => e = .returned (.tuple #[.int .i64 n, .nilIface]) ∧ Below w.heap.size w w' := by
  refine (Tryd.strconv_Atoi (txt l) n (by rw [txt_size]; exact hl) h w).mono ?_
  rintro e w' ⟨rfl, t, rfl⟩
  exact ⟨rfl, Lib.bytesWorld_below w _ t⟩
theorem parseTilde_num (w : World) (p : Pa) (st : St) (l : List UInt8) (n : Int) (h : AtP w p st) (hn : st.next = ⟨11, l⟩) (hl : l.length ≤ 18) (ha : Lib.atoi l = some n) :
    Calls Tryd.prog 26 #[.pointer (some ⟨p.gp, 0, none⟩)] w fun e w' => e = .returned (.tuple #[.iface 61 (.agg #[.int .i64 n]), .nilIface]) ∧ Off p.S w w' ∧ AtP w' p st.step := by
  have HSC := pscan_any w p st h
  rw [hn] at HSC
  have HSC := Aside0.mk HSC
  have HA := Aside0.mk (atoi_any l n hl ha)
  obtain ⟨gp, hg⟩ : ∃ gp, p.gp = gp := ⟨_, rfl⟩
  rw [hg] at HSC ⊢
  clear h hn hl ha hg
  go_enter Tryd.func26, Tryd.ntmps26
  go_wp2_with fail
  refine HSC.out.mono ?_
  rintro e w2 ⟨rfl, ho2, hat2⟩
  have HO2 := Aside0.mk ho2
  have HAT2 := Aside0.mk hat2
  clear ho2 hat2 HSC
  go_wp2_with fail
  refine (HA.out _).mono ?_
  rintro e w3 ⟨rfl, hb3⟩
  have HO3 := Aside0.mk (HO2.out.then_ hb3)
  have HAT3 := Aside0.mk (HAT2.out.new hb3)
  clear hb3
  go_wp2_with fail
  go_ret2
  exact ⟨rfl, HO3.out, HAT3.out⟩
theorem parseCaret_num (w : World) (p : Pa) (st : St) (l : List UInt8) (n : Int) (h : AtP w p st) (hn : st.next = ⟨11, l⟩) (hl : l.length ≤ 18) (ha : Lib.atoi l = some n) (h2 : n ≤ 2) :
    Calls Tryd.prog 27 #[.pointer (some ⟨p.gp, 0, none⟩)] w fun e w' => e = .returned (.tuple #[.iface 62 (.agg #[.int .i64 n]), .nilIface]) ∧ Off p.S w w' ∧ AtP w' p st.step := by
  have HSC := pscan_any w p st h
  rw [hn] at HSC
  have HSC := Aside0.mk HSC
  have HA := Aside0.mk (atoi_any l n hl ha)
  obtain ⟨gp, hg⟩ : ∃ gp, p.gp = gp := ⟨_, rfl⟩
  rw [hg] at HSC ⊢
  have c1 : decide ((2 : Int) < n) = false := decide_eq_false (by omega)
  clear h hn hl ha hg
  go_enter Tryd.func27, Tryd.ntmps27
  go_wp2_with fail
  refine HSC.out.mono ?_
  rintro e w2 ⟨rfl, ho2, hat2⟩
  have HO2 := Aside0.mk ho2
  have HAT2 := Aside0.mk hat2
  clear ho2 hat2 HSC
  go_wp2_with fail
  refine (HA.out _).mono ?_
  rintro e w3 ⟨rfl, hb3⟩
  have HO3 := Aside0.mk (HO2.out.then_ hb3)
  have HAT3 := Aside0.mk (HAT2.out.new hb3)
  clear hb3
  go_wp2_with fail
  go_ret2
  exact ⟨rfl, HO3.out, HAT3.out⟩
theorem braces_0 (w : World) (p : Pa) (st : St) (s2 : List UInt8) (h : AtP w p st) (hn : st.next = ⟨19, [99, 111, 109, 109, 105, 116]⟩) (h2 : st.step.next = ⟨5, s2⟩) :
    Calls Tryd.prog 38 #[.pointer (some ⟨p.gp, 0, none⟩)] w fun e w' => e = .returned (.tuple #[.iface 66 (.agg #[.string (txt [99, 111, 109, 109, 105, 116])]), .nilIface]) ∧ Off p.S w w' ∧ AtP w' p st.step.step := by
  have HSC := pscan_any w p st h
  rw [hn] at HSC
  have HSC := Aside0.mk HSC
  have HS2 := Aside0.mk (fun W h => h2 ▸ pscan_any W p st.step h)
  obtain ⟨gp, hg⟩ : ∃ gp, p.gp = gp := ⟨_, rfl⟩
  rw [show txt [99, 111, 109, 109, 105, 116] = (⟨#[99, 111, 109, 109, 105, 116]⟩ : ByteArray) from rfl] at HSC ⊢
  rw [hg] at HSC HS2 ⊢
  clear h hn h2 hg
  go_enter Tryd.func38, Tryd.ntmps38
  go_wp2_with fail
  refine wp_loop_rounds 1 ?_
  rw [rounds_succ]
  go_wp2_with fail
  refine HSC.out.mono ?_
  rintro e w2 ⟨rfl, ho2, hat2⟩
  have HO2 := Aside0.mk ho2
  have HAT2 := Aside0.mk hat2
  clear ho2 hat2 HSC
  go_wp2_with fail
  refine (HS2.out _ HAT2.out).mono ?_
  rintro e w3 ⟨rfl, ho3, hat3⟩
  have HO3 := Aside0.mk (HO2.out.trans ho3)
  have HAT3 := Aside0.mk hat3
  clear ho3 hat3 HS2
  go_wp2_with fail
  go_ret2
  exact ⟨rfl, HO3.out, HAT3.out⟩
theorem braces_1 (w : World) (p : Pa) (st : St) (s2 : List UInt8) (h : AtP w p st) (hn : st.next = ⟨19, [116, 114, 101, 101]⟩) (h2 : st.step.next = ⟨5, s2⟩) :
    Calls Tryd.prog 38 #[.pointer (some ⟨p.gp, 0, none⟩)] w fun e w' => e = .returned (.tuple #[.iface 66 (.agg #[.string (txt [116, 114, 101, 101])]), .nilIface]) ∧ Off p.S w w' ∧ AtP w' p st.step.step := by
  have HSC := pscan_any w p st h
  rw [hn] at HSC
  have HSC := Aside0.mk HSC
  have HS2 := Aside0.mk (fun W h => h2 ▸ pscan_any W p st.step h)
  obtain ⟨gp, hg⟩ : ∃ gp, p.gp = gp := ⟨_, rfl⟩
  rw [show txt [116, 114, 101, 101] = (⟨#[116, 114, 101, 101]⟩ : ByteArray) from rfl] at HSC ⊢
  rw [hg] at HSC HS2 ⊢
  clear h hn h2 hg
  go_enter Tryd.func38, Tryd.ntmps38
  go_wp2_with fail
  refine wp_loop_rounds 1 ?_
  rw [rounds_succ]
  go_wp2_with fail
  refine HSC.out.mono ?_
  rintro e w2 ⟨rfl, ho2, hat2⟩
  have HO2 := Aside0.mk ho2
  have HAT2 := Aside0.mk hat2
  clear ho2 hat2 HSC
  go_wp2_with fail
  refine (HS2.out _ HAT2.out).mono ?_
  rintro e w3 ⟨rfl, ho3, hat3⟩
  have HO3 := Aside0.mk (HO2.out.trans ho3)
  have HAT3 := Aside0.mk hat3
  clear ho3 hat3 HS2
  go_wp2_with fail
  go_ret2
  exact ⟨rfl, HO3.out, HAT3.out⟩
theorem braces_2 (w : World) (p : Pa) (st : St) (s2 : List UInt8) (h : AtP w p st) (hn : st.next = ⟨19, [98, 108, 111, 98]⟩) (h2 : st.step.next = ⟨5, s2⟩) :
    Calls Tryd.prog 38 #[.pointer (some ⟨p.gp, 0, none⟩)] w fun e w' => e = .returned (.tuple #[.iface 66 (.agg #[.string (txt [98, 108, 111, 98])]), .nilIface]) ∧ Off p.S w w' ∧ AtP w' p st.step.step := by
  have HSC := pscan_any w p st h
  rw [hn] at HSC
  have HSC := Aside0.mk HSC
  have HS2 := Aside0.mk (fun W h => h2 ▸ pscan_any W p st.step h)
  obtain ⟨gp, hg⟩ : ∃ gp, p.gp = gp := ⟨_, rfl⟩
  rw [show txt [98, 108, 111, 98] = (⟨#[98, 108, 111, 98]⟩ : ByteArray) from rfl] at HSC ⊢
  rw [hg] at HSC HS2 ⊢
  clear h hn h2 hg
  go_enter Tryd.func38, Tryd.ntmps38
  go_wp2_with fail
  refine wp_loop_rounds 1 ?_
  rw [rounds_succ]
  go_wp2_with fail
  refine HSC.out.mono ?_
  rintro e w2 ⟨rfl, ho2, hat2⟩
  have HO2 := Aside0.mk ho2
  have HAT2 := Aside0.mk hat2
  clear ho2 hat2 HSC
  go_wp2_with fail
  refine (HS2.out _ HAT2.out).mono ?_
  rintro e w3 ⟨rfl, ho3, hat3⟩
  have HO3 := Aside0.mk (HO2.out.trans ho3)
  have HAT3 := Aside0.mk hat3
  clear ho3 hat3 HS2
  go_wp2_with fail
  go_ret2
  exact ⟨rfl, HO3.out, HAT3.out⟩
theorem braces_3 (w : World) (p : Pa) (st : St) (s2 : List UInt8) (h : AtP w p st) (hn : st.next = ⟨19, [116, 97, 103]⟩) (h2 : st.step.next = ⟨5, s2⟩) :
    Calls Tryd.prog 38 #[.pointer (some ⟨p.gp, 0, none⟩)] w fun e w' => e = .returned (.tuple #[.iface 66 (.agg #[.string (txt [116, 97, 103])]), .nilIface]) ∧ Off p.S w w' ∧ AtP w' p st.step.step := by
  have HSC := pscan_any w p st h
  rw [hn] at HSC
  have HSC := Aside0.mk HSC
  have HS2 := Aside0.mk (fun W h => h2 ▸ pscan_any W p st.step h)
  obtain ⟨gp, hg⟩ : ∃ gp, p.gp = gp := ⟨_, rfl⟩
  rw [show txt [116, 97, 103] = (⟨#[116, 97, 103]⟩ : ByteArray) from rfl] at HSC ⊢
  rw [hg] at HSC HS2 ⊢
  clear h hn h2 hg
  go_enter Tryd.func38, Tryd.ntmps38
  go_wp2_with fail
  refine wp_loop_rounds 1 ?_
  rw [rounds_succ]
  go_wp2_with fail
  refine HSC.out.mono ?_
  rintro e w2 ⟨rfl, ho2, hat2⟩
  have HO2 := Aside0.mk ho2
  have HAT2 := Aside0.mk hat2
  clear ho2 hat2 HSC
  go_wp2_with fail
  refine (HS2.out _ HAT2.out).mono ?_
  rintro e w3 ⟨rfl, ho3, hat3⟩
  have HO3 := Aside0.mk (HO2.out.trans ho3)
  have HAT3 := Aside0.mk hat3
  clear ho3 hat3 HS2
  go_wp2_with fail
  go_ret2
  exact ⟨rfl, HO3.out, HAT3.out⟩
theorem braces_4 (w : World) (p : Pa) (st : St) (s2 : List UInt8) (h : AtP w p st) (hn : st.next = ⟨19, [111, 98, 106, 101, 99, 116]⟩) (h2 : st.step.next = ⟨5, s2⟩) :
    Calls Tryd.prog 38 #[.pointer (some ⟨p.gp, 0, none⟩)] w fun e w' => e = .returned (.tuple #[.iface 66 (.agg #[.string (txt [111, 98, 106, 101, 99, 116])]), .nilIface]) ∧ Off p.S w w' ∧ AtP w' p st.step.step := by
  have HSC := pscan_any w p st h
  rw [hn] at HSC
  have HSC := Aside0.mk HSC
  have HS2 := Aside0.mk (fun W h => h2 ▸ pscan_any W p st.step h)
  obtain ⟨gp, hg⟩ : ∃ gp, p.gp = gp := ⟨_, rfl⟩
  rw [show txt [111, 98, 106, 101, 99, 116] = (⟨#[111, 98, 106, 101, 99, 116]⟩ : ByteArray) from rfl] at HSC ⊢
  rw [hg] at HSC HS2 ⊢
  clear h hn h2 hg
  go_enter Tryd.func38, Tryd.ntmps38
  go_wp2_with fail
  refine wp_loop_rounds 1 ?_
  rw [rounds_succ]
  go_wp2_with fail
  refine HSC.out.mono ?_
  rintro e w2 ⟨rfl, ho2, hat2⟩
  have HO2 := Aside0.mk ho2
  have HAT2 := Aside0.mk hat2
  clear ho2 hat2 HSC
  go_wp2_with fail
  refine (HS2.out _ HAT2.out).mono ?_
  rintro e w3 ⟨rfl, ho3, hat3⟩
  have HO3 := Aside0.mk (HO2.out.trans ho3)
  have HAT3 := Aside0.mk hat3
  clear ho3 hat3 HS2
  go_wp2_with fail
  go_ret2
  exact ⟨rfl, HO3.out, HAT3.out⟩
/-- Nothing in the braces: what a tag leads to. -/
theorem braces_tag (w : World) (p : Pa) (st : St) (s1 s2 : List UInt8) (t2 : Int) (h : AtP w p st) (hn : st.next = ⟨5, s1⟩) (h2 : st.step.next = ⟨t2, s2⟩) :
    Calls Tryd.prog 38 #[.pointer (some ⟨p.gp, 0, none⟩)] w fun e w' => e = .returned (.tuple #[.iface 66 (.agg #[.string (txt [116, 97, 103])]), .nilIface]) ∧ Off p.S w w' ∧ AtP w' p st.step.step := by
  have HSC := pscan_any w p st h
  rw [hn] at HSC
  have HSC := Aside0.mk HSC
  have HS2 := Aside0.mk (fun W h => h2 ▸ pscan_any W p st.step h)
  obtain ⟨gp, hg⟩ : ∃ gp, p.gp = gp := ⟨_, rfl⟩
  rw [show txt [116, 97, 103] = (⟨#[116, 97, 103]⟩ : ByteArray) from rfl]
  rw [hg] at HSC HS2 ⊢
  clear h hn h2 hg
  go_enter Tryd.func38, Tryd.ntmps38
  go_wp2_with fail
  refine wp_loop_rounds 1 ?_
  rw [rounds_succ]
  go_wp2_with fail
  refine HSC.out.mono ?_
  rintro e w2 ⟨rfl, ho2, hat2⟩
  have HO2 := Aside0.mk ho2
  have HAT2 := Aside0.mk hat2
  clear ho2 hat2 HSC
  go_wp2_with fail
  refine (HS2.out _ HAT2.out).mono ?_
  rintro e w3 ⟨rfl, ho3, hat3⟩
  have HO3 := Aside0.mk (HO2.out.trans ho3)
  have HAT3 := Aside0.mk hat3
  clear ho3 hat3 HS2
  go_wp2_with fail
  go_ret2
  exact ⟨rfl, HO3.out, HAT3.out⟩
/-- A word that is not closed. -/
theorem braces_bad (w : World) (p : Pa) (st : St) (s1 s2 : List UInt8) (t2 : Int) (h : AtP w p st) (hn : st.next = ⟨19, s1⟩) (h2 : st.step.next = ⟨t2, s2⟩) (ht : t2 = 0 ∨ t2 = 11 ∨ t2 = 19) :
    Calls Tryd.prog 38 #[.pointer (some ⟨p.gp, 0, none⟩)] w fun e w' => (∃ τ u, e = .returned (.tuple #[.nilIface, .iface τ u])) ∧ Off p.S w w' := by
  have HSC := pscan_any w p st h
  rw [hn] at HSC
  have HSC := Aside0.mk HSC
  have HS2 := Aside0.mk (fun W h => h2 ▸ pscan_any W p st.step h)
  obtain ⟨gp, hg⟩ : ∃ gp, p.gp = gp := ⟨_, rfl⟩
  rw [hg] at HSC HS2 ⊢
  have c1 : (t2 == 5) = false := beq_eq_false_iff_ne.2 (by rcases ht with h | h | h <;> omega)
  clear h hn h2 hg
  go_enter Tryd.func38, Tryd.ntmps38
  go_wp2_with fail
  refine wp_loop_rounds 1 ?_
  rw [rounds_succ]
  go_wp2_with fail
  refine HSC.out.mono ?_
  rintro e w2 ⟨rfl, ho2, hat2⟩
  have HO2 := Aside0.mk ho2
  have HAT2 := Aside0.mk hat2
  clear ho2 hat2 HSC
  go_wp2_with fail
  refine (HS2.out _ HAT2.out).mono ?_
  rintro e w3 ⟨rfl, ho3, hat3⟩
  have HO3 := Aside0.mk (HO2.out.trans ho3)
  clear ho3 hat3 HS2
  go_wp2_with fail
  go_ret2
  exact ⟨⟨_, _, rfl⟩, HO3.out.alloc _⟩
def kinds : List (List UInt8) := [[99, 111, 109, 109, 105, 116], [116, 114, 101, 101], [98, 108, 111, 98], [116, 97, 103], [111, 98, 106, 101, 99, 116]]
theorem braces_kind (w : World) (p : Pa) (st : St) (l s2 : List UInt8) (h : AtP w p st) (hn : st.next = ⟨19, l⟩) (hk : l ∈ kinds) (h2 : st.step.next = ⟨5, s2⟩) :
    Calls Tryd.prog 38 #[.pointer (some ⟨p.gp, 0, none⟩)] w fun e w' => e = .returned (.tuple #[.iface 66 (.agg #[.string (txt l)]), .nilIface]) ∧ Off p.S w w' ∧ AtP w' p st.step.step := by
  simp only [kinds, List.mem_cons, List.not_mem_nil, or_false] at hk
  rcases hk with rfl | rfl | rfl | rfl | rfl
  · exact braces_0 w p st s2 h hn h2
  · exact braces_1 w p st s2 h hn h2
  · exact braces_2 w p st s2 h hn h2
  · exact braces_3 w p st s2 h hn h2
  · exact braces_4 w p st s2 h hn h2
/-- parseCaret where a brace follows. -/
theorem parseCaret_ok (w : World) (p : Pa) (st st2 : St) (s1 : List UInt8) (v : Value) (τ : TypeId) (h : AtP w p st) (hn : st.next = ⟨12, s1⟩)
    (hB : ∀ W, AtP W p st.step → Calls Tryd.prog 38 #[.pointer (some ⟨p.gp, 0, none⟩)] W fun e w' => e = .returned (.tuple #[.iface τ v, .nilIface]) ∧ Off p.S W w' ∧ AtP w' p st2) :
    Calls Tryd.prog 27 #[.pointer (some ⟨p.gp, 0, none⟩)] w fun e w' => e = .returned (.tuple #[.iface τ v, .nilIface]) ∧ Off p.S w w' ∧ AtP w' p st2 := by
  have HSC := pscan_any w p st h
  rw [hn] at HSC
  have HSC := Aside0.mk HSC
  have HB := Aside0.mk hB
  obtain ⟨gp, hg⟩ : ∃ gp, p.gp = gp := ⟨_, rfl⟩
  rw [hg] at HSC HB ⊢
  clear h hn hB hg
  go_enter Tryd.func27, Tryd.ntmps27
  go_wp2_with fail
  refine HSC.out.mono ?_
  rintro e w2 ⟨rfl, ho2, hat2⟩
  have HO2 := Aside0.mk ho2
  have HAT2 := Aside0.mk hat2
  clear ho2 hat2 HSC
  go_wp2_with fail
  refine (HB.out _ HAT2.out).mono ?_
  rintro e w3 ⟨rfl, ho3, hat3⟩
  have HO3 := Aside0.mk (HO2.out.trans ho3)
  have HAT3 := Aside0.mk hat3
  clear ho3 hat3 HB
  go_wp2_with fail
  go_ret2
  exact ⟨rfl, HO3.out, HAT3.out⟩
theorem parseCaret_bad (w : World) (p : Pa) (st : St) (s1 : List UInt8) (h : AtP w p st) (hn : st.next = ⟨12, s1⟩)
    (hB : ∀ W, AtP W p st.step → Calls Tryd.prog 38 #[.pointer (some ⟨p.gp, 0, none⟩)] W fun e w' => (∃ τ u, e = .returned (.tuple #[.nilIface, .iface τ u])) ∧ Off p.S W w') :
    Calls Tryd.prog 27 #[.pointer (some ⟨p.gp, 0, none⟩)] w fun e w' => (∃ τ u, e = .returned (.tuple #[.nilIface, .iface τ u])) ∧ Off p.S w w' := by
  have HSC := pscan_any w p st h
  rw [hn] at HSC
  have HSC := Aside0.mk HSC
  have HB := Aside0.mk hB
  obtain ⟨gp, hg⟩ : ∃ gp, p.gp = gp := ⟨_, rfl⟩
  rw [hg] at HSC HB ⊢
  clear h hn hB hg
  go_enter Tryd.func27, Tryd.ntmps27
  go_wp2_with fail
  refine HSC.out.mono ?_
  rintro e w2 ⟨rfl, ho2, hat2⟩
  have HO2 := Aside0.mk ho2
  have HAT2 := Aside0.mk hat2
  clear ho2 hat2 HSC
  go_wp2_with fail
  refine (HB.out _ HAT2.out).mono ?_
  rintro e w3 ⟨⟨τ, u, rfl⟩, ho3⟩
  have HO3 := Aside0.mk (HO2.out.trans ho3)
  clear ho3 HB
  go_wp2_with fail
  go_ret2
  exact ⟨⟨_, _, rfl⟩, HO3.out⟩
end Go.Proofs.YtiibeefadgmicaaDoor.rev
