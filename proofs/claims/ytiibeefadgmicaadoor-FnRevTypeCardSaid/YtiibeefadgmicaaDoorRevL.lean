/- Revisions: the parser's state: scan, unscan. -/
import Derived.Test.YtiibeefadgmicaaDoorRevK
namespace Go.Proofs.YtiibeefadgmicaaDoor.rev
open Go.RowKit Go.Proofs.YtiibeefadgmicaaDoorW.PrintWords Go.Proofs.YtiibeefadgmicaaDoorW.PrintLast Go.Proofs.YtiibeefadgmicaaDoorW.PrintMore Go.Proofs.YtiibeefadgmicaaDoor.PFnRevSteps
set_option linter.unusedVariables false
set_option linter.unusedSimpArgs false
set_option maxHeartbeats 2000000
set_option maxRecDepth 100000
/-- The blocks of a parser, and the address of io.EOF. -/
structure Pa where
  d : Ad
  gs : Nat
  gp : Nat
  ea : Addr
def Pa.S (p : Pa) : Nat → Prop := In [p.d.gu, p.d.gb, p.d.gl, p.d.gr, p.gp]
theorem Pa.dS (p : Pa) : ∀ k, p.d.S k → p.S k := by
  intro k hk
  simp only [Ad.S, Pa.S, In, List.mem_cons, List.not_mem_nil, or_false] at hk ⊢
  rcases hk with h | h | h | h <;> simp [h]
/-- All blocks of the parser lie below a bound. -/
structure Pa.lt (p : Pa) (n : Nat) : Prop where
  d : Old p.d n
  s : p.gs < n
  p : p.gp < n
theorem Pa.lt.mono {p : Pa} {n m : Nat} (h : p.lt n) (hm : n ≤ m) : p.lt m := ⟨h.d.mono hm, Nat.lt_of_lt_of_le h.s hm, Nat.lt_of_lt_of_le h.p hm⟩
def paC (gs : Nat) (t : Int) (s : ByteArray) (u : Bool) : Array Value := #[.pointer (some ⟨gs, 0, none⟩), .int .i64 t, .string s, .bool u]
structure Sta (p : Pa) : Prop where
  dis : Dis p.d
  s : ¬ p.d.S p.gs
  np : ¬ p.d.S p.gp
  sp : p.gs ≠ p.gp
  x : p.d.gx ≠ p.gp
  o : 16 ≤ p.gp
/-- The parser's state. -/
structure AtP (w : World) (p : Pa) (st : St) : Prop where
  sta : Sta p
  lt : p.lt w.heap.size
  sc : w.heap[p.gs]? = some (.cells (scC p.d.gr) 107 (0, 0))
  pa : w.heap[p.gp]? = some (.cells (paC p.gs st.c.t (txt st.c.s) st.u) 89 (0, 0))
  rd : ∃ b, AtR w p.d st.l b
  tab : Tabs w p.ea
  good : Good st.l
  len : st.l.length ≤ 4000
theorem AtP.off {S : Nat → Prop} {w w' : World} {p : Pa} {st : St} (h : AtP w p st) (ho : Off S w w') {n : Nat} (hn : p.lt n) (h16 : 16 ≤ n) (hS : ∀ k, S k → n ≤ k) : AtP w' p st := by
  have no : ∀ k, k < n → ¬ S k := fun k hk hs => by have := hS k hs; omega
  obtain ⟨b, hb⟩ := h.rd
  exact ⟨h.sta, h.lt.mono ho.size, ho.blk h.sc (no _ hn.s), ho.blk h.pa (no _ hn.p), ⟨b, hb.off ho ⟨no _ hn.d.x, no _ hn.d.u, no _ hn.d.l, no _ hn.d.r, no _ hn.d.b⟩⟩, h.tab.off ho (fun k hk => Nat.le_trans h16 (hS k hk)), h.good, h.len⟩
theorem AtP.below {w w' : World} {p : Pa} {st : St} (h : AtP w p st) {n : Nat} (hb : Below n w w') (hn : p.lt n) (h16 : 16 ≤ n) : AtP w' p st :=
  h.off (S := fun k => n ≤ k) ⟨hb.os, hb.tape, hb.output, hb.size, fun k _ hk => hb.block k (Nat.lt_of_not_le hk)⟩ hn h16 (fun _ hk => hk)
theorem AtP.sz {w : World} {p : Pa} {st : St} (h : AtP w p st) : 16 ≤ w.heap.size := by
  have := h.sta.o
  have := h.lt.p
  omega
theorem AtP.new {w w' : World} {p : Pa} {st : St} (h : AtP w p st) (hb : Below w.heap.size w w') : AtP w' p st := h.below hb h.lt h.sz
theorem Pa.S_lt {p : Pa} {n : Nat} (h : p.lt n) : ∀ k, p.S k → k < n := by
  intro k hk
  simp only [Pa.S, In, List.mem_cons, List.not_mem_nil, or_false] at hk
  rcases hk with rfl | rfl | rfl | rfl | rfl
  · exact h.d.u
  · exact h.d.b
  · exact h.d.l
  · exact h.d.r
  · exact h.p
theorem Sta.no {p : Pa} (h : Sta p) : ¬ In [p.gp] p.d.gx ∧ ¬ In [p.gp] p.d.gu ∧ ¬ In [p.gp] p.d.gl ∧ ¬ In [p.gp] p.d.gr ∧ ¬ In [p.gp] p.d.gb := by
  have hp := h.np
  simp only [Ad.S, In, List.mem_cons, List.not_mem_nil, or_false, not_or] at hp ⊢
  exact ⟨h.x, Ne.symm hp.1, Ne.symm hp.2.2.1, Ne.symm hp.2.2.2, Ne.symm hp.2.1⟩
/-- A new state of the parser's own block. -/
theorem AtP.set {w w' : World} {p : Pa} {st st' : St} (h : AtP w p st) (ho : Off (In [p.gp]) w w') (hl : st'.l = st.l) (hp : w'.heap[p.gp]? = some (.cells (paC p.gs st'.c.t (txt st'.c.s) st'.u) 89 (0, 0))) : AtP w' p st' := by
  obtain ⟨b, hb⟩ := h.rd
  exact ⟨h.sta, h.lt.mono ho.size, ho.blk h.sc (by simp [In]; exact h.sta.sp), hp, ⟨b, by rw [hl]; exact hb.off ho h.sta.no⟩, h.tab.off ho (fun k hk => by simp only [In, List.mem_singleton] at hk; rw [hk]; exact h.sta.o), by rw [hl]; exact h.good, by rw [hl]; exact h.len⟩
theorem unscan_any (w : World) (p : Pa) (st : St) (h : AtP w p st) :
    Calls Tryd.prog 30 #[.pointer (some ⟨p.gp, 0, none⟩)] w fun e w' => e = .returned (.tuple #[]) ∧ Off p.S w w' ∧ AtP w' p st.back := by
  have H := Aside0.mk h
  obtain ⟨gp, hg⟩ : ∃ gp, p.gp = gp := ⟨_, rfl⟩
  have HG := Aside0.mk hg
  have hp := h.pa
  rw [hg] at hp ⊢
  have q3 := (blk_cell hp 3).trans (show _ = some (Value.bool st.u) from rfl)
  have f3 := blk_frozen hp 3
  have HP := Aside0.mk hp
  clear h hp hg
  go_enter Tryd.func30, Tryd.ntmps30
  go_wp2
  refine bodyPost_end (results_none rfl _ _ _) rfl ?_
  obtain rfl := HG.out
  exact ⟨rfl, (Off.refl _ w).cell (by simp [Pa.S, In]) 3 _, H.out.set ((Off.refl _ w).cell (by simp [In]) 3 _) rfl (blk_put HP.out 3 _ rfl)⟩
theorem pscan_any (w : World) (p : Pa) (st : St) (h : AtP w p st) :
    Calls Tryd.prog 24 #[.pointer (some ⟨p.gp, 0, none⟩)] w fun e w' => e = .returned (.tuple #[.int .i64 st.next.t, .string (txt st.next.s), .nilIface]) ∧ Off p.S w w' ∧ AtP w' p st.step := by
  obtain ⟨u, tk, l⟩ := st
  have H := Aside0.mk h
  obtain ⟨gp, hg⟩ : ∃ gp, p.gp = gp := ⟨_, rfl⟩
  have HG := Aside0.mk hg
  obtain ⟨gs, hgs⟩ : ∃ gs, p.gs = gs := ⟨_, rfl⟩
  have HGS := Aside0.mk hgs
  have hp := h.pa
  rw [hg, hgs] at hp
  rw [hg]
  cases u with
  | true =>
    have q1 := (blk_cell hp 1).trans (show _ = some (Value.int .i64 tk.t) from rfl)
    have q2 := (blk_cell hp 2).trans (show _ = some (Value.string (txt tk.s)) from rfl)
    have q3 := (blk_cell hp 3).trans (show _ = some (Value.bool true) from rfl)
    have f3 := blk_frozen hp 3
    have HP := Aside0.mk hp
    clear h hp hg hgs
    go_enter Tryd.func24, Tryd.ntmps24
    go_wp2_with fail
    have HP1 := Aside0.mk (blk_put HP.out 3 (.bool false) rfl)
    have HO1 := Aside0.mk ((Off.refl (In [p.gp]) w).cell (g := p.gp) (by simp [In]) 3 (.bool false))
    rw [HG.out] at HO1
    generalize w.setCell ⟨gp, 3, none⟩ (.bool false) = W1 at HP1 HO1
    clear q1 q2 q3 f3
    have q1 := (blk_cell HP1.out 1).trans (show _ = some (Value.int .i64 tk.t) from rfl)
    have q2 := (blk_cell HP1.out 2).trans (show _ = some (Value.string (txt tk.s)) from rfl)
    go_quiet (fail)
    go_wp2_with fail
    go_ret3
    obtain rfl := HG.out
    obtain rfl := HGS.out
    exact ⟨rfl, (HO1.out.mono (fun k hk => by simp only [In, List.mem_singleton] at hk; simp [Pa.S, In, hk])).drewN _, H.out.set (HO1.out.drewN _) rfl HP1.out⟩
  | false =>
    have HSC := Aside0.mk (show Calls Tryd.prog 35 #[.pointer (some ⟨p.gs, 0, none⟩)] w _ from by
      obtain ⟨b, hb⟩ := h.rd
      exact scan_any w p.d p.gs h.sta.dis p.ea l b h.good h.len h.lt.d h.tab hb h.sc h.sta.s)
    rw [hgs] at HSC
    have q0 := (blk_cell hp 0).trans (show _ = some (Value.pointer (some ⟨gs, 0, none⟩)) from rfl)
    have q3 := (blk_cell hp 3).trans (show _ = some (Value.bool false) from rfl)
    have HP := Aside0.mk hp
    have HX := Aside0.mk (show ¬ p.d.S gp by rw [← hg]; exact h.sta.np)
    clear h hp hg hgs
    go_enter Tryd.func24, Tryd.ntmps24
    go_wp2_with fail
    refine HSC.out.mono ?_
    rintro e w2 ⟨rfl, ho2, hat2⟩
    have HO2 := Aside0.mk ho2
    have HAT2 := Aside0.mk hat2
    have HP2 := Aside0.mk (ho2.blk HP.out HX.out)
    clear ho2 hat2 HSC q0 q3
    obtain ⟨t2, ht2⟩ : ∃ t2, (nx l).1.t = t2 := ⟨_, rfl⟩
    obtain ⟨s2, hs2⟩ : ∃ s2, txt (nx l).1.s = s2 := ⟨_, rfl⟩
    have HT2 := Aside0.mk ht2
    have HS2 := Aside0.mk hs2
    rw [ht2, hs2]
    clear ht2 hs2
    have q1 := (blk_cell HP2.out 1).trans (show _ = some (Value.int .i64 tk.t) from rfl)
    have q2 := (blk_cell HP2.out 2).trans (show _ = some (Value.string (txt tk.s)) from rfl)
    have f1 := blk_frozen HP2.out 1
    have f2 := blk_frozen HP2.out 2
    go_wp2_with fail
    go_ret3
    obtain rfl := HG.out
    obtain rfl := HGS.out
    have hst := H.out
    refine ⟨?_, ((HO2.out.mono p.dS).cell (by simp [Pa.S, In]) 1 _).cell (by simp [Pa.S, In]) 2 _, ?_⟩
    · rw [← HT2.out, ← HS2.out]
      rfl
    · have hno : ∀ k, ¬ p.d.S k → k ≠ p.gp → ((w2.setCell ⟨p.gp, 1, none⟩ (.int .i64 t2)).setCell ⟨p.gp, 2, none⟩ (.string s2)).heap[k]? = w2.heap[k]? := fun k _ hk => (Below.heap_setCell _ ⟨p.gp, 2, none⟩ _ k hk).trans (Below.heap_setCell _ ⟨p.gp, 1, none⟩ _ k hk)
      have hoff : Off (In [p.gp]) w2 ((w2.setCell ⟨p.gp, 1, none⟩ (.int .i64 t2)).setCell ⟨p.gp, 2, none⟩ (.string s2)) := ((Off.refl _ w2).cell (by simp [In]) 1 _).cell (by simp [In]) 2 _
      obtain ⟨b2, hb2⟩ := HAT2.out
      refine ⟨hst.sta, (hst.lt.mono HO2.out.size).mono hoff.size, hoff.blk (HO2.out.blk hst.sc hst.sta.s) (by simp [In]; exact hst.sta.sp), ?_, ⟨b2, hb2.off hoff hst.sta.no⟩, (hst.tab.off HO2.out hst.sta.dis.S16).off hoff (fun k hk => by simp only [In, List.mem_singleton] at hk; rw [hk]; exact hst.sta.o), good_nx hst.good, Nat.le_trans (nx_len l) hst.len⟩
      refine (blk_put (blk_put HP2.out 1 (.int .i64 t2) rfl) 2 (.string s2) rfl).trans ?_
      rw [← HT2.out, ← HS2.out]
      rfl
end Go.Proofs.YtiibeefadgmicaaDoor.rev
