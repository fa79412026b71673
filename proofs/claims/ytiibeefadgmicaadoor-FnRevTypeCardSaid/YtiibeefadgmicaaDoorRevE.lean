/- Revisions: what is left to be read; filling; utf8.FullRune, utf8.DecodeRune at an ASCII byte; the tables that are read. -/
import Derived.Test.YtiibeefadgmicaaDoorRevD
namespace Go.Proofs.YtiibeefadgmicaaDoor.rev
open Go.RowKit Go.Proofs.YtiibeefadgmicaaDoorW.PrintWords Go.Proofs.YtiibeefadgmicaaDoorW.PrintLast Go.Proofs.YtiibeefadgmicaaDoorW.PrintMore Go.Proofs.YtiibeefadgmicaaDoor.PFnRevSteps
set_option linter.unusedVariables false
set_option linter.unusedSimpArgs false
set_option maxHeartbeats 2000000
set_option maxRecDepth 100000
/-- What unicode.properties says of a letter, a digit, a sign. -/
def pv (c : UInt8) : Int := if isL c = true then 192 else if isD c = true then 132 else if c = 126 ∨ c = 94 then 136 else 130
/-- What the listed variables hold, as far as it is read. -/
structure Tabs (w : World) (ea : Addr) : Prop where
  asc : ∀ c : Nat, c < 128 → w.cell? ⟨6, c, none⟩ = some (.int .u8 240)
  prop : ∀ c : UInt8, isA c = true ∨ isS c = true → w.cell? ⟨2, c.toNat, none⟩ = some (.int .u8 (pv c))
  eof : w.cell? ⟨0, 0, none⟩ = some (.iface 145 (.pointer (some ea)))
  sz : 16 ≤ w.heap.size
theorem Tabs.off {S : Nat → Prop} {w w' : World} {ea : Addr} (h : Tabs w ea) (ho : Off S w w') (hS : ∀ k, S k → 16 ≤ k) : Tabs w' ea :=
  have q : ∀ (g j : Nat) (v : Value), g < 16 → w.cell? ⟨g, j, none⟩ = some v → w'.cell? ⟨g, j, none⟩ = some v := fun g j v hg hv =>
    (cell_same g j (ho.block g (World.block_lt_of_cell? w _ hv) (fun hs => by have := hS g hs; omega))).trans hv
  ⟨fun c hc => q _ _ _ (by decide) (h.asc c hc), fun c hc => q _ _ _ (by decide) (h.prop c hc), q _ _ _ (by decide) h.eof, Nat.le_trans h.sz ho.size⟩
theorem Tabs.below {w w' : World} {ea : Addr} (h : Tabs w ea) (hb : Below w.heap.size w w') : Tabs w' ea :=
  h.off (S := fun _ => False) ⟨hb.os, hb.tape, hb.output, hb.size, fun k hk _ => hb.block k hk⟩ (fun k hk => hk.elim)
/-- The blocks of a reader. -/
structure Ad where
  gx : Nat
  gu : Nat
  gl : Nat
  gr : Nat
  gb : Nat
def Ad.S (d : Ad) : Nat → Prop := In [d.gu, d.gb, d.gl, d.gr]
structure Dis (d : Ad) : Prop where
  xu : d.gx ≠ d.gu
  xl : d.gx ≠ d.gl
  xr : d.gx ≠ d.gr
  xb : d.gx ≠ d.gb
  ul : d.gu ≠ d.gl
  ur : d.gu ≠ d.gr
  ub : d.gu ≠ d.gb
  lr : d.gl ≠ d.gr
  lb : d.gl ≠ d.gb
  rb : d.gr ≠ d.gb
  o : 16 ≤ d.gx ∧ 16 ≤ d.gu ∧ 16 ≤ d.gl ∧ 16 ≤ d.gr ∧ 16 ≤ d.gb
theorem Dis.S16 {d : Ad} (h : Dis d) : ∀ k, d.S k → 16 ≤ k := by
  intro k hk
  obtain ⟨h0, h1, h2, h3, h4⟩ := h.o
  simp only [Ad.S, In, List.mem_cons, List.not_mem_nil, or_false] at hk
  rcases hk with rfl | rfl | rfl | rfl <;> assumption
/-- Nothing has been read yet. -/
structure Fresh (w : World) (d : Ad) (l : List UInt8) : Prop where
  hr : ∃ lb lr : Int, w.heap[d.gr]? = some (.cells (rdC d.gl d.gb 0 0 .nilIface lb lr) 128 (0, 0))
  hb : ∃ cur : List Value, w.heap[d.gb]? = some (.cells cur.toArray 5 (0, 0)) ∧ cur.length = 4096
  hl : w.heap[d.gl]? = some (.cells (liC d.gu 131072) 126 (0, 0))
  hu : ∃ (c : Nat) (op : Int), w.heap[d.gu]? = some (.cells (buC (some ⟨d.gx, 0, none⟩) l.length c 0 op) 94 (0, 0)) ∧ l.length ≤ c
  x : ∀ (j : Nat) (v : Value), (bv l)[j]? = some v → w.cell? ⟨d.gx, j, none⟩ = some v
  pos : 0 < l.length
  max : l.length ≤ 4000
/-- What is left lies in the reader's own row, from place r on; the byte before may be read again. -/
structure Loaded (w : World) (d : Ad) (l : List UInt8) (r : Nat) (er : Value) (lr : Int) : Prop where
  hr : ∃ lb : Int, w.heap[d.gr]? = some (.cells (rdC d.gl d.gb r (r + l.length) er lb lr) 128 (0, 0))
  hb : ∃ cur : List Value, w.heap[d.gb]? = some (.cells cur.toArray 5 (0, 0)) ∧ cur.length = 4096 ∧ ∀ (j : Nat) (v : Value), (bv l)[j]? = some v → cur[r + j]? = some v
  hl : ∃ N : Int, 4096 ≤ N ∧ N ≤ 131072 ∧ w.heap[d.gl]? = some (.cells (liC d.gu N) 126 (0, 0))
  hu : ∃ (A : Option Addr) (n c off : Nat) (op : Int), w.heap[d.gu]? = some (.cells (buC A n c off op) 94 (0, 0)) ∧ n ≤ c ∧ n ≤ off
  max : r + l.length ≤ 4000
theorem Loaded.cell {w : World} {d : Ad} {c : UInt8} {l : List UInt8} {r : Nat} {er : Value} {lr : Int} (h : Loaded w d (c :: l) r er lr) : w.cell? ⟨d.gb, r, none⟩ = some (.int .u8 (c.toNat : Int)) := by
  obtain ⟨cur, h1, h2, h3⟩ := h.hb
  rw [blk_cell h1 r, List.getElem?_toArray]
  have := h3 0 _ (show (bv (c :: l))[0]? = some (.int .u8 (c.toNat : Int)) from rfl)
  simpa using this
/-- The first filling. -/
theorem fill_fresh (w : World) (d : Ad) (hD : Dis d) (l : List UInt8) (h : Fresh w d l) :
    Calls Tryd.prog 61 #[.pointer (some ⟨d.gr, 0, none⟩)] w fun e w' => e = .returned (.tuple #[]) ∧ Off d.S w w' ∧ ∃ lr, Loaded w' d l 0 .nilIface lr := by
  obtain ⟨lb, lr, hr⟩ := h.hr
  obtain ⟨cur, hb, hcur⟩ := h.hb
  obtain ⟨c, op, hu, hc⟩ := h.hu
  have hl := h.hl
  have hp := h.pos
  have hm := h.max
  refine (fill_zero w d.gr d.gl d.gb d.gu l.length lb lr .nilIface (.inl ⟨rfl, hp⟩) (by omega) hr (Ne.symm hD.ur) hD.rb (Ne.symm hD.lr)
    (fun w' => w'.heap[d.gl]? = some (.cells (liC d.gu (131072 - (l.length : Int))) 126 (0, 0)) ∧ w'.heap[d.gb]? = some (.cells (splice cur 0 (bv l)).toArray 5 (0, 0)) ∧ w'.heap[d.gu]? = some (.cells (buC (some ⟨d.gx, 0, none⟩) l.length c l.length (-1)) 94 (0, 0)))
    (fun W hz hW => ?_)).mono ?_
  · refine (lim_any W d.gl d.gu d.gb 4096 131072 (l.length : Int) .nilIface (fun _ => True) (by decide) (by decide) (by decide) (by omega) (by omega) (.inl rfl) ((hW _ hD.lr).trans hl) (Ne.symm hD.ul) hD.lb (fun w' => w'.heap[d.gb]? = some (.cells (splice cur 0 (bv l)).toArray 5 (0, 0)) ∧ w'.heap[d.gu]? = some (.cells (buC (some ⟨d.gx, 0, none⟩) l.length c l.length (-1)) 94 (0, 0)))
      (bufRead_full W d.gu d.gb d.gx c l op cur 5 hp (by omega) hc hcur hD.ub ((hW _ hD.ur).trans hu) (fun j v hj => (cell_same d.gx j (hW _ hD.xr)).trans (h.x j v hj)) hD.xu ((hW _ (Ne.symm hD.rb)).trans hb))).mono ?_
    rintro e w' ⟨he, ho, w2, ⟨h1, h2⟩, h3, h4⟩
    exact ⟨he, ho, h4, (h3 _ (Ne.symm hD.lb)).trans h1, (h3 _ hD.ul).trans h2⟩
  · rintro e w' ⟨he, ho, hr', w2, ⟨h1, h2, h3⟩, h4⟩
    refine ⟨he, ho, lr, ⟨lb, by rw [Nat.zero_add]; exact hr'⟩, ⟨_, (h4 _ (Ne.symm hD.rb)).trans h2, ?_, fun j v hj => ?_⟩, ⟨_, by omega, by omega, (h4 _ hD.lr).trans h1⟩, ⟨_, _, c, _, _, (h4 _ hD.ur).trans h3, hc, Nat.le_refl _⟩, by omega⟩
    · rw [length_splice _ _ _ (by rw [bv_len]; omega)]; exact hcur
    · have hlt := (List.getElem?_eq_some_iff.1 hj).1
      rw [Nat.zero_add]
      unfold splice
      rw [List.take_zero, List.nil_append, List.getElem?_append_left hlt]
      exact hj
/-- Filling where all has been read. -/
theorem fill_ended (w : World) (d : Ad) (hD : Dis d) (r : Nat) (lr : Int) (ea : Addr) (h : Loaded w d [] r .nilIface lr) (hT : Tabs w ea) :
    Calls Tryd.prog 61 #[.pointer (some ⟨d.gr, 0, none⟩)] w fun e w' => e = .returned (.tuple #[]) ∧ Off d.S w w' ∧ Loaded w' d [] 0 (.iface 145 (.pointer (some ea))) lr := by
  obtain ⟨lb, hr⟩ := h.hr
  obtain ⟨cur, hb, hcur, _⟩ := h.hb
  obtain ⟨N, hN0, hN1, hl⟩ := h.hl
  obtain ⟨A, n, c, off, op, hu, hn, ho⟩ := h.hu
  have hm := h.max
  rw [List.length_nil, Nat.add_zero] at hr hm
  have hE := hT.eof
  have hg : 0 ≠ d.gu := by have := hD.o; show (0 : Nat) ≠ d.gu; omega
  have Q : World → Prop := fun w' => w'.heap[d.gl]? = some (.cells (liC d.gu N) 126 (0, 0)) ∧ w'.heap[d.gb]? = w.heap[d.gb]? ∧ ∃ A n c off op, w'.heap[d.gu]? = some (.cells (buC A n c off op) 94 (0, 0)) ∧ n ≤ c ∧ n ≤ off
  have hR : ∀ W : World, W.heap.size = w.heap.size → (∀ j, j ≠ d.gr → W.heap[j]? = w.heap[j]?) → Calls Tryd.prog 111 #[.pointer (some ⟨d.gl, 0, none⟩), .slice (some ⟨d.gb, 0, none⟩) 4096 4096] W fun e w' => e = .returned (.tuple #[.int .i64 ((0 : Nat) : Int), .iface 145 (.pointer (some ea))]) ∧ Off (In [d.gu, d.gb, d.gl]) W w' ∧ (w'.heap[d.gl]? = some (.cells (liC d.gu N) 126 (0, 0)) ∧ w'.heap[d.gb]? = w.heap[d.gb]? ∧ ∃ A n c off op, w'.heap[d.gu]? = some (.cells (buC A n c off op) 94 (0, 0)) ∧ n ≤ c ∧ n ≤ off) := fun W hz hW => by
    have hbr := bufRead_end W d.gu d.gb n c off 4096 4096 A op _ hn ho (by decide) ((hW _ hD.ur).trans hu) ((cell_same _ 0 (hW _ (by have := hD.o; show (0 : Nat) ≠ d.gr; omega))).trans hE) hg
    refine (lim_any W d.gl d.gu d.gb 4096 N 0 (.iface 145 (.pointer (some ea))) (fun _ => True) hN0 hN1 (by decide) (by decide) (by decide) (.inr ⟨_, _, rfl⟩) ((hW _ hD.lr).trans hl) (Ne.symm hD.ul) hD.lb (fun w' => w'.heap[d.gb]? = w.heap[d.gb]? ∧ w'.heap[d.gu]? = some (.cells (buC A 0 c 0 0) 94 (0, 0)))
      (hbr.mono fun e w' ⟨h1, h2, h3⟩ => ⟨h1, h2.mono (fun k hk => by simp only [In, List.mem_cons, List.not_mem_nil, or_false] at hk ⊢; exact .inl hk), (h2.block _ (by rw [hz]; exact blk_lt hb) (by simp [In]; exact Ne.symm hD.ub)).trans (hW _ (Ne.symm hD.rb)), h3⟩)).mono ?_
    rintro e w' ⟨he, ho', w2, ⟨h1, h2⟩, h3, h4⟩
    exact ⟨he, ho', by rw [h4, Int.sub_zero], (h3 _ (Ne.symm hD.lb)).trans h1, ⟨A, 0, c, 0, 0, (h3 _ hD.ul).trans h2, Nat.zero_le _, Nat.le_refl _⟩⟩
  have fin : ∀ (e : Ending) (w' : World), (e = .returned (.tuple #[]) ∧ Off (In [d.gu, d.gb, d.gl, d.gr]) w w' ∧ w'.heap[d.gr]? = some (.cells (rdC d.gl d.gb 0 0 (.iface 145 (.pointer (some ea))) lb lr) 128 (0, 0)) ∧ ∃ w2 : World, (w2.heap[d.gl]? = some (.cells (liC d.gu N) 126 (0, 0)) ∧ w2.heap[d.gb]? = w.heap[d.gb]? ∧ ∃ A n c off op, w2.heap[d.gu]? = some (.cells (buC A n c off op) 94 (0, 0)) ∧ n ≤ c ∧ n ≤ off) ∧ ∀ j, j ≠ d.gr → w'.heap[j]? = w2.heap[j]?) → e = .returned (.tuple #[]) ∧ Off d.S w w' ∧ Loaded w' d [] 0 (.iface 145 (.pointer (some ea))) lr := by
    rintro e w' ⟨he, ho', hr', w2, ⟨h1, h2, A', n', c', off', op', h3, h5, h6⟩, h4⟩
    exact ⟨he, ho', ⟨lb, hr'⟩, ⟨cur, ((h4 _ (Ne.symm hD.rb)).trans h2).trans hb, hcur, fun j v hj => by cases hj⟩, ⟨N, hN0, hN1, (h4 _ hD.lr).trans h1⟩, ⟨A', n', c', off', op', (h4 _ hD.ur).trans h3, h5, h6⟩, by decide⟩
  by_cases h0 : r = 0
  · subst h0
    exact (fill_zero w d.gr d.gl d.gb d.gu 0 lb lr _ (.inr ⟨rfl, _, _, rfl⟩) (by decide) hr (Ne.symm hD.ur) hD.rb (Ne.symm hD.lr) _ hR).mono fin
  · exact (fill_slide w d.gr d.gl d.gb d.gu 0 r 5 cur lb lr _ (.inr ⟨rfl, _, _, rfl⟩) (by decide) (by omega) hm hb hcur hr (Ne.symm hD.ur) hD.rb (Ne.symm hD.lr) _ hR).mono fin
theorem fullRune_any (w : World) (ea : Addr) (hT : Tabs w ea) (g o n cap : Nat) (c : UInt8) (hc : c.toNat < 128) (hn : 0 < n) (hC : w.cell? ⟨g, o, none⟩ = some (.int .u8 (c.toNat : Int))) :
    Calls Tryd.prog 60 #[.slice (some ⟨g, o, none⟩) n cap] w fun e w' => e = .returned (.bool true) ∧ w' = w := by
  have h1 := hT.asc c.toNat hc
  obtain ⟨k, hk⟩ : ∃ k, c.toNat = k := ⟨_, rfl⟩
  rw [hk] at hC h1 hc
  have c0 : ((n : Int) == 0) = false := beq_eq_false_iff_ne.2 (by omega)
  have c1 : (n == 0) = false := beq_eq_false_iff_ne.2 (by omega)
  have b0 : (0 : Int) < (n : Int) := by omega
  have b1 : (0 : Int) ≤ (k : Int) := by omega
  have b2 : (k : Int) < 256 := by omega
  have b3 : k < 256 := by omega
  have e0 : bits BinOp.and IntKind.u8 240 7 = 0 := by decide
  have e1 : decide ((0 : Int) ≤ (n : Int)) = true := decide_eq_true (by omega)
  clear hk hT
  go_enter Tryd.func60, Tryd.ntmps60
  go_wp2
  go_ret
  exact ⟨rfl, rfl⟩
theorem fullRune_nil (w : World) (A : Option Addr) (cap : Nat) : Calls Tryd.prog 60 #[.slice A 0 cap] w fun e w' => e = .returned (.bool false) ∧ w' = w := by
  go_enter Tryd.func60, Tryd.ntmps60
  go_wp2
  go_ret
  exact ⟨rfl, rfl⟩
theorem decodeRune_any (w : World) (g o n cap : Nat) (c : UInt8) (hc : c.toNat < 128) (hn : 0 < n) (hC : w.cell? ⟨g, o, none⟩ = some (.int .u8 (c.toNat : Int))) :
    Calls Tryd.prog 63 #[.slice (some ⟨g, o, none⟩) n cap] w fun e w' => e = .returned (.tuple #[.int .i32 (c.toNat : Int), .int .i64 1]) ∧ w' = w := by
  obtain ⟨k, hk⟩ : ∃ k, c.toNat = k := ⟨_, rfl⟩
  rw [hk] at hC hc ⊢
  have c0 : decide ((0 : Int) < (n : Int)) = true := decide_eq_true (by omega)
  have c1 : decide (0 < n) = true := decide_eq_true hn
  have b0 : (0 : Int) < (n : Int) := by omega
  have c2 : decide ((k : Int) < 128) = true := decide_eq_true (by omega)
  have c3 : decide (k < 128) = true := decide_eq_true hc
  have e1 : IntKind.i32.wrap (k : Int) = (k : Int) := by rw [IntKind.wrap_i32]; omega
  clear hk
  go_enter Tryd.func63, Tryd.ntmps63
  go_wp2_with fail
  go_loopg [5, 8] 1 (fun kq v5 v8 w' => v8 = .int .i64 0 ∧ Aside0 (kq = 1) ∧ w = w')
  case atStart => exact ⟨rfl, ⟨rfl⟩, rfl⟩
  case round =>
    obtain ⟨rfl, HK, rfl⟩ := hrel
    cases gk with
    | zero => exact absurd HK.out (by omega)
    | succ k1 =>
      go_wp2_with fail
      go_ret2
      exact ⟨rfl, rfl⟩
end Go.Proofs.YtiibeefadgmicaaDoor.rev
