/- Packet lines: Scan. -/
import Derived.Test.YtghcecngdhcjpaaDoorPktD
import Derived.Lib.SmallJoins
namespace Go.Proofs.YtghcecngdhcjpaaDoor.pkt
open Go.RowKit Go.Proofs.YtghcecngdhcjpaaDoorW.PrintWords Go.Proofs.YtghcecngdhcjpaaDoorW.PrintLast Go.Proofs.YtghcecngdhcjpaaDoorW.PrintMore Go.Proofs.YtghcecngdhcjpaaDoor.PFnSideBack
set_option linter.unusedVariables false
set_option linter.unusedSimpArgs false
set_option maxHeartbeats 2000000
set_option maxRecDepth 100000
/-- Nothing of what was there has changed but two blocks and a row. -/
structure Near3 (w w' : World) (g1 g2 : Nat) (row : Option Nat) : Prop where
  os : w'.os = w.os
  tape : w'.tape = w.tape
  output : w'.output = w.output
  size : w.heap.size ≤ w'.heap.size
  block : ∀ k, k < w.heap.size → k ≠ g1 → k ≠ g2 → some k ≠ row → w'.heap[k]? = w.heap[k]?
theorem Near.three {w w' : World} {gr gs : Nat} {row : Option Nat} (h : Near w w' gr (some gs)) : Near3 w w' gs gr row := ⟨h.os, h.tape, h.output, h.size, fun k hk h1 h2 _ => h.block k hk h2 (fun he => h1 (by injection he))⟩
theorem Near3.trans {w w1 w2 : World} {g1 g2 : Nat} {row : Option Nat} (h : Near3 w w1 g1 g2 row) (h2 : Near3 w1 w2 g1 g2 row) : Near3 w w2 g1 g2 row :=
  ⟨h2.os.trans h.os, h2.tape.trans h.tape, h2.output.trans h.output, Nat.le_trans h.size h2.size, fun k hk a b c => (h2.block k (Nat.lt_of_lt_of_le hk h.size) a b c).trans (h.block k hk a b c)⟩
theorem Near3.drew {w w' : World} {g1 g2 : Nat} {row : Option Nat} (h : Near3 w w' g1 g2 row) : Near3 w w'.drew g1 g2 row := ⟨h.os, h.tape, h.output, h.size, h.block⟩
theorem Near3.trans_own {w w1 w2 : World} {gs gr gp : Nat} {row : Option Nat} (h : Near3 w w1 gs gr row) (h2 : Near w1 w2 gr (some gp)) (ho : ∀ k, gp = k → row = some k ∨ w.heap.size ≤ k) : Near3 w w2 gs gr row :=
  ⟨h2.os.trans h.os, h2.tape.trans h.tape, h2.output.trans h.output, Nat.le_trans h.size h2.size, fun k hk a b c => (h2.block k (Nat.lt_of_lt_of_le hk h.size) b (fun he => by
    injection he with he
    rcases ho k he.symm with h3 | h3
    · exact c h3.symm
    · omega)).trans (h.block k hk a b c)⟩
theorem Near3.put {w w' : World} {g1 g2 : Nat} {row : Option Nat} (h : Near3 w w' g1 g2 row) (j : Nat) (u : Value) : Near3 w (w'.setCell ⟨g1, j, none⟩ u) g1 g2 row :=
  have hb : Below g1 w' (w'.setCell ⟨g1, j, none⟩ u) := (Below.refl g1 w').setCell (Nat.le_refl g1) u
  h.trans ⟨hb.os, hb.tape, hb.output, hb.size, fun k hk h1 _ _ => Below.heap_setCell w' ⟨g1, j, none⟩ u k h1⟩
theorem Near3.of_below {w w' : World} {g1 g2 : Nat} {row : Option Nat} (h : Below w.heap.size w w') : Near3 w w' g1 g2 row := ⟨h.os, h.tape, h.output, h.size, fun k hk _ _ _ => h.block k hk⟩
theorem Near3.below {w w' : World} {g1 g2 base : Nat} {row : Option Nat} (h : Near3 w w' g1 g2 row) (hs : base ≤ w.heap.size) (h1 : base ≤ g1) (h2 : base ≤ g2) (hr : ∀ k, row = some k → base ≤ k) : Below base w w' :=
  ⟨h.os, h.tape, h.output, h.size, fun k hk => h.block k (by omega) (by omega) (by omega) (fun he => by have := hr k he.symm; omega)⟩
theorem errPrefix_any (w : World) : Calls Tryd.prog 58 #[] w fun e w' => ∃ A c, e = .returned (.slice A 4 c) ∧ 4 ≤ c ∧ (Kd.int .u8).C w' A ([69, 82, 82, 32] : List Int).length [69, 82, 82, 32] ∧ Below w.heap.size w w' := by
  have hcv := Joins.run_convert_bytes_const_at (P := Tryd.prog) w 25 5 #[.int .u8 69, .int .u8 82, .int .u8 82, .int .u8 32] 4 4 w.heap.size rfl Tryd.underlying25 Tryd.underlying5
  go_enter Tryd.func58, Tryd.ntmps58
  go_wp2_with fail
  go_ret
  refine ⟨some ⟨w.heap.size, 0, none⟩, 4, rfl, by omega, ?_, ((Below.refl w.heap.size w).alloc (Nat.le_refl _) _)⟩
  refine ⟨rfl, by decide, fun _ => ⟨_, rfl, fun j p hp => ⟨[.int .u8 p], rfl, rfl, fun m u hu => ?_⟩⟩⟩
  rw [Addr.add_mid]
  match m, hu with
  | 0, hu =>
    cases hu
    match j, hp with
    | 0, hp => cases hp; exact World.cell?_alloc_mark w _ _ _ 0
    | 1, hp => cases hp; exact World.cell?_alloc_mark w _ _ _ 1
    | 2, hp => cases hp; exact World.cell?_alloc_mark w _ _ _ 2
    | 3, hp => cases hp; exact World.cell?_alloc_mark w _ _ _ 3
/-- The payload's row: none, or one of its own. -/
def PayOk (w : World) (base : Nat) (pv : Value) : Prop := pv = .slice none 0 0 ∨ ∃ (gp n cp : Nat) (cur : List Value), pv = .slice (some ⟨gp, 0, none⟩) n cp ∧ w.heap[gp]? = some (.cells cur.toArray 5 (0, 0)) ∧ cur.length = cp ∧ n ≤ cp ∧ base ≤ gp
/-- A line of an error, for which the text is trimmed. -/
def errAt (bs : List Int) : Prop := ∃ n, hex4 (bs.take 4) = some n ∧ ¬ n = 0 ∧ ¬ (n ≤ 4 ∨ 65524 < n) ∧ ¬ (bs.drop 4).length < (n - 4).toNat ∧ isErr ((bs.drop 4).take (n - 4).toNat) = true
theorem isErr_four {p : List Int} (h : isErr p = true) : 4 ≤ p.length := by
  unfold isErr at h
  have := congrArg List.length (eq_of_beq h)
  rw [List.length_take] at this
  simp at this
  omega
def TrimOK (w0 : World) : Prop := ∀ (s : ByteArray) (W : World), s.size ≤ 100000 → Below w0.heap.size w0 W → Calls Tryd.prog 59 #[.string s] W fun e w' => ∃ r, e = .returned (.string r) ∧ Below W.heap.size W w'
/-- What Scan tells and leaves. -/
def ScanPost (w0 w : World) (gs gr : Nat) (A : Option Addr) (c : Nat) (xs : List Int) (i : Nat) (pv : Value) (st : Stp) (e : Ending) (w' : World) : Prop :=
  ∃ err' pv' l', Near3 w w' gs gr pv.ownBlock ∧ l'.length = 4 ∧ AtSc w' gs gr err' pv' l' ∧ PayOk w' w0.heap.size pv' ∧ (∀ k, pv'.ownBlock = some k → pv.ownBlock = some k ∨ w.heap.size ≤ k) ∧ Below w0.heap.size w0 w' ∧
  match st with
  | .done => e = .returned (.bool false) ∧ err' = .nilIface
  | .bad => e = .returned (.bool false) ∧ ∃ τ u, err' = .iface τ u
  | .line p r => e = .returned (.bool true) ∧ err' = .nilIface ∧ AtRd w' gr A xs.length c (i + 4 + p.length) ∧ ∃ A' cp, pv' = .slice A' p.length cp ∧ p.length ≤ cp ∧ (Kd.int .u8).C w' A' p.length p
theorem stp_eof {bs : List Int} (h : plen (bs.take 4) = .eof) : stp bs = .done := by
  unfold plen at h
  split at h
  · rename_i h0
    have : bs = [] := by
      match bs, h0 with
      | [], _ => rfl
    unfold stp
    rw [if_pos this]
  · split at h
    · cases h
    · split at h
      · cases h
      · split at h <;> cases h
theorem stp_inv {bs : List Int} (h : plen (bs.take 4) = .inv) : stp bs = .bad := by
  unfold plen at h
  split at h
  · cases h
  · rename_i h0
    have hb : ¬ bs = [] := fun he => h0 (by rw [he]; rfl)
    unfold stp
    rw [if_neg hb]
    cases hx : hex4 (bs.take 4) with
    | none => rfl
    | some n =>
      rw [hx] at h
      simp only at h ⊢
      by_cases hz : n = 0
      · rw [if_pos hz] at h; cases h
      · rw [if_neg hz] at h ⊢
        by_cases hb : n ≤ 4 ∨ 65524 < n
        · rw [if_pos hb]
        · rw [if_neg hb] at h; cases h
/-- A length was read. -/
theorem stp_len {bs : List Int} {m : Nat} (h : plen (bs.take 4) = .len m) : m ≤ 65520 ∧ 4 ≤ bs.length ∧ (m = 0 → stp bs = .line [] (bs.drop 4)) ∧ (0 < m → stp bs = (if (bs.drop 4).length < m then .bad else if isErr ((bs.drop 4).take m) = true then .bad else .line ((bs.drop 4).take m) ((bs.drop 4).drop m)) ∧ (¬ (bs.drop 4).length < m → isErr ((bs.drop 4).take m) = true → errAt bs)) := by
  unfold plen at h
  split at h
  · cases h
  · rename_i h0
    have hb : ¬ bs = [] := fun he => h0 (by rw [he]; rfl)
    cases hx : hex4 (bs.take 4) with
    | none => rw [hx] at h; cases h
    | some n =>
      rw [hx] at h
      obtain ⟨hn0, hn1, h4⟩ := hex4_range hx
      rw [List.length_take] at h4
      simp only at h
      by_cases hz : n = 0
      · rw [if_pos hz] at h
        cases h
        refine ⟨by omega, by omega, fun _ => ?_, fun h => by omega⟩
        unfold stp
        rw [if_neg hb, hx]
        simp only [if_pos hz]
      · rw [if_neg hz] at h
        by_cases hb4 : n ≤ 4 ∨ 65524 < n
        · rw [if_pos hb4] at h; cases h
        · rw [if_neg hb4] at h
          cases h
          refine ⟨by omega, by omega, fun h => by omega, fun _ => ⟨?_, fun h1 h2 => ⟨n, hx, hz, hb4, h1, h2⟩⟩⟩
          unfold stp
          rw [if_neg hb, hx]
          simp only [if_neg hz, if_neg hb4]
theorem sc_put1 {w : World} {gs gr : Nat} {err pv u : Value} {l : List Int} (h : AtSc w gs gr err pv l) : AtSc (w.setCell ⟨gs, 1, none⟩ u) gs gr u pv l := blk_put h 1 u (by simp [scL])
theorem sc_put2 {w : World} {gs gr : Nat} {err pv u : Value} {l : List Int} (h : AtSc w gs gr err pv l) : AtSc (w.setCell ⟨gs, 2, none⟩ u) gs gr err u l := blk_put h 2 u (by simp [scL])
theorem PayOk.far {w w' : World} {base : Nat} {pv : Value} (h : PayOk w base pv) (hb : ∀ k, pv.ownBlock = some k → k < w.heap.size → w'.heap[k]? = w.heap[k]?) : PayOk w' base pv := by
  rcases h with h | ⟨gp, n, cp, cur, rfl, hg, hc, hn, hbs⟩
  · exact .inl h
  · exact .inr ⟨gp, n, cp, cur, rfl, (hb gp rfl (blk_lt hg)).trans hg, hc, hn, hbs⟩
theorem PayOk.ne {w : World} {base gs : Nat} {pv : Value} {cs : Array Value} {t : TypeId} (h : PayOk w base pv) (hg : w.heap[gs]? = some (.cells cs t (0, 0))) (ht : 5 ≠ t) : ∀ k, pv.ownBlock = some k → k ≠ gs := by
  rintro k hk rfl
  rcases h with rfl | ⟨gp, n, cp, cur, rfl, hg', _⟩
  · cases hk
  · injection hk with hk
    subst hk
    have e := hg'.symm.trans hg
    injection e with e
    injection e with _ e _
    exact ht e
theorem num_inj : ∀ {a b : List Int}, (∀ x ∈ a, 0 ≤ x ∧ x < 256) → (∀ x ∈ b, 0 ≤ x ∧ x < 256) → a.map (fun n => UInt8.ofNat n.toNat) = b.map (fun n => UInt8.ofNat n.toNat) → a = b
  | [], [], _, _, _ => rfl
  | [], _ :: _, _, _, h => by simp at h
  | _ :: _, [], _, _, h => by simp at h
  | x :: a, y :: b, ha, hb, h => by
    rw [List.map_cons, List.map_cons] at h
    injection h with h1 h2
    have e := congrArg UInt8.toNat h1
    rw [UInt8.toNat_ofNat', UInt8.toNat_ofNat'] at e
    have hx := ha x (by simp)
    have hy := hb y (by simp)
    rw [num_inj (fun z hz => ha z (by simp [hz])) (fun z hz => hb z (by simp [hz])) h2]
    congr 1
    omega
theorem strOf_eq {a b : List Int} (ha : ∀ x ∈ a, 0 ≤ x ∧ x < 256) (hb : ∀ x ∈ b, 0 ≤ x ∧ x < 256) : ((strOfNums a).toList == (strOfNums b).toList) = (a == b) := by
  rw [ByteArray.toList_eq, ByteArray.toList_eq, Bool.eq_iff_iff, beq_iff_eq, beq_iff_eq]
  exact ⟨fun h => num_inj ha hb (by simpa [strOfNums] using h), fun h => by rw [h]⟩
theorem hasPrefix_f {p : List Int} (hp : ∀ x ∈ p, 0 ≤ x ∧ x < 256) : bytes_HasPrefix.f p [69, 82, 82, 32] = some (isErr p) := by
  have hl : ([69, 82, 82, 32] : List Int).length = 4 := rfl
  have hr : ∀ x ∈ ([69, 82, 82, 32] : List Int), 0 ≤ x ∧ x < 256 := by
    intro x hx
    simp at hx
    omega
  unfold bytes_HasPrefix.f isErr
  by_cases h : 4 ≤ p.length
  · rw [if_pos (by rw [hl]; omega), if_pos (by rw [hl]; omega), if_pos (by rw [hl]; omega)]
    unfold bytes_Equal.f
    rw [Option.bind_some, hl]
    show some ((strOfNums (p.take 4)).toList == _) = _
    rw [strOf_eq (fun x hx => hp x (List.mem_of_mem_take hx)) hr]
  · rw [if_neg (by rw [hl]; omega)]
    congr 1
    symm
    rw [beq_eq_false_iff_ne]
    intro he
    have := congrArg List.length he
    rw [List.length_take, hl] at this
    omega
theorem step_store1 {P : Program} {ops : Array Oper} {o : Oper} {a : Act} {w : World} {K : Act → World → Prop} {Q : Exit → Act → World → Prop} {E : Prop} (hw : Region.wanted o (yielded ops a.tmps) = true) (ty : TypeId) (x y : Operand) (ho : o.op = .store ty x y) (hN : o.dst = none) (g k : Nat) (v old : Value) (hx : a.eval x = .pointer (some ⟨g, k, none⟩)) (hy : a.eval y = v)
    (hv : v = .nilIface ∨ ∃ τ u, v = .iface τ u) (hi : (P.info? ty).map (·.size) = some 1) (hc : w.cell? ⟨g, k, none⟩ = some old) (hf : w.frozen? ⟨g, k, none⟩ = false) (h : K a (w.setCell ⟨g, k, none⟩ v)) : if Region.wanted o (yielded ops a.tmps) = true then Oper.wp P o a w K Q else E := by
  rw [if_pos hw]
  obtain ⟨i, hq, hs⟩ := Option.map_eq_some_iff.1 hi
  have hrun : (execOp a.eval o).run P w = .ok .skip (w.setCell ⟨g, k, none⟩ v) := by
    unfold execOp
    simp only [ho, hx, hy]
    have hsz : (sizeOf ty).run P w = .ok 1 w := by simp [sizeOf, typeInfo, hq, hs]
    rcases hv with rfl | ⟨τ, u, rfl⟩
    · go_simp
    · go_simp
  unfold Oper.wp
  rw [hrun]
  show K (a.put o.dst undef) _
  rw [hN]
  exact h
theorem C_splice {w : World} {gp : Nat} {cur : List Value} {p : List Int} (h : w.heap[gp]? = some (.cells (splice cur 0 (bv p)).toArray 5 (0, 0))) (hl : p.length ≤ 9223372036854775807) : (Kd.int .u8).C w (some ⟨gp, 0, none⟩) p.length p := by
  refine ⟨rfl, hl, fun _ => ⟨_, rfl, fun j x hx => ⟨[.int .u8 x], rfl, rfl, fun m u hu => ?_⟩⟩⟩
  match m, hu with
  | 0, hu =>
    cases hu
    rw [Addr.add_mid]
    refine (blk_cell h _).trans ?_
    rw [← Array.getElem?_toList]
    show (splice cur 0 (bv p))[0 + (j * 1 + 0)]? = _
    have hj := (List.getElem?_eq_some_iff.1 hx).1
    rw [splice, List.take_zero, List.nil_append, List.getElem?_append_left (by rw [bv_len]; omega), bv, List.getElem?_map, show 0 + (j * 1 + 0) = j from by omega, hx]; rfl
theorem hasPrefix_any (p : List Int) (n : Nat) (hn : p.length = n) (hp : ∀ x ∈ p, 0 ≤ x ∧ x < 256) (pA : Option Addr) (cp : Nat) (hcp : n ≤ cp) (W : World) (AE : Option Addr) (cE : Nat) (hC : (Kd.int .u8).C W pA p.length p) (hE : (Kd.int .u8).C W AE ([69, 82, 82, 32] : List Int).length [69, 82, 82, 32]) (hcE : 4 ≤ cE) (b : Bool) (hb : isErr p = b) :
    Calls Tryd.prog 57 #[.slice pA n cp, .slice AE 4 cE] W fun e w' => e = .returned (.bool b) ∧ Drawn0 W w' := by
  subst hn
  subst hb
  exact bytes_HasPrefix.calls pA cp p AE cE [69, 82, 82, 32] _ W hC hcp hE hcE (hasPrefix_f hp)
theorem PayOk.form {w : World} {base : Nat} {pv : Value} (h : PayOk w base pv) : ∃ ap n0 cp, pv = .slice ap n0 cp := by
  rcases h with rfl | ⟨gp, n, cp, cur, rfl, _⟩
  · exact ⟨_, _, _, rfl⟩
  · exact ⟨_, _, _, rfl⟩
theorem PayOk.cut {w : World} {base : Nat} {ap : Option Addr} {n0 cp m : Nat} (h : PayOk w base (.slice ap n0 cp)) (hm : m ≤ cp) : PayOk w base (.slice ap m cp) := by
  rcases h with h | ⟨gp, n, cp', cur, h, hg, hc, hn, hb⟩
  · injection h with h1 h2 h3
    subst h1 h3
    obtain rfl : m = 0 := by omega
    exact .inl rfl
  · injection h with h1 h2 h3
    subst h1 h3
    exact .inr ⟨gp, m, cp, cur, rfl, hg, hc, hm, hb⟩
theorem scan_any (w0 w : World) (A : Option Addr) (c : Nat) (xs : List Int) (gs gr i : Nat) (err pv : Value) (l : List Int) (a1 a2 a3 : Addr) (hS : (Kd.int .u8).C w0 A xs.length xs) (hc : xs.length ≤ c) (hby : ∀ x ∈ xs, 0 ≤ x ∧ x < 256) (hB : Below w0.heap.size w0 w) (hR : AtRd w gr A xs.length c i) (hG : AtSc w gs gr err pv l) (hl : l.length = 4) (hne : gs ≠ gr) (hge : w0.heap.size ≤ gr) (hgs : w0.heap.size ≤ gs) (hi : i ≤ xs.length) (hx : xs.length ≤ 2147483647) (hE : Errs w0 a1 a2 a3) (hP : PayOk w w0.heap.size pv) (hT : errAt (xs.drop i) → TrimOK w0) :
    Calls Tryd.prog 35 #[.pointer (some ⟨gs, 0, none⟩)] w (ScanPost w0 w gs gr A c xs i pv (stp (xs.drop i))) := by
  have HPL := Aside0.mk (payloadLen_any w0 w A c xs gs gr i err pv l a1 a2 a3 hS hc hby hB hR hG hl hne hge hgs hi hx hE)
  have HPG := Aside0.mk (hP.ne hG (by decide))
  have HPR := Aside0.mk (show ∀ k, pv.ownBlock = some k → k ≠ gr from by obtain ⟨pr, h⟩ := hR; exact hP.ne h (by decide))
  have HB := Aside0.mk hB
  have HE := Aside0.mk hE
  have HS := Aside0.mk hS
  have HP := Aside0.mk hP
  have HT := Aside0.mk hT
  have HNE := Aside0.mk hne
  have HGE := Aside0.mk hge
  have HGS := Aside0.mk hgs
  have HBY := Aside0.mk hby
  unfold LenPost at HPL
  have HHX := Aside0.mk (show 0 < 1 from by omega)
  cases hpl : plen ((xs.drop i).take 4) with
  | eof =>
    rw [hpl] at HPL
    simp only [lenV] at HPL
    have HST := Aside0.mk (stp_eof hpl)
    obtain ⟨st, hst⟩ : ∃ st, stp (xs.drop i) = st := ⟨_, rfl⟩
    rw [hst] at HST ⊢
    have hst0 := HST.out
    subst hst0
    have hse := same_err a1
    clear hS hR hG hB hE hP hT hne hge hgs hby hpl hst
    go_enter Tryd.func35, Tryd.ntmps35
    go_wp2_with fail
    refine HPL.out.mono ?_
    rintro e w1 ⟨hn1, hr1, ⟨l1, hl1, hsc1⟩, rfl⟩
    have HN1 := Aside0.mk (hn1.three (row := pv.ownBlock))
    have HG1 := Aside0.mk hsc1
    have HL1 := Aside0.mk hl1
    have HB1 := Aside0.mk (HB.out.trans (hn1.below HB.out.size HGE.out (fun q hq => by injection hq with hq; rw [← hq]; exact HGS.out)))
    have HP1 := Aside0.mk (HP.out.far (w' := w1) (fun k hk hlt => hn1.block k hlt (HPR.out k hk) (fun he => HPG.out k hk (by injection he))))
    clear hn1 hr1 hl1 HPL
    have t1 := (blk_cell hsc1 1).trans (show _ = some err from rfl)
    have t1f := blk_frozen hsc1 1
    clear hsc1
    go_wp2_with fail
    have HG2 := Aside0.mk (show (w1.setCell ⟨gs, 1, none⟩ (.iface 179 (.pointer (some a1)))).drew.heap[gs]? = some (.cells (scL gr (.iface 179 (.pointer (some a1))) pv l1).toArray 126 (0, 0)) from blk_drew (sc_put1 HG1.out))
    have HN2 := Aside0.mk ((HN1.out.put 1 (.iface 179 (.pointer (some a1)))).drew)
    have HB2 := Aside0.mk (show Below w0.heap.size w0 (w1.setCell ⟨gs, 1, none⟩ (.iface 179 (.pointer (some a1)))).drew from below_drew1 (HB1.out.setCell (by exact HGS.out) _))
    have HE2 := Aside0.mk (HE.out.below HB2.out)
    have HP2 := Aside0.mk (HP1.out.far (w' := (w1.setCell ⟨gs, 1, none⟩ (.iface 179 (.pointer (some a1)))).drew) (fun k hk hlt => Below.heap_setCell w1 ⟨gs, 1, none⟩ _ k (HPG.out k hk)))
    generalize hW2 : w1.setCell ⟨gs, 1, none⟩ (.iface 179 (.pointer (some a1))) = W2
    rw [hW2] at HG2 HN2 HB2 HE2 HP2
    clear t1 t1f hW2 HN1 HG1 HB1 HP1
    refine start_ (n := 6) (S := fun w' => w'.cell? ⟨gs, 1, none⟩ = some (.iface 179 (.pointer (some a1))) ∧ w'.cell? ⟨0, 0, none⟩ = some (.iface 179 (.pointer (some a1)))) (ds := []) #[false, false, false, false, false, false] (by kernel_rfl) rfl rfl ⟨(blk_cell HG2.out 1).trans rfl, HE2.out.e1⟩ (fun hHeld => ?_)
    refine pure_ (i := 0) (N := some 12) (v := ?_) (a' := ?_) #[true, false, false, false, false, false] rfl rfl (by kernel_rfl) (fun _ _ _ h => h) (Or.inl ⟨by rfl, ?_⟩) ?_ ?_
    rotate_left
    · intro w'
      go_simp
      with_reducible rfl
    rotate_left
    · simp only [Act.put, List.setIfInBounds_toArray, List.set_cons_zero, List.set_cons_succ, i64_w, i32_w]
      rfl
    refine pure_ (i := 1) (N := some 13) (v := ?_) (a' := ?_) #[true, true, false, false, false, false] rfl rfl (by kernel_rfl) (fun _ _ _ h => h) (Or.inl ⟨by rfl, ?_⟩) ?_ ?_
    rotate_left
    · intro w'
      go_simp
      with_reducible rfl
    rotate_left
    · simp only [Act.put, List.setIfInBounds_toArray, List.set_cons_zero, List.set_cons_succ, i64_w, i32_w]
      rfl
    refine pure_ (i := 2) (N := some 14) (v := ?_) (a' := ?_) #[true, true, true, false, false, false] rfl rfl (by kernel_rfl) (fun _ _ _ h => h) (Or.inl ⟨by rfl, ?_⟩) ?_ ?_
    rotate_left
    · intro w'
      go_simp
      with_reducible rfl
    rotate_left
    · simp only [Act.put, List.setIfInBounds_toArray, List.set_cons_zero, List.set_cons_succ, i64_w, i32_w]
      rfl
    refine take_ (i := 3) (N := some 15) (v := ?_) (a' := ?_) #[true, true, true, true, false, false] rfl rfl (by kernel_rfl) (fun _ _ _ h => h) (Or.inl ⟨by rfl, ?_⟩) hHeld ?_ ?_
    rotate_left
    · rintro w' ⟨s0, s1⟩
      go_simp
      with_reducible rfl
    rotate_left
    · simp only [Act.put, List.setIfInBounds_toArray, List.set_cons_zero, List.set_cons_succ, i64_w, i32_w]
      rfl
    refine take_ (i := 4) (N := some 16) (v := ?_) (a' := ?_) #[true, true, true, true, true, false] rfl rfl (by kernel_rfl) (fun _ _ _ h => h) (Or.inl ⟨by rfl, ?_⟩) hHeld ?_ ?_
    rotate_left
    · rintro w' ⟨s0, s1⟩
      go_simp
      with_reducible rfl
    rotate_left
    · simp only [Act.put, List.setIfInBounds_toArray, List.set_cons_zero, List.set_cons_succ, i64_w, i32_w]
      rfl
    refine pure_ (i := 5) (N := some 17) (v := ?_) (a' := ?_) #[true, true, true, true, true, true] rfl rfl (by kernel_rfl) (fun _ _ _ h => h) (Or.inl ⟨by rfl, ?_⟩) ?_ ?_
    rotate_left
    · intro w'
      go_simp
      with_reducible rfl
    rotate_left
    · simp only [Act.put, List.setIfInBounds_toArray, List.set_cons_zero, List.set_cons_succ, i64_w, i32_w]
      rfl
    refine done_ (by kernel_rfl) ?_
    have t2 := (blk_cell HG2.out 1).trans (show _ = some (.iface 179 (.pointer (some a1))) from rfl)
    have t2f := blk_frozen HG2.out 1
    go_wp2_with fail
    go_ret
    exact ⟨_, pv, l1, HN2.out.put 1 _, HL1.out, sc_put1 HG2.out, HP2.out.far (fun k hk _ => Below.heap_setCell _ ⟨gs, 1, none⟩ _ k (HPG.out k hk)), fun k hk => .inl hk, HB2.out.setCell (by exact HGS.out) _, rfl, rfl⟩
  | inv =>
    rw [hpl] at HPL
    simp only [lenV] at HPL
    have HST := Aside0.mk (stp_inv hpl)
    obtain ⟨st, hst⟩ : ∃ st, stp (xs.drop i) = st := ⟨_, rfl⟩
    rw [hst] at HST ⊢
    have hst0 := HST.out
    subst hst0
    clear hS hR hG hB hE hP hT hne hge hgs hby hpl hst
    go_enter Tryd.func35, Tryd.ntmps35
    go_wp2_with fail
    refine HPL.out.mono ?_
    rintro e w1 ⟨hn1, hr1, ⟨l1, hl1, hsc1⟩, rfl⟩
    have HN1 := Aside0.mk (hn1.three (row := pv.ownBlock))
    have HG1 := Aside0.mk hsc1
    have HL1 := Aside0.mk hl1
    have HB1 := Aside0.mk (HB.out.trans (hn1.below HB.out.size HGE.out (fun q hq => by injection hq with hq; rw [← hq]; exact HGS.out)))
    have HP1 := Aside0.mk (HP.out.far (w' := w1) (fun k hk hlt => hn1.block k hlt (HPR.out k hk) (fun he => HPG.out k hk (by injection he))))
    clear hn1 hr1 hl1 HPL
    have t1 := (blk_cell hsc1 1).trans (show _ = some err from rfl)
    have t1f := blk_frozen hsc1 1
    clear hsc1
    go_wp2_with fail
    have HG2 := Aside0.mk (show (w1.setCell ⟨gs, 1, none⟩ (.iface 179 (.pointer (some a3)))).drew.heap[gs]? = some (.cells (scL gr (.iface 179 (.pointer (some a3))) pv l1).toArray 126 (0, 0)) from blk_drew (sc_put1 HG1.out))
    have HN2 := Aside0.mk ((HN1.out.put 1 (.iface 179 (.pointer (some a3)))).drew)
    have HB2 := Aside0.mk (show Below w0.heap.size w0 (w1.setCell ⟨gs, 1, none⟩ (.iface 179 (.pointer (some a3)))).drew from below_drew1 (HB1.out.setCell (by exact HGS.out) _))
    have HE2 := Aside0.mk (HE.out.below HB2.out)
    have HP2 := Aside0.mk (HP1.out.far (w' := (w1.setCell ⟨gs, 1, none⟩ (.iface 179 (.pointer (some a3)))).drew) (fun k hk hlt => Below.heap_setCell w1 ⟨gs, 1, none⟩ _ k (HPG.out k hk)))
    generalize hW2 : w1.setCell ⟨gs, 1, none⟩ (.iface 179 (.pointer (some a3))) = W2
    rw [hW2] at HG2 HN2 HB2 HE2 HP2
    clear t1 t1f hW2 HN1 HG1 HB1 HP1
    refine start_ (n := 6) (S := fun w' => w'.cell? ⟨gs, 1, none⟩ = some (.iface 179 (.pointer (some a3))) ∧ w'.cell? ⟨0, 0, none⟩ = some (.iface 179 (.pointer (some a1))) ∧ (binOp .eql 55 (.iface 179 (.pointer (some a3))) (.iface 179 (.pointer (some a1)))).run Tryd.prog w' = .ok (.bool false) w') (ds := []) #[false, false, false, false, false, false] (by kernel_rfl) rfl rfl ⟨(blk_cell HG2.out 1).trans rfl, HE2.out.e1, HE2.out.ne31⟩ (fun hHeld => ?_)
    refine pure_ (i := 0) (N := some 12) (v := ?_) (a' := ?_) #[true, false, false, false, false, false] rfl rfl (by kernel_rfl) (fun _ _ _ h => h) (Or.inl ⟨by rfl, ?_⟩) ?_ ?_
    rotate_left
    · intro w'
      go_simp
      with_reducible rfl
    rotate_left
    · simp only [Act.put, List.setIfInBounds_toArray, List.set_cons_zero, List.set_cons_succ, i64_w, i32_w]
      rfl
    refine pure_ (i := 1) (N := some 13) (v := ?_) (a' := ?_) #[true, true, false, false, false, false] rfl rfl (by kernel_rfl) (fun _ _ _ h => h) (Or.inl ⟨by rfl, ?_⟩) ?_ ?_
    rotate_left
    · intro w'
      go_simp
      with_reducible rfl
    rotate_left
    · simp only [Act.put, List.setIfInBounds_toArray, List.set_cons_zero, List.set_cons_succ, i64_w, i32_w]
      rfl
    refine pure_ (i := 2) (N := some 14) (v := ?_) (a' := ?_) #[true, true, true, false, false, false] rfl rfl (by kernel_rfl) (fun _ _ _ h => h) (Or.inl ⟨by rfl, ?_⟩) ?_ ?_
    rotate_left
    · intro w'
      go_simp
      with_reducible rfl
    rotate_left
    · simp only [Act.put, List.setIfInBounds_toArray, List.set_cons_zero, List.set_cons_succ, i64_w, i32_w]
      rfl
    refine take_ (i := 3) (N := some 15) (v := ?_) (a' := ?_) #[true, true, true, true, false, false] rfl rfl (by kernel_rfl) (fun _ _ _ h => h) (Or.inl ⟨by rfl, ?_⟩) hHeld ?_ ?_
    rotate_left
    · rintro w' ⟨s0, s1, s2⟩
      go_simp
      with_reducible rfl
    rotate_left
    · simp only [Act.put, List.setIfInBounds_toArray, List.set_cons_zero, List.set_cons_succ, i64_w, i32_w]
      rfl
    refine take_ (i := 4) (N := some 16) (v := ?_) (a' := ?_) #[true, true, true, true, true, false] rfl rfl (by kernel_rfl) (fun _ _ _ h => h) (Or.inl ⟨by rfl, ?_⟩) hHeld ?_ ?_
    rotate_left
    · rintro w' ⟨s0, s1, s2⟩
      go_simp
      with_reducible rfl
    rotate_left
    · simp only [Act.put, List.setIfInBounds_toArray, List.set_cons_zero, List.set_cons_succ, i64_w, i32_w]
      rfl
    refine take_ (i := 5) (N := some 17) (v := ?_) (a' := ?_) #[true, true, true, true, true, true] rfl rfl (by kernel_rfl) (fun _ _ _ h => h) (Or.inl ⟨by rfl, ?_⟩) hHeld ?_ ?_
    rotate_left
    · rintro w' ⟨s0, s1, s2⟩
      go_simp
      with_reducible rfl
    rotate_left
    · simp only [Act.put, List.setIfInBounds_toArray, List.set_cons_zero, List.set_cons_succ, i64_w, i32_w]
      rfl
    refine done_ (by kernel_rfl) ?_
    have t2 := (blk_cell HG2.out 1).trans (show _ = some (.iface 179 (.pointer (some a3))) from rfl)
    go_wp2_with fail
    go_ret
    exact ⟨_, pv, l1, HN2.out, HL1.out, HG2.out, HP2.out, fun k hk => .inl hk, HB2.out, rfl, _, _, rfl⟩
  | len n =>
    rw [hpl] at HPL
    simp only [lenV] at HPL
    obtain ⟨hn6, hb4, hz0, hpos⟩ := stp_len hpl
    have hly : ((xs.drop i).take 4).length = 4 := by rw [List.length_take]; omega
    rw [hly] at HPL
    have hi4 : i + 4 ≤ xs.length := by rw [List.length_drop] at hb4; omega
    have hnl : ∀ w : World, (binOp .eql 55 .nilIface (.iface 179 (.pointer (some a1)))).run Tryd.prog w = .ok (.bool false) w := fun w => run_eql_iface_nil_left w _ _ Tryd.underlying55
    obtain ⟨ap, n0, cp, hpv⟩ := hP.form
    subst hpv
    have HZ0 := Aside0.mk hz0
    have HPOS := Aside0.mk hpos
    have HI4 := Aside0.mk hi4
    obtain ⟨st, hst⟩ : ∃ st, stp (xs.drop i) = st := ⟨_, rfl⟩
    rw [hst] at HZ0 HPOS ⊢
    clear hS hR hG hB hE hP hT hne hge hgs hby hpl hst hb4 hz0 hpos hly
    go_enter Tryd.func35, Tryd.ntmps35
    go_wp2_with fail
    refine HPL.out.mono ?_
    rintro e w1 ⟨hn1, hr1, ⟨l1, hl1, hsc1⟩, rfl⟩
    have HN1 := Aside0.mk (hn1.three (row := (Value.slice ap n0 cp).ownBlock))
    have HG1 := Aside0.mk hsc1
    have HL1 := Aside0.mk hl1
    have HR1 := Aside0.mk hr1
    have HB1 := Aside0.mk (HB.out.trans (hn1.below HB.out.size HGE.out (fun q hq => by injection hq with hq; rw [← hq]; exact HGS.out)))
    have HP1 := Aside0.mk (HP.out.far (w' := w1) (fun k hk hlt => hn1.block k hlt (HPR.out k hk) (fun he => HPG.out k hk (by injection he))))
    clear hn1 hr1 hl1 HPL
    have t1 := (blk_cell hsc1 1).trans (show _ = some err from rfl)
    have t1f := blk_frozen hsc1 1
    clear hsc1
    go_wp2_with fail
    have HG2 := Aside0.mk (show (w1.setCell ⟨gs, 1, none⟩ .nilIface).drew.heap[gs]? = some (.cells (scL gr .nilIface (.slice ap n0 cp) l1).toArray 126 (0, 0)) from blk_drew (sc_put1 HG1.out))
    have HN2 := Aside0.mk ((HN1.out.put 1 .nilIface).drew)
    have HB2 := Aside0.mk (show Below w0.heap.size w0 (w1.setCell ⟨gs, 1, none⟩ .nilIface).drew from below_drew1 (HB1.out.setCell (by exact HGS.out) _))
    have HE2 := Aside0.mk (HE.out.below HB2.out)
    have HR2 := Aside0.mk (show AtRd (w1.setCell ⟨gs, 1, none⟩ .nilIface).drew gr A xs.length c (i + 4) from by obtain ⟨pr, h⟩ := HR1.out; exact ⟨pr, (Below.heap_setCell w1 ⟨gs, 1, none⟩ _ gr (Ne.symm HNE.out)).trans h⟩)
    have HP2 := Aside0.mk (HP1.out.far (w' := (w1.setCell ⟨gs, 1, none⟩ .nilIface).drew) (fun k hk hlt => Below.heap_setCell w1 ⟨gs, 1, none⟩ _ k (HPG.out k hk)))
    generalize hW2 : w1.setCell ⟨gs, 1, none⟩ .nilIface = W2
    rw [hW2] at HG2 HN2 HB2 HE2 HP2 HR2
    clear t1 t1f hW2 HN1 HG1 HB1 HP1 HR1
    refine start_ (n := 6) (S := fun w' => w'.cell? ⟨gs, 1, none⟩ = some .nilIface ∧ w'.cell? ⟨0, 0, none⟩ = some (.iface 179 (.pointer (some a1)))) (ds := []) #[false, false, false, false, false, false] (by kernel_rfl) rfl rfl ⟨(blk_cell HG2.out 1).trans rfl, HE2.out.e1⟩ (fun hHeld => ?_)
    refine pure_ (i := 0) (N := some 12) (v := ?_) (a' := ?_) #[true, false, false, false, false, false] rfl rfl (by kernel_rfl) (fun _ _ _ h => h) (Or.inl ⟨by rfl, ?_⟩) ?_ ?_
    rotate_left
    · intro w'
      go_simp
      with_reducible rfl
    rotate_left
    · simp only [Act.put, List.setIfInBounds_toArray, List.set_cons_zero, List.set_cons_succ, i64_w, i32_w]
      rfl
    refine pure_ (i := 1) (N := some 13) (v := ?_) (a' := ?_) #[true, true, false, false, false, false] rfl rfl (by kernel_rfl) (fun _ _ _ h => h) (Or.inl ⟨by rfl, ?_⟩) ?_ ?_
    rotate_left
    · intro w'
      go_simp
      with_reducible rfl
    rotate_left
    · simp only [Act.put, List.setIfInBounds_toArray, List.set_cons_zero, List.set_cons_succ, i64_w, i32_w]
      rfl
    refine pure_ (i := 2) (N := some 14) (v := ?_) (a' := ?_) #[true, true, true, false, false, false] rfl rfl (by kernel_rfl) (fun _ _ _ h => h) (Or.inl ⟨by rfl, ?_⟩) ?_ ?_
    rotate_left
    · intro w'
      go_simp
      with_reducible rfl
    rotate_left
    · simp only [Act.put, List.setIfInBounds_toArray, List.set_cons_zero, List.set_cons_succ, i64_w, i32_w]
      rfl
    refine take_ (i := 3) (N := some 15) (v := ?_) (a' := ?_) #[true, true, true, true, false, false] rfl rfl (by kernel_rfl) (fun _ _ _ h => h) (Or.inl ⟨by rfl, ?_⟩) hHeld ?_ ?_
    rotate_left
    · rintro w' ⟨s0, s1⟩
      go_simp
      with_reducible rfl
    rotate_left
    · simp only [Act.put, List.setIfInBounds_toArray, List.set_cons_zero, List.set_cons_succ, i64_w, i32_w]
      rfl
    refine take_ (i := 4) (N := some 16) (v := ?_) (a' := ?_) #[true, true, true, true, true, false] rfl rfl (by kernel_rfl) (fun _ _ _ h => h) (Or.inl ⟨by rfl, ?_⟩) hHeld ?_ ?_
    rotate_left
    · rintro w' ⟨s0, s1⟩
      go_simp
      with_reducible rfl
    rotate_left
    · simp only [Act.put, List.setIfInBounds_toArray, List.set_cons_zero, List.set_cons_succ, i64_w, i32_w]
      rfl
    refine pure_ (i := 5) (N := some 17) (v := ?_) (a' := ?_) #[true, true, true, true, true, true] rfl rfl (by kernel_rfl) (fun _ _ _ h => h) (Or.inl ⟨by rfl, ?_⟩) ?_ ?_
    rotate_left
    · intro w'
      go_simp
      with_reducible rfl
    rotate_left
    · simp only [Act.put, List.setIfInBounds_toArray, List.set_cons_zero, List.set_cons_succ, i64_w, i32_w]
      rfl
    refine done_ (by kernel_rfl) ?_
    have t2 := (blk_cell HG2.out 1).trans (show _ = some Value.nilIface from rfl)
    have t3 := (blk_cell HG2.out 2).trans (show _ = some (Value.slice ap n0 cp) from rfl)
    have t3f := blk_frozen HG2.out 2
    by_cases hz : n = 0
    · subst hz
      have hst0 := HZ0.out rfl
      subst hst0
      have c1 : decide ((cp : Int) < 0) = false := decide_eq_false (by omega)
      have c3 : ((0 : Nat) : Int) = 0 := rfl
      have HG9 := HG2
      clear t2 t3 t3f
      have t2 := (blk_cell HG9.out 1).trans (show _ = some Value.nilIface from rfl)
      have t3 := (blk_cell HG9.out 2).trans (show _ = some (Value.slice ap n0 cp) from rfl)
      have v1 : (0 : Int) ≤ (cp : Int) := by omega
      go_wp2_with fail
      refine start_ (n := 18) (S := fun w' => w'.cell? ⟨gs, 0, none⟩ = some (.iface 63 (.pointer (some ⟨gr, 0, none⟩))) ∧ w'.cell? ⟨gs, 2, none⟩ = some (.slice ap n0 cp)) (ds := [11, 17]) #[false, false, false, false, false, false, false, false, false, false, false, false, false, false, false, false, false, false] (by kernel_rfl) rfl rfl ⟨(blk_cell (blk_drew HG9.out) 0).trans rfl, (blk_cell (blk_drew HG9.out) 2).trans rfl⟩ (fun hHeld => ?_)
      refine pure_ (i := 0) (N := some 39) (v := ?_) (a' := ?_) #[true, false, false, false, false, false, false, false, false, false, false, false, false, false, false, false, false, false] rfl rfl (by kernel_rfl) (fun _ _ _ h => h) (Or.inl ⟨by rfl, ?_⟩) ?_ ?_
      rotate_left
      · intro w'
        go_simp
        with_reducible rfl
      rotate_left
      · simp only [Act.put, List.setIfInBounds_toArray, List.set_cons_zero, List.set_cons_succ, i64_w, i32_w]
        rfl
      refine pure_ (i := 1) (N := some 40) (v := ?_) (a' := ?_) #[true, true, false, false, false, false, false, false, false, false, false, false, false, false, false, false, false, false] rfl rfl (by kernel_rfl) (fun _ _ _ h => h) (Or.inl ⟨by rfl, ?_⟩) ?_ ?_
      rotate_left
      · intro w'
        go_simp
        with_reducible rfl
      rotate_left
      · simp only [Act.put, List.setIfInBounds_toArray, List.set_cons_zero, List.set_cons_succ, i64_w, i32_w]
        rfl
      refine pure_ (i := 2) (N := some 41) (v := ?_) (a' := ?_) #[true, true, true, false, false, false, false, false, false, false, false, false, false, false, false, false, false, false] rfl rfl (by kernel_rfl) (fun _ _ _ h => h) (Or.inl ⟨by rfl, ?_⟩) ?_ ?_
      rotate_left
      · intro w'
        go_simp
        with_reducible rfl
      rotate_left
      · simp only [Act.put, List.setIfInBounds_toArray, List.set_cons_zero, List.set_cons_succ, i64_w, i32_w]
        rfl
      refine pure_ (i := 3) (N := some 42) (v := ?_) (a' := ?_) #[true, true, true, true, false, false, false, false, false, false, false, false, false, false, false, false, false, false] rfl rfl (by kernel_rfl) (fun _ _ _ h => h) (Or.inl ⟨by rfl, ?_⟩) ?_ ?_
      rotate_left
      · intro w'
        go_simp
        with_reducible rfl
      rotate_left
      · simp only [Act.put, List.setIfInBounds_toArray, List.set_cons_zero, List.set_cons_succ, i64_w, i32_w]
        rfl
      refine pure_ (i := 5) (N := some 44) (v := ?_) (a' := ?_) #[true, true, true, true, false, true, false, false, false, false, false, false, false, false, false, false, false, false] rfl rfl (by kernel_rfl) (fun _ _ _ h => h) (Or.inl ⟨by rfl, ?_⟩) ?_ ?_
      rotate_left
      · intro w'
        go_simp
        with_reducible rfl
      rotate_left
      · simp only [Act.put, List.setIfInBounds_toArray, List.set_cons_zero, List.set_cons_succ, i64_w, i32_w]
        rfl
      refine pure_ (i := 6) (N := some 45) (v := ?_) (a' := ?_) #[true, true, true, true, false, true, true, false, false, false, false, false, false, false, false, false, false, false] rfl rfl (by kernel_rfl) (fun _ _ _ h => h) (Or.inl ⟨by rfl, ?_⟩) ?_ ?_
      rotate_left
      · intro w'
        go_simp
        with_reducible rfl
      rotate_left
      · simp only [Act.put, List.setIfInBounds_toArray, List.set_cons_zero, List.set_cons_succ, i64_w, i32_w]
        rfl
      refine pure_ (i := 7) (N := some 46) (v := ?_) (a' := ?_) #[true, true, true, true, false, true, true, true, false, false, false, false, false, false, false, false, false, false] rfl rfl (by kernel_rfl) (fun _ _ _ h => h) (Or.inl ⟨by rfl, ?_⟩) ?_ ?_
      rotate_left
      · intro w'
        go_simp
        with_reducible rfl
      rotate_left
      · simp only [Act.put, List.setIfInBounds_toArray, List.set_cons_zero, List.set_cons_succ, i64_w, i32_w]
        rfl
      refine pure_ (i := 9) (N := some 48) (v := ?_) (a' := ?_) #[true, true, true, true, false, true, true, true, false, true, false, false, false, false, false, false, false, false] rfl rfl (by kernel_rfl) (fun _ _ _ h => h) (Or.inl ⟨by rfl, ?_⟩) ?_ ?_
      rotate_left
      · intro w'
        go_simp
        with_reducible rfl
      rotate_left
      · simp only [Act.put, List.setIfInBounds_toArray, List.set_cons_zero, List.set_cons_succ, i64_w, i32_w]
        rfl
      refine take_ (i := 4) (N := some 43) (v := ?_) (a' := ?_) #[true, true, true, true, true, true, true, true, false, true, false, false, false, false, false, false, false, false] rfl rfl (by kernel_rfl) (fun _ _ _ h => h) (Or.inl ⟨by rfl, ?_⟩) hHeld ?_ ?_
      rotate_left
      · rintro w' ⟨s0, s1⟩
        go_simp
        with_reducible rfl
      rotate_left
      · simp only [Act.put, List.setIfInBounds_toArray, List.set_cons_zero, List.set_cons_succ, i64_w, i32_w]
        rfl
      refine take_ (i := 8) (N := some 47) (v := ?_) (a' := ?_) #[true, true, true, true, true, true, true, true, true, true, false, false, false, false, false, false, false, false] rfl rfl (by kernel_rfl) (fun _ _ _ h => h) (Or.inl ⟨by rfl, ?_⟩) hHeld ?_ ?_
      rotate_left
      · rintro w' ⟨s0, s1⟩
        go_simp
        with_reducible rfl
      rotate_left
      · simp only [Act.put, List.setIfInBounds_toArray, List.set_cons_zero, List.set_cons_succ, i64_w, i32_w]
        rfl
      refine pure_ (i := 10) (N := some 49) (v := ?_) (a' := ?_) #[true, true, true, true, true, true, true, true, true, true, true, false, false, false, false, false, false, false] rfl rfl (by kernel_rfl) (fun _ _ _ h => h) (Or.inl ⟨by rfl, ?_⟩) ?_ ?_
      rotate_left
      · intro w'
        go_simp
        with_reducible rfl
      rotate_left
      · simp only [Act.put, List.setIfInBounds_toArray, List.set_cons_zero, List.set_cons_succ, i64_w, i32_w]
        rfl
      refine last_ (i := 11) (N := some 50) #[true, true, true, true, true, true, true, true, true, true, true, true, false, false, false, false, false, false] rfl rfl (by kernel_rfl) (by decide) (fun K hK => ?_)
      refine goes_ Tryd.func56 (by kernel_rfl) rfl #[.iface 63 (.pointer (some ⟨gr, 0, none⟩)), .slice ap 0 cp] (by rfl) rfl rfl (by simp only [List.map_toArray, List.map_cons, List.map_nil]; rfl) ?_
      with_reducible refine (readFull0_any _ _ _ _).mono ?_
      rintro e wA ⟨rfl, rfl⟩
      refine ⟨_, rfl, ?_⟩
      have s1 := (blk_cell (blk_drew HG9.out) 1).trans (show _ = some Value.nilIface from rfl)
      have s1f := blk_frozen (blk_drew HG9.out) 1
      refine hK.out _ _ ?_
      clear hK K
      refine norm_ (a' := ?_) ?_ ?_
      rotate_left
      · show Act.put _ (some 50) _ = _
        simp only [Act.put, List.setIfInBounds_toArray, List.set_cons_zero, List.set_cons_succ, i64_w, i32_w]
        rfl
      refine pure_ (i := 12) (N := some 38) (v := ?_) (a' := ?_) #[true, true, true, true, true, true, true, true, true, true, true, true, true, false, false, false, false, false] rfl rfl (by kernel_rfl) (fun _ _ _ h => h) (Or.inl ⟨by rfl, ?_⟩) ?_ ?_
      rotate_left
      · intro w'
        go_simp
        with_reducible rfl
      rotate_left
      · simp only [Act.put, List.setIfInBounds_toArray, List.set_cons_zero, List.set_cons_succ, i64_w, i32_w]
        rfl
      refine pure_ (i := 13) (N := some 51) (v := ?_) (a' := ?_) #[true, true, true, true, true, true, true, true, true, true, true, true, true, true, false, false, false, false] rfl rfl (by kernel_rfl) (fun _ _ _ h => h) (Or.inl ⟨by rfl, ?_⟩) ?_ ?_
      rotate_left
      · intro w'
        go_simp
        with_reducible rfl
      rotate_left
      · simp only [Act.put, List.setIfInBounds_toArray, List.set_cons_zero, List.set_cons_succ, i64_w, i32_w]
        rfl
      refine pure_ (i := 14) (N := some 52) (v := ?_) (a' := ?_) #[true, true, true, true, true, true, true, true, true, true, true, true, true, true, true, false, false, false] rfl rfl (by kernel_rfl) (fun _ _ _ h => h) (Or.inl ⟨by rfl, ?_⟩) ?_ ?_
      rotate_left
      · intro w'
        go_simp
        with_reducible rfl
      rotate_left
      · simp only [Act.put, List.setIfInBounds_toArray, List.set_cons_zero, List.set_cons_succ, i64_w, i32_w]
        rfl
      refine pure_ (i := 15) (N := some 53) (v := ?_) (a' := ?_) #[true, true, true, true, true, true, true, true, true, true, true, true, true, true, true, true, false, false] rfl rfl (by kernel_rfl) (fun _ _ _ h => h) (Or.inl ⟨by rfl, ?_⟩) ?_ ?_
      rotate_left
      · intro w'
        go_simp
        with_reducible rfl
      rotate_left
      · simp only [Act.put, List.setIfInBounds_toArray, List.set_cons_zero, List.set_cons_succ, i64_w, i32_w]
        rfl
      refine pure_ (i := 16) (N := some 54) (v := ?_) (a' := ?_) #[true, true, true, true, true, true, true, true, true, true, true, true, true, true, true, true, true, false] rfl rfl (by kernel_rfl) (fun _ _ _ h => h) (Or.inl ⟨by rfl, ?_⟩) ?_ ?_
      rotate_left
      · intro w'
        go_simp
        with_reducible rfl
      rotate_left
      · simp only [Act.put, List.setIfInBounds_toArray, List.set_cons_zero, List.set_cons_succ, i64_w, i32_w]
        rfl
      refine last_ (i := 17) (N := none) #[true, true, true, true, true, true, true, true, true, true, true, true, true, true, true, true, true, true] rfl rfl (by kernel_rfl) (by decide) (fun K hK => ?_)
      refine skip_ (w1 := ?_) (by rfl) rfl ?_ ?_
      rotate_left
      · go_simp
        rfl
      refine hK.out _ _ ?_
      clear hK K
      refine done_ (by kernel_rfl) ?_
      have HG10 := Aside0.mk (show (W2.setCell ⟨gs, 1, none⟩ .nilIface).drew.drew.heap[gs]? = some (.cells (scL gr .nilIface (.slice ap n0 cp) l1).toArray 126 (0, 0)) from sc_put1 (show AtSc W2 gs gr .nilIface (.slice ap n0 cp) l1 from HG9.out))
      clear t2 t3 s1 s1f
      have u1 := (blk_cell HG10.out 1).trans (show _ = some Value.nilIface from rfl)
      have u2 := (blk_cell HG10.out 2).trans (show _ = some (Value.slice ap n0 cp) from rfl)
      have u2f := blk_frozen HG10.out 2
      have hcp : 0 ≤ cp := Nat.zero_le _
      obtain ⟨p, hp⟩ : ∃ p : List Int, p = [] := ⟨_, rfl⟩
      have hpn : p.length = 0 := by rw [hp]; rfl
      have hpr : ∀ x ∈ p, 0 ≤ x ∧ x < 256 := by rw [hp]; intro x hx; cases hx
      have hpb : isErr p = false := by rw [hp]; rfl
      have HPE0 := Aside0.mk hp
      have HG11 := Aside0.mk (show (((W2.setCell ⟨gs, 1, none⟩ .nilIface).setCell ⟨gs, 2, none⟩ (.slice ap 0 cp)).drew.drew).drew.heap[gs]? = some (.cells (scL gr .nilIface (.slice ap 0 cp) l1).toArray 126 (0, 0)) from sc_put2 (sc_put1 (show AtSc W2 gs gr .nilIface (.slice ap n0 cp) l1 from HG9.out)))
      have HN11 := Aside0.mk (show Near3 w (((W2.setCell ⟨gs, 1, none⟩ .nilIface).setCell ⟨gs, 2, none⟩ (.slice ap 0 cp)).drew.drew).drew gs gr _ from (((show Near3 w W2 gs gr (Value.slice ap n0 cp).ownBlock from ⟨HN2.out.os, HN2.out.tape, HN2.out.output, HN2.out.size, HN2.out.block⟩).put 1 .nilIface).put 2 (.slice ap 0 cp)).drew.drew.drew)
      have HB11 := Aside0.mk (show Below w0.heap.size w0 (((W2.setCell ⟨gs, 1, none⟩ .nilIface).setCell ⟨gs, 2, none⟩ (.slice ap 0 cp)).drew.drew).drew from below_drew1 (below_drew1 (below_drew1 (((show Below w0.heap.size w0 W2 from ⟨HB2.out.os, HB2.out.tape, HB2.out.output, HB2.out.size, HB2.out.block⟩).setCell (by exact HGS.out) _).setCell (by exact HGS.out) _))))
      have HR11 := Aside0.mk (show AtRd (((W2.setCell ⟨gs, 1, none⟩ .nilIface).setCell ⟨gs, 2, none⟩ (.slice ap 0 cp)).drew.drew).drew gr A xs.length c (i + 4) from by obtain ⟨pr, h⟩ := HR2.out; exact ⟨pr, (Below.heap_setCell _ ⟨gs, 2, none⟩ _ gr (Ne.symm HNE.out)).trans ((Below.heap_setCell _ ⟨gs, 1, none⟩ _ gr (Ne.symm HNE.out)).trans h)⟩)
      have HP11 := Aside0.mk ((HP2.out.far (w' := (((W2.setCell ⟨gs, 1, none⟩ .nilIface).setCell ⟨gs, 2, none⟩ (.slice ap 0 cp)).drew.drew).drew) (fun k hk hlt => (Below.heap_setCell _ ⟨gs, 2, none⟩ _ k (HPG.out k hk)).trans (Below.heap_setCell _ ⟨gs, 1, none⟩ _ k (HPG.out k hk)))).cut hcp)
      have HC11 := Aside0.mk (show (Kd.int .u8).C (((W2.setCell ⟨gs, 1, none⟩ .nilIface).setCell ⟨gs, 2, none⟩ (.slice ap 0 cp)).drew.drew).drew ap p.length p from by rw [hp]; exact ⟨rfl, by decide, fun h => absurd h (by decide)⟩)
      clear hp
      go_wp2_with fail
      refine start_ (n := 6) (S := fun w' => w'.cell? ⟨gs, 2, none⟩ = some (.slice ap 0 cp)) (ds := [5]) #[false, false, false, false, false, false] (by kernel_rfl) rfl rfl ((blk_cell HG11.out 2).trans rfl) (fun hHeld => ?_)
      refine pure_ (i := 0) (N := some 69) (v := ?_) (a' := ?_) #[true, false, false, false, false, false] rfl rfl (by kernel_rfl) (fun _ _ _ h => h) (Or.inl ⟨by rfl, ?_⟩) ?_ ?_
      rotate_left
      · intro w'
        go_simp
        with_reducible rfl
      rotate_left
      · simp only [Act.put, List.setIfInBounds_toArray, List.set_cons_zero, List.set_cons_succ, i64_w, i32_w]
        rfl
      refine pure_ (i := 1) (N := some 70) (v := ?_) (a' := ?_) #[true, true, false, false, false, false] rfl rfl (by kernel_rfl) (fun _ _ _ h => h) (Or.inl ⟨by rfl, ?_⟩) ?_ ?_
      rotate_left
      · intro w'
        go_simp
        with_reducible rfl
      rotate_left
      · simp only [Act.put, List.setIfInBounds_toArray, List.set_cons_zero, List.set_cons_succ, i64_w, i32_w]
        rfl
      refine pure_ (i := 2) (N := some 71) (v := ?_) (a' := ?_) #[true, true, true, false, false, false] rfl rfl (by kernel_rfl) (fun _ _ _ h => h) (Or.inl ⟨by rfl, ?_⟩) ?_ ?_
      rotate_left
      · intro w'
        go_simp
        with_reducible rfl
      rotate_left
      · simp only [Act.put, List.setIfInBounds_toArray, List.set_cons_zero, List.set_cons_succ, i64_w, i32_w]
        rfl
      refine take_ (i := 3) (N := some 72) (v := ?_) (a' := ?_) #[true, true, true, true, false, false] rfl rfl (by kernel_rfl) (fun _ _ _ h => h) (Or.inl ⟨by rfl, ?_⟩) hHeld ?_ ?_
      rotate_left
      · intro w' s0
        go_simp
        with_reducible rfl
      rotate_left
      · simp only [Act.put, List.setIfInBounds_toArray, List.set_cons_zero, List.set_cons_succ, i64_w, i32_w]
        rfl
      refine one_ (i := 4) (N := some 73) #[true, true, true, true, true, false] rfl rfl (by kernel_rfl) (by decide) (fun K hK => ?_)
      refine goes_ Tryd.func58 (by kernel_rfl) rfl #[] (by rfl) rfl rfl (by first | rfl | simp) ?_
      with_reducible refine (errPrefix_any _).mono ?_
      rintro e wE ⟨AE, cE, rfl, hcE, hCE, hbE⟩
      refine ⟨_, rfl, ?_⟩
      have HGE := Aside0.mk ((hbE.block gs (blk_lt HG11.out)).trans HG11.out)
      have HPE := Aside0.mk (Kd.C_below HC11.out hbE)
      have HCE := Aside0.mk hCE
      have HbE := Aside0.mk hbE
      clear hCE hbE
      refine hK.out _ _ ((blk_cell HGE.out 2).trans rfl) (fun hHeld => ?_)
      clear hK K
      refine norm_ (a' := ?_) ?_ ?_
      rotate_left
      · show Act.put _ (some 73) _ = _
        simp only [Act.put, List.setIfInBounds_toArray, List.set_cons_zero, List.set_cons_succ, i64_w, i32_w]
        rfl
      refine last_ (i := 5) (N := some 74) #[true, true, true, true, true, true] rfl rfl (by kernel_rfl) (by decide) (fun K hK => ?_)
      refine goes_ Tryd.func57 (by kernel_rfl) rfl #[.slice ap 0 cp, .slice AE 4 cE] (by rfl) rfl rfl (by simp only [List.map_toArray, List.map_cons, List.map_nil]; rfl) ?_
      with_reducible refine (hasPrefix_any p 0 hpn hpr ap cp hcp _ AE cE HPE.out HCE.out hcE false hpb).mono ?_
      rintro e wF ⟨rfl, ⟨ndF, rfl⟩⟩
      refine ⟨_, rfl, ?_⟩
      refine hK.out _ _ ?_
      clear hK K
      refine norm_ (a' := ?_) ?_ ?_
      rotate_left
      · show Act.put _ (some 74) _ = _
        simp only [Act.put, List.setIfInBounds_toArray, List.set_cons_zero, List.set_cons_succ, i64_w, i32_w]
        rfl
      refine done_ (by kernel_rfl) ?_
      go_wp2_with fail
      go_ret
      have hbF := pw_below_drewN HbE.out ndF
      refine ⟨.nilIface, .slice ap 0 cp, l1, HN11.out.trans (Near3.of_below hbF), HL1.out, (hbF.block gs (blk_lt HG11.out)).trans HG11.out, HP11.out.far (fun k hk hlt => hbF.block k hlt), fun k hk => .inl (show (Value.slice ap n0 cp).ownBlock = some k from by cases ap with | none => exact hk | some a => exact hk), below_step HB11.out hbF, rfl, rfl, HR11.out.below hbF, ap, cp, rfl, hcp, ⟨rfl, by decide, fun h => absurd h (by decide)⟩⟩
    · have hn0 : 0 < n := Nat.pos_of_ne_zero hz
      obtain ⟨hst0, herr⟩ := HPOS.out hn0
      have hdd : (xs.drop i).drop 4 = xs.drop (i + 4) := by rw [List.drop_drop]
      rw [hdd] at hst0 herr
      have HERR := Aside0.mk (show ¬ (xs.drop (i + 4)).length < n → isErr ((xs.drop (i + 4)).take n) = true → TrimOK w0 from fun h1 h2 => HT.out (herr h1 h2))
      have HST0 := Aside0.mk hst0
      have HI5 := Aside0.mk (show ∀ (k : Nat), i + 4 ≤ k → True from fun _ _ => trivial)
      clear hst0 herr hdd
      by_cases hcap : cp < n
      · have c1 : decide ((cp : Int) < (n : Int)) = true := decide_eq_true (by omega)
        have c2 : decide (cp < n) = true := decide_eq_true hcap
        obtain ⟨i5, hi5, hz5, hs5, hb5⟩ := info_parts info5
        have hw2 := below_size HB2.out
        have HBS := Aside0.mk (show i5.bytes * n ≤ 281474976710656 by rw [hb5]; omega)
        go_wp2_with (first | ((with_reducible show wpList _ _ _ (⟨some 35, _, _, _, _, _⟩ :: _) _ _); refine wpList_make_own _ rfl _ _ 25 rfl w0.heap.size 5 i5 _ 1 Tryd.underlying25 hi5 hz5 hs5 .i64 .i64 (n : Int) n rfl rfl rfl HBS.out (by simp only [maxLen]; omega) hw2 ?_; intro W3 hown hgrow; obtain ⟨gp, hgp⟩ : ∃ gp, W2.drew.heap.size = gp := ⟨_, rfl⟩; (first | rw [hgp] at hown ⊢ | skip); have HOWN := Aside0.mk hown; have HGR := Aside0.mk hgrow; have HGP := Aside0.mk hgp; clear hown hgrow hgp; have HG3 := Aside0.mk ((HGR.out.block gs (blk_lt HG2.out) (by simp)).trans HG2.out); have q2 := (blk_cell HG3.out 2).trans (show _ = some (Value.slice ap n0 cp) from rfl); have q2f := blk_frozen HG3.out 2) | fail)
        obtain ⟨cur, hcur, hcs⟩ : ∃ cur : Array Value, W3.heap[gp]? = some (.cells cur 5 (0, 0)) ∧ cur.size = n := by
          rcases HOWN.out.2 with ⟨h, _⟩ | ⟨g, cap, cur, h, _, hh, _, _, hcs, _⟩
          · cases h
          · injection h with h1 _ h3
            injection h1 with h1
            injection h1 with h1
            subst h1
            subst h3
            exact ⟨cur, hh, by omega⟩
        have HP3 := Aside0.mk (show W3.heap[gp]? = some (.cells cur.toList.toArray 5 (0, 0)) from by simpa using hcur)
        have hcl : cur.toList.length = n := by simpa using hcs
        have HGPN := Aside0.mk (blk_ne hcur HG3.out (by decide))
        have HR3 := Aside0.mk (show AtRd W3 gr A xs.length c (i + 4) from by obtain ⟨pr, h⟩ := HR2.out; exact ⟨pr, (HGR.out.block gr (blk_lt h) (by simp)).trans h⟩)
        have HGPR := Aside0.mk (show gp ≠ gr from by obtain ⟨pr, h⟩ := HR3.out; exact blk_ne hcur h (by decide))
        have HGPS := Aside0.mk (show some gs ≠ some gp from fun h => HGPN.out (by injection h with h; exact h.symm))
        have HGPB := Aside0.mk (show w0.heap.size ≤ gp from by rw [← HGP.out]; exact HB2.out.size)
        have HOWNK := Aside0.mk (show ∀ k, gp = k → (Value.slice ap n0 cp).ownBlock = some k ∨ w.heap.size ≤ k from fun k hk => .inr (by rw [← hk, ← HGP.out]; exact HN2.out.size))
        have HB3 := Aside0.mk (HB2.out.grown HGR.out HB2.out.size (fun k hk => by cases hk))
        have HN3 := Aside0.mk (HN2.out.trans (show Near3 W2.drew W3 gs gr _ from ⟨HGR.out.os, HGR.out.tape, HGR.out.output, HGR.out.size, fun k hk _ _ _ => HGR.out.block k hk (by simp)⟩))
        have HG9 := Aside0.mk (sc_put2 (u := .slice (some ⟨gp, 0, none⟩) 0 n) (show AtSc W3 gs gr .nilIface (.slice ap n0 cp) l1 from HG3.out))
        have HR9 := Aside0.mk (show AtRd (W3.setCell ⟨gs, 2, none⟩ (.slice (some ⟨gp, 0, none⟩) 0 n)) gr A xs.length c (i + 4) from by obtain ⟨pr, h⟩ := HR3.out; exact ⟨pr, (Below.heap_setCell _ ⟨gs, 2, none⟩ _ gr (Ne.symm HNE.out)).trans h⟩)
        have HP9 := Aside0.mk ((Below.heap_setCell W3 ⟨gs, 2, none⟩ (.slice (some ⟨gp, 0, none⟩) 0 n) gp HGPN.out).trans HP3.out)
        have HN9 := Aside0.mk (HN3.out.put 2 (.slice (some ⟨gp, 0, none⟩) 0 n))
        have HB9 := Aside0.mk (HB3.out.setCell (p := ⟨gs, 2, none⟩) (by exact HGS.out) (.slice (some ⟨gp, 0, none⟩) 0 n))
        have hcn : n ≤ n := Nat.le_refl _
        have HMN := Aside0.mk (show ((xs.drop (i + 4)).take n).length ≤ n by rw [List.length_take]; omega)
        generalize hW9 : W3.setCell ⟨gs, 2, none⟩ (.slice (some ⟨gp, 0, none⟩) 0 n) = W9
        rw [hW9] at HG9 HR9 HP9 HN9 HB9
        clear hW9 q2 q2f t2 t3 t3f hcur HP3 HG3 HR3 HN3 HB3 HOWN HGR
        have HRF := Aside0.mk (readFull_any w0 W9.drew A c xs gr gp (i + 4) 0 n n cur.toList 5 a1 a2 a3 hn0 hcn HS.out hc (below_drew1 HB9.out) (by obtain ⟨pr, h⟩ := HR9.out; exact ⟨pr, h⟩) HP9.out HGPR.out (by omega) HGE.out HGPB.out HI4.out hx (by omega) HE.out)
        unfold FullPost at HRF
        obtain ⟨p, hp⟩ : ∃ p, (xs.drop (i + 4)).take n = p := ⟨_, rfl⟩
        rw [hp] at HRF
        have HPX := Aside0.mk hp
        obtain ⟨m2, hm2⟩ : ∃ m2, p.length = m2 := ⟨_, rfl⟩
        rw [hm2] at HRF
        have HM2 := Aside0.mk hm2
        obtain ⟨ye, hye⟩ : ∃ ye : Value, (if m2 = n then .nilIface else if m2 = 0 then (.iface 179 (.pointer (some a1))) else (.iface 179 (.pointer (some a2)))) = ye := ⟨_, rfl⟩
        rw [hye] at HRF
        have HYE := Aside0.mk hye
        have HPBY := Aside0.mk (show ∀ x ∈ p, 0 ≤ x ∧ x < 256 from fun x hx => HBY.out x (List.mem_of_mem_drop (List.mem_of_mem_take (by rw [hp]; exact hx))))
        have HLT := Aside0.mk (show ¬ m2 = n → (xs.drop (i + 4)).length < n from fun h => by rw [← hm2, ← hp, List.length_take] at h; omega)
        have HM2N := Aside0.mk (show m2 ≤ n by rw [← hm2, ← hp, List.length_take]; omega)
        have HGET := Aside0.mk (show m2 = n → ¬ (xs.drop (i + 4)).length < n from fun h => by rw [← hm2, ← hp, List.length_take] at h; omega)
        have HYI := Aside0.mk (show ye = .nilIface ∨ ∃ τ u, ye = .iface τ u by
          rw [← hye]
          split
          · exact .inl rfl
          · split
            · exact .inr ⟨_, _, rfl⟩
            · exact .inr ⟨_, _, rfl⟩)
        clear hp hm2 hye
        refine start_ (n := 18) (S := fun w' => w'.cell? ⟨gs, 0, none⟩ = some (.iface 63 (.pointer (some ⟨gr, 0, none⟩))) ∧ w'.cell? ⟨gs, 2, none⟩ = some (.slice (some ⟨gp, 0, none⟩) 0 n)) (ds := [11, 17]) #[false, false, false, false, false, false, false, false, false, false, false, false, false, false, false, false, false, false] (by kernel_rfl) rfl rfl ⟨(blk_cell (blk_drew HG9.out) 0).trans rfl, (blk_cell (blk_drew HG9.out) 2).trans rfl⟩ (fun hHeld => ?_)
        refine pure_ (i := 0) (N := some 39) (v := ?_) (a' := ?_) #[true, false, false, false, false, false, false, false, false, false, false, false, false, false, false, false, false, false] rfl rfl (by kernel_rfl) (fun _ _ _ h => h) (Or.inl ⟨by rfl, ?_⟩) ?_ ?_
        rotate_left
        · intro w'
          go_simp
          with_reducible rfl
        rotate_left
        · simp only [Act.put, List.setIfInBounds_toArray, List.set_cons_zero, List.set_cons_succ, i64_w, i32_w]
          rfl
        refine pure_ (i := 1) (N := some 40) (v := ?_) (a' := ?_) #[true, true, false, false, false, false, false, false, false, false, false, false, false, false, false, false, false, false] rfl rfl (by kernel_rfl) (fun _ _ _ h => h) (Or.inl ⟨by rfl, ?_⟩) ?_ ?_
        rotate_left
        · intro w'
          go_simp
          with_reducible rfl
        rotate_left
        · simp only [Act.put, List.setIfInBounds_toArray, List.set_cons_zero, List.set_cons_succ, i64_w, i32_w]
          rfl
        refine pure_ (i := 2) (N := some 41) (v := ?_) (a' := ?_) #[true, true, true, false, false, false, false, false, false, false, false, false, false, false, false, false, false, false] rfl rfl (by kernel_rfl) (fun _ _ _ h => h) (Or.inl ⟨by rfl, ?_⟩) ?_ ?_
        rotate_left
        · intro w'
          go_simp
          with_reducible rfl
        rotate_left
        · simp only [Act.put, List.setIfInBounds_toArray, List.set_cons_zero, List.set_cons_succ, i64_w, i32_w]
          rfl
        refine pure_ (i := 3) (N := some 42) (v := ?_) (a' := ?_) #[true, true, true, true, false, false, false, false, false, false, false, false, false, false, false, false, false, false] rfl rfl (by kernel_rfl) (fun _ _ _ h => h) (Or.inl ⟨by rfl, ?_⟩) ?_ ?_
        rotate_left
        · intro w'
          go_simp
          with_reducible rfl
        rotate_left
        · simp only [Act.put, List.setIfInBounds_toArray, List.set_cons_zero, List.set_cons_succ, i64_w, i32_w]
          rfl
        refine pure_ (i := 5) (N := some 44) (v := ?_) (a' := ?_) #[true, true, true, true, false, true, false, false, false, false, false, false, false, false, false, false, false, false] rfl rfl (by kernel_rfl) (fun _ _ _ h => h) (Or.inl ⟨by rfl, ?_⟩) ?_ ?_
        rotate_left
        · intro w'
          go_simp
          with_reducible rfl
        rotate_left
        · simp only [Act.put, List.setIfInBounds_toArray, List.set_cons_zero, List.set_cons_succ, i64_w, i32_w]
          rfl
        refine pure_ (i := 6) (N := some 45) (v := ?_) (a' := ?_) #[true, true, true, true, false, true, true, false, false, false, false, false, false, false, false, false, false, false] rfl rfl (by kernel_rfl) (fun _ _ _ h => h) (Or.inl ⟨by rfl, ?_⟩) ?_ ?_
        rotate_left
        · intro w'
          go_simp
          with_reducible rfl
        rotate_left
        · simp only [Act.put, List.setIfInBounds_toArray, List.set_cons_zero, List.set_cons_succ, i64_w, i32_w]
          rfl
        refine pure_ (i := 7) (N := some 46) (v := ?_) (a' := ?_) #[true, true, true, true, false, true, true, true, false, false, false, false, false, false, false, false, false, false] rfl rfl (by kernel_rfl) (fun _ _ _ h => h) (Or.inl ⟨by rfl, ?_⟩) ?_ ?_
        rotate_left
        · intro w'
          go_simp
          with_reducible rfl
        rotate_left
        · simp only [Act.put, List.setIfInBounds_toArray, List.set_cons_zero, List.set_cons_succ, i64_w, i32_w]
          rfl
        refine pure_ (i := 9) (N := some 48) (v := ?_) (a' := ?_) #[true, true, true, true, false, true, true, true, false, true, false, false, false, false, false, false, false, false] rfl rfl (by kernel_rfl) (fun _ _ _ h => h) (Or.inl ⟨by rfl, ?_⟩) ?_ ?_
        rotate_left
        · intro w'
          go_simp
          with_reducible rfl
        rotate_left
        · simp only [Act.put, List.setIfInBounds_toArray, List.set_cons_zero, List.set_cons_succ, i64_w, i32_w]
          rfl
        refine take_ (i := 4) (N := some 43) (v := ?_) (a' := ?_) #[true, true, true, true, true, true, true, true, false, true, false, false, false, false, false, false, false, false] rfl rfl (by kernel_rfl) (fun _ _ _ h => h) (Or.inl ⟨by rfl, ?_⟩) hHeld ?_ ?_
        rotate_left
        · rintro w' ⟨s0, s1⟩
          go_simp
          with_reducible rfl
        rotate_left
        · simp only [Act.put, List.setIfInBounds_toArray, List.set_cons_zero, List.set_cons_succ, i64_w, i32_w]
          rfl
        refine take_ (i := 8) (N := some 47) (v := ?_) (a' := ?_) #[true, true, true, true, true, true, true, true, true, true, false, false, false, false, false, false, false, false] rfl rfl (by kernel_rfl) (fun _ _ _ h => h) (Or.inl ⟨by rfl, ?_⟩) hHeld ?_ ?_
        rotate_left
        · rintro w' ⟨s0, s1⟩
          go_simp
          with_reducible rfl
        rotate_left
        · simp only [Act.put, List.setIfInBounds_toArray, List.set_cons_zero, List.set_cons_succ, i64_w, i32_w]
          rfl
        refine pure_ (i := 10) (N := some 49) (v := ?_) (a' := ?_) #[true, true, true, true, true, true, true, true, true, true, true, false, false, false, false, false, false, false] rfl rfl (by kernel_rfl) (fun _ _ _ h => h) (Or.inl ⟨by rfl, ?_⟩) ?_ ?_
        rotate_left
        · intro w'
          go_simp
          with_reducible rfl
        rotate_left
        · simp only [Act.put, List.setIfInBounds_toArray, List.set_cons_zero, List.set_cons_succ, i64_w, i32_w]
          rfl
        refine last_ (i := 11) (N := some 50) #[true, true, true, true, true, true, true, true, true, true, true, true, false, false, false, false, false, false] rfl rfl (by kernel_rfl) (by decide) (fun K hK => ?_)
        refine goes_ Tryd.func56 (by kernel_rfl) rfl #[.iface 63 (.pointer (some ⟨gr, 0, none⟩)), .slice (some ⟨gp, 0, none⟩) n n] (by rfl) rfl rfl (by simp only [List.map_toArray, List.map_cons, List.map_nil]; rfl) ?_
        with_reducible refine (HRF.out).mono ?_
        rintro e wA ⟨hnA, hrA, hgA, rfl⟩
        refine ⟨_, rfl, ?_⟩
        have HNA := Aside0.mk hnA
        have HRA := Aside0.mk hrA
        have HPA := Aside0.mk hgA
        clear hnA hrA hgA
        have HGA := Aside0.mk ((HNA.out.block gs (blk_lt (blk_drew HG9.out)) HNE.out HGPS.out).trans (blk_drew HG9.out))
        have s1 := (blk_cell HGA.out 1).trans (show _ = some Value.nilIface from rfl)
        have s1f := blk_frozen HGA.out 1
        refine hK.out _ _ ?_
        clear hK K
        refine norm_ (a' := ?_) ?_ ?_
        rotate_left
        · show Act.put _ (some 50) _ = _
          simp only [Act.put, List.setIfInBounds_toArray, List.set_cons_zero, List.set_cons_succ, i64_w, i32_w]
          rfl
        refine pure_ (i := 12) (N := some 38) (v := ?_) (a' := ?_) #[true, true, true, true, true, true, true, true, true, true, true, true, true, false, false, false, false, false] rfl rfl (by kernel_rfl) (fun _ _ _ h => h) (Or.inl ⟨by rfl, ?_⟩) ?_ ?_
        rotate_left
        · intro w'
          go_simp
          with_reducible rfl
        rotate_left
        · simp only [Act.put, List.setIfInBounds_toArray, List.set_cons_zero, List.set_cons_succ, i64_w, i32_w]
          rfl
        refine pure_ (i := 13) (N := some 51) (v := ?_) (a' := ?_) #[true, true, true, true, true, true, true, true, true, true, true, true, true, true, false, false, false, false] rfl rfl (by kernel_rfl) (fun _ _ _ h => h) (Or.inl ⟨by rfl, ?_⟩) ?_ ?_
        rotate_left
        · intro w'
          go_simp
          with_reducible rfl
        rotate_left
        · simp only [Act.put, List.setIfInBounds_toArray, List.set_cons_zero, List.set_cons_succ, i64_w, i32_w]
          rfl
        refine pure_ (i := 14) (N := some 52) (v := ?_) (a' := ?_) #[true, true, true, true, true, true, true, true, true, true, true, true, true, true, true, false, false, false] rfl rfl (by kernel_rfl) (fun _ _ _ h => h) (Or.inl ⟨by rfl, ?_⟩) ?_ ?_
        rotate_left
        · intro w'
          go_simp
          with_reducible rfl
        rotate_left
        · simp only [Act.put, List.setIfInBounds_toArray, List.set_cons_zero, List.set_cons_succ, i64_w, i32_w]
          rfl
        refine pure_ (i := 15) (N := some 53) (v := ?_) (a' := ?_) #[true, true, true, true, true, true, true, true, true, true, true, true, true, true, true, true, false, false] rfl rfl (by kernel_rfl) (fun _ _ _ h => h) (Or.inl ⟨by rfl, ?_⟩) ?_ ?_
        rotate_left
        · intro w'
          go_simp
          with_reducible rfl
        rotate_left
        · simp only [Act.put, List.setIfInBounds_toArray, List.set_cons_zero, List.set_cons_succ, i64_w, i32_w]
          rfl
        refine pure_ (i := 16) (N := some 54) (v := ?_) (a' := ?_) #[true, true, true, true, true, true, true, true, true, true, true, true, true, true, true, true, true, false] rfl rfl (by kernel_rfl) (fun _ _ _ h => h) (Or.inl ⟨by rfl, ?_⟩) ?_ ?_
        rotate_left
        · intro w'
          go_simp
          with_reducible rfl
        rotate_left
        · simp only [Act.put, List.setIfInBounds_toArray, List.set_cons_zero, List.set_cons_succ, i64_w, i32_w]
          rfl
        refine last_ (i := 17) (N := none) #[true, true, true, true, true, true, true, true, true, true, true, true, true, true, true, true, true, true] rfl rfl (by kernel_rfl) (by decide) (fun K hK => ?_)
        refine step_store1 (by rfl) 55 _ _ rfl rfl gs 1 ye .nilIface rfl rfl HYI.out (by kernel_rfl) s1 s1f ?_
        refine hK.out _ _ ?_
        clear hK K
        refine done_ (by kernel_rfl) ?_
        clear HYI
        have HGB := Aside0.mk (show AtSc (wA.setCell ⟨gs, 1, none⟩ ye) gs gr ye (.slice (some ⟨gp, 0, none⟩) 0 n) l1 from sc_put1 HGA.out)
        have HRB := Aside0.mk (show AtRd (wA.setCell ⟨gs, 1, none⟩ ye) gr A xs.length c (i + 4 + m2) from by obtain ⟨pr, h⟩ := HRA.out; exact ⟨pr, (Below.heap_setCell _ ⟨gs, 1, none⟩ _ gr (Ne.symm HNE.out)).trans h⟩)
        have HPB := Aside0.mk (show (wA.setCell ⟨gs, 1, none⟩ ye).heap[gp]? = _ from (Below.heap_setCell _ ⟨gs, 1, none⟩ _ gp HGPN.out).trans HPA.out)
        have HNB := Aside0.mk (show Near3 w (wA.setCell ⟨gs, 1, none⟩ ye) gs gr (Value.slice ap n0 cp).ownBlock from ((HN9.out.drew.trans_own HNA.out (fun k hk => HOWNK.out k hk)).put 1 ye))
        have HBB := Aside0.mk (show Below w0.heap.size w0 (wA.setCell ⟨gs, 1, none⟩ ye) from ((below_drew1 HB9.out).trans (HNA.out.below HB9.out.size HGE.out (fun q hq => by injection hq with hq; rw [← hq]; exact HGPB.out))).setCell (by exact HGS.out) _)
        generalize hWB : wA.setCell ⟨gs, 1, none⟩ ye = WB
        rw [hWB] at HGB HRB HPB HNB HBB
        clear hWB s1 s1f HRA HPA HNA HGA
        have u1 := (blk_cell HGB.out 1).trans (show _ = some ye from rfl)
        by_cases hm : m2 = n
        · have hye : Value.nilIface = ye := by have := HYE.out; rwa [if_pos hm] at this
          subst hye
          subst hm
          have u2 := (blk_cell HGB.out 2).trans (show _ = some (Value.slice (some ⟨gp, 0, none⟩) 0 m2) from rfl)
          have u2f := blk_frozen HGB.out 2
          have v1 : (0 : Int) ≤ (m2 : Int) := by omega
          have v2 : (m2 : Int) ≤ (m2 : Int) := by omega
          go_wp2_with fail
          have hcp := hcn
          have hpn := HM2.out
          have hpr := HPBY.out
          obtain ⟨b, hpb⟩ : ∃ b, isErr p = b := ⟨_, rfl⟩
          have HG11 := Aside0.mk (show (WB.setCell ⟨gs, 2, none⟩ (.slice (some ⟨gp, 0, none⟩) m2 m2)).drew.heap[gs]? = some (.cells (scL gr .nilIface (.slice (some ⟨gp, 0, none⟩) m2 m2) l1).toArray 126 (0, 0)) from sc_put2 HGB.out)
          have HN11 := Aside0.mk (show Near3 w (WB.setCell ⟨gs, 2, none⟩ (.slice (some ⟨gp, 0, none⟩) m2 m2)).drew gs gr (Value.slice ap n0 cp).ownBlock from (HNB.out.put 2 _).drew)
          have HB11 := Aside0.mk (show Below w0.heap.size w0 (WB.setCell ⟨gs, 2, none⟩ (.slice (some ⟨gp, 0, none⟩) m2 m2)).drew from below_drew1 (HBB.out.setCell (by exact HGS.out) _))
          have HR11 := Aside0.mk (show AtRd (WB.setCell ⟨gs, 2, none⟩ (.slice (some ⟨gp, 0, none⟩) m2 m2)).drew gr A xs.length c (i + 4 + m2) from by obtain ⟨pr, h⟩ := HRB.out; exact ⟨pr, (Below.heap_setCell _ ⟨gs, 2, none⟩ _ gr (Ne.symm HNE.out)).trans h⟩)
          have HPC := Aside0.mk (show (WB.setCell ⟨gs, 2, none⟩ (.slice (some ⟨gp, 0, none⟩) m2 m2)).drew.heap[gp]? = _ from (Below.heap_setCell _ ⟨gs, 2, none⟩ _ gp HGPN.out).trans HPB.out)
          have HC11 := Aside0.mk (C_splice HPC.out (by omega))
          have HP11 := Aside0.mk (show PayOk (WB.setCell ⟨gs, 2, none⟩ (.slice (some ⟨gp, 0, none⟩) m2 m2)).drew w0.heap.size (.slice (some ⟨gp, 0, none⟩) m2 m2) from .inr ⟨gp, m2, m2, _, rfl, HPC.out, by rw [length_splice _ _ _ (by rw [bv_len, hpn]; omega)]; exact hcl, hcn, HGPB.out⟩)
          cases b with
          | true =>
            have hst : st = .bad := by
              have h := HST0.out
              rw [if_neg (HGET.out (by first | rfl | trivial)), HPX.out, if_pos hpb] at h
              exact h
            subst hst
            have HTR := Aside0.mk (HERR.out (HGET.out (by first | rfl | trivial)) (by rw [HPX.out]; exact hpb))
            have h4 : 4 ≤ m2 := by rw [← hpn]; exact isErr_four hpb
            clear u1 u2 u2f
            refine start_ (n := 6) (S := fun w' => w'.cell? ⟨gs, 2, none⟩ = some (.slice (some ⟨gp, 0, none⟩) m2 m2)) (ds := [5]) #[false, false, false, false, false, false] (by kernel_rfl) rfl rfl ((blk_cell HG11.out 2).trans rfl) (fun hHeld => ?_)
            refine pure_ (i := 0) (N := some 69) (v := ?_) (a' := ?_) #[true, false, false, false, false, false] rfl rfl (by kernel_rfl) (fun _ _ _ h => h) (Or.inl ⟨by rfl, ?_⟩) ?_ ?_
            rotate_left
            · intro w'
              go_simp
              with_reducible rfl
            rotate_left
            · simp only [Act.put, List.setIfInBounds_toArray, List.set_cons_zero, List.set_cons_succ, i64_w, i32_w]
              rfl
            refine pure_ (i := 1) (N := some 70) (v := ?_) (a' := ?_) #[true, true, false, false, false, false] rfl rfl (by kernel_rfl) (fun _ _ _ h => h) (Or.inl ⟨by rfl, ?_⟩) ?_ ?_
            rotate_left
            · intro w'
              go_simp
              with_reducible rfl
            rotate_left
            · simp only [Act.put, List.setIfInBounds_toArray, List.set_cons_zero, List.set_cons_succ, i64_w, i32_w]
              rfl
            refine pure_ (i := 2) (N := some 71) (v := ?_) (a' := ?_) #[true, true, true, false, false, false] rfl rfl (by kernel_rfl) (fun _ _ _ h => h) (Or.inl ⟨by rfl, ?_⟩) ?_ ?_
            rotate_left
            · intro w'
              go_simp
              with_reducible rfl
            rotate_left
            · simp only [Act.put, List.setIfInBounds_toArray, List.set_cons_zero, List.set_cons_succ, i64_w, i32_w]
              rfl
            refine take_ (i := 3) (N := some 72) (v := ?_) (a' := ?_) #[true, true, true, true, false, false] rfl rfl (by kernel_rfl) (fun _ _ _ h => h) (Or.inl ⟨by rfl, ?_⟩) hHeld ?_ ?_
            rotate_left
            · intro w' s0
              go_simp
              with_reducible rfl
            rotate_left
            · simp only [Act.put, List.setIfInBounds_toArray, List.set_cons_zero, List.set_cons_succ, i64_w, i32_w]
              rfl
            refine one_ (i := 4) (N := some 73) #[true, true, true, true, true, false] rfl rfl (by kernel_rfl) (by decide) (fun K hK => ?_)
            refine goes_ Tryd.func58 (by kernel_rfl) rfl #[] (by rfl) rfl rfl (by first | rfl | simp) ?_
            with_reducible refine (errPrefix_any _).mono ?_
            rintro e wE ⟨AE, cE, rfl, hcE, hCE, hbE⟩
            refine ⟨_, rfl, ?_⟩
            have HGE := Aside0.mk ((hbE.block gs (blk_lt HG11.out)).trans HG11.out)
            have HPE := Aside0.mk (Kd.C_below HC11.out hbE)
            have HCE := Aside0.mk hCE
            have HbE := Aside0.mk hbE
            clear hCE hbE
            refine hK.out _ _ ((blk_cell HGE.out 2).trans rfl) (fun hHeld => ?_)
            clear hK K
            refine norm_ (a' := ?_) ?_ ?_
            rotate_left
            · show Act.put _ (some 73) _ = _
              simp only [Act.put, List.setIfInBounds_toArray, List.set_cons_zero, List.set_cons_succ, i64_w, i32_w]
              rfl
            refine last_ (i := 5) (N := some 74) #[true, true, true, true, true, true] rfl rfl (by kernel_rfl) (by decide) (fun K hK => ?_)
            refine goes_ Tryd.func57 (by kernel_rfl) rfl #[.slice (some ⟨gp, 0, none⟩) m2 m2, .slice AE 4 cE] (by rfl) rfl rfl (by simp only [List.map_toArray, List.map_cons, List.map_nil]; rfl) ?_
            with_reducible refine (hasPrefix_any p m2 hpn hpr (some ⟨gp, 0, none⟩) m2 hcp _ AE cE HPE.out HCE.out hcE true hpb).mono ?_
            rintro e wF ⟨rfl, ⟨ndF, rfl⟩⟩
            refine ⟨_, rfl, ?_⟩
            refine hK.out _ _ ?_
            clear hK K
            refine norm_ (a' := ?_) ?_ ?_
            rotate_left
            · show Act.put _ (some 74) _ = _
              simp only [Act.put, List.setIfInBounds_toArray, List.set_cons_zero, List.set_cons_succ, i64_w, i32_w]
              rfl
            refine done_ (by kernel_rfl) ?_
            have HbF := Aside0.mk (pw_below_drewN HbE.out ndF)
            have HGF := Aside0.mk ((HbF.out.block gs (blk_lt HG11.out)).trans HG11.out)
            have HPF := Aside0.mk (Kd.C_below HC11.out HbF.out)
            have HB9F := Aside0.mk (below_step HB11.out HbF.out)
            have HPAF := Aside0.mk (HP11.out.far (fun k hk hlt => HbF.out.block k hlt))
            have HNF := Aside0.mk (HN11.out.trans (Near3.of_below (g1 := gs) (g2 := gr) (row := (Value.slice ap n0 cp).ownBlock) HbF.out))
            generalize hwF : wE.drewN ndF = wF
            rw [hwF] at HbF HGF HPF HB9F HPAF HNF
            clear hwF
            have HPLU := Aside0.mk ((blk_cell HGF.out 2).trans (show _ = some (Value.slice (some ⟨gp, 0, none⟩) m2 m2) from rfl))
            obtain ⟨i6, hi6, hz6, hs6, hb6⟩ := info_parts info5
            have hsl := cut_from (P := Tryd.prog) 25 5 .i64 Tryd.underlying25 hi6 1 hs6 (some ⟨gp, 0, none⟩) m2 m2 4 (by omega) (by omega)
            have hCT := Kd.C_drop HPF.out (m := 4) (c := m2) (by omega) (by omega)
            have hl5 : (p.drop 4).length = m2 - 4 := by rw [List.length_drop, hpn]
            rw [hl5] at hCT
            have hsz4 : (4 : Int).toNat = 4 := rfl
            rw [hsz4] at hsl
            obtain ⟨AT, hAT⟩ : ∃ AT : Option Addr, (if m2 = 4 then some ⟨gp, 0, none⟩ else (some (⟨gp, 0, none⟩ : Addr)).map (·.add (4 * 1))) = AT := ⟨_, rfl⟩
            have hCT2 : (Kd.int .u8).C wF AT (p.drop 4).length (p.drop 4) := by rw [← hAT, hl5]; exact hCT
            simp only [hAT] at hsl
            have hcv := Kd.C_string (P := Tryd.prog) (A := AT) (c := m2 - 4) Tryd.underlying25 Tryd.underlying5 Tryd.underlying9 hCT2
            rw [hl5] at hcv
            obtain ⟨sv, hsv⟩ : ∃ sv, strOfNums (p.drop 4) = sv := ⟨_, rfl⟩
            have hss : sv.size ≤ 100000 := by
              rw [← hsv]
              have hn6 := hn6
              show ((p.drop 4).map _).toArray.size ≤ _
              simp [hl5]
              omega
            rw [hsv] at hcv
            have HTS := Aside0.mk (HTR.out sv wF hss HB9F.out)
            have hv2 := HPLU.out
            clear hCT hCT2 hsv hAT hl5
            go_wp2_with fail
            refine HTS.out.mono ?_
            rintro e wG ⟨rt, rfl, hbG⟩
            have HbG := Aside0.mk hbG
            clear HTS hbG hcv hsl hv2
            go_wp2_with (first | ((with_reducible refine gate_dst (N := 84) rfl ?_); refine box_event ?hg (N := 84) ?hd (cs := #[.string rt]) (t := 132) ?hr ?_; (case hd => rfl); (case hg => rfl); (case hr => first | (go_simp; done) | (go_simp; rfl)); intro gx hgx wH hbox hb1; have HBX := Aside0.mk hbox; have HbH := Aside0.mk (below_step HbG.out hb1); have HGH := Aside0.mk ((HbH.out.block gs (blk_lt HGF.out)).trans HGF.out); have z1 := (blk_cell HGH.out 1).trans (show _ = some Value.nilIface from rfl); have z1f := blk_frozen HGH.out 1; clear hbox hb1 hgx) | fail)
            go_ret
            exact ⟨_, _, l1, (HNF.out.trans (Near3.of_below HbH.out)).put 1 _, HL1.out, sc_put1 HGH.out, (HPAF.out.far (fun k hk hlt => HbH.out.block k hlt)).far (fun k hk _ => Below.heap_setCell _ ⟨gs, 1, none⟩ _ k (fun he => HGPN.out (by injection hk with hk; exact hk.trans he))), fun k hk => HOWNK.out k (by injection hk), (below_step HB9F.out HbH.out).setCell (by exact HGS.out) _, rfl, _, _, rfl⟩
          | false =>
            have hst : st = .line p ((xs.drop (i + 4)).drop m2) := by
              have h := HST0.out
              rw [if_neg (HGET.out (by first | rfl | trivial)), HPX.out, if_neg (by rw [hpb]; decide)] at h
              exact h
            subst hst
            clear u1 u2 u2f
            refine start_ (n := 6) (S := fun w' => w'.cell? ⟨gs, 2, none⟩ = some (.slice (some ⟨gp, 0, none⟩) m2 m2)) (ds := [5]) #[false, false, false, false, false, false] (by kernel_rfl) rfl rfl ((blk_cell HG11.out 2).trans rfl) (fun hHeld => ?_)
            refine pure_ (i := 0) (N := some 69) (v := ?_) (a' := ?_) #[true, false, false, false, false, false] rfl rfl (by kernel_rfl) (fun _ _ _ h => h) (Or.inl ⟨by rfl, ?_⟩) ?_ ?_
            rotate_left
            · intro w'
              go_simp
              with_reducible rfl
            rotate_left
            · simp only [Act.put, List.setIfInBounds_toArray, List.set_cons_zero, List.set_cons_succ, i64_w, i32_w]
              rfl
            refine pure_ (i := 1) (N := some 70) (v := ?_) (a' := ?_) #[true, true, false, false, false, false] rfl rfl (by kernel_rfl) (fun _ _ _ h => h) (Or.inl ⟨by rfl, ?_⟩) ?_ ?_
            rotate_left
            · intro w'
              go_simp
              with_reducible rfl
            rotate_left
            · simp only [Act.put, List.setIfInBounds_toArray, List.set_cons_zero, List.set_cons_succ, i64_w, i32_w]
              rfl
            refine pure_ (i := 2) (N := some 71) (v := ?_) (a' := ?_) #[true, true, true, false, false, false] rfl rfl (by kernel_rfl) (fun _ _ _ h => h) (Or.inl ⟨by rfl, ?_⟩) ?_ ?_
            rotate_left
            · intro w'
              go_simp
              with_reducible rfl
            rotate_left
            · simp only [Act.put, List.setIfInBounds_toArray, List.set_cons_zero, List.set_cons_succ, i64_w, i32_w]
              rfl
            refine take_ (i := 3) (N := some 72) (v := ?_) (a' := ?_) #[true, true, true, true, false, false] rfl rfl (by kernel_rfl) (fun _ _ _ h => h) (Or.inl ⟨by rfl, ?_⟩) hHeld ?_ ?_
            rotate_left
            · intro w' s0
              go_simp
              with_reducible rfl
            rotate_left
            · simp only [Act.put, List.setIfInBounds_toArray, List.set_cons_zero, List.set_cons_succ, i64_w, i32_w]
              rfl
            refine one_ (i := 4) (N := some 73) #[true, true, true, true, true, false] rfl rfl (by kernel_rfl) (by decide) (fun K hK => ?_)
            refine goes_ Tryd.func58 (by kernel_rfl) rfl #[] (by rfl) rfl rfl (by first | rfl | simp) ?_
            with_reducible refine (errPrefix_any _).mono ?_
            rintro e wE ⟨AE, cE, rfl, hcE, hCE, hbE⟩
            refine ⟨_, rfl, ?_⟩
            have HGE := Aside0.mk ((hbE.block gs (blk_lt HG11.out)).trans HG11.out)
            have HPE := Aside0.mk (Kd.C_below HC11.out hbE)
            have HCE := Aside0.mk hCE
            have HbE := Aside0.mk hbE
            clear hCE hbE
            refine hK.out _ _ ((blk_cell HGE.out 2).trans rfl) (fun hHeld => ?_)
            clear hK K
            refine norm_ (a' := ?_) ?_ ?_
            rotate_left
            · show Act.put _ (some 73) _ = _
              simp only [Act.put, List.setIfInBounds_toArray, List.set_cons_zero, List.set_cons_succ, i64_w, i32_w]
              rfl
            refine last_ (i := 5) (N := some 74) #[true, true, true, true, true, true] rfl rfl (by kernel_rfl) (by decide) (fun K hK => ?_)
            refine goes_ Tryd.func57 (by kernel_rfl) rfl #[.slice (some ⟨gp, 0, none⟩) m2 m2, .slice AE 4 cE] (by rfl) rfl rfl (by simp only [List.map_toArray, List.map_cons, List.map_nil]; rfl) ?_
            with_reducible refine (hasPrefix_any p m2 hpn hpr (some ⟨gp, 0, none⟩) m2 hcp _ AE cE HPE.out HCE.out hcE false hpb).mono ?_
            rintro e wF ⟨rfl, ⟨ndF, rfl⟩⟩
            refine ⟨_, rfl, ?_⟩
            refine hK.out _ _ ?_
            clear hK K
            refine norm_ (a' := ?_) ?_ ?_
            rotate_left
            · show Act.put _ (some 74) _ = _
              simp only [Act.put, List.setIfInBounds_toArray, List.set_cons_zero, List.set_cons_succ, i64_w, i32_w]
              rfl
            refine done_ (by kernel_rfl) ?_
            go_wp2_with fail
            go_ret
            have hbF := pw_below_drewN HbE.out ndF
            refine ⟨.nilIface, (.slice (some ⟨gp, 0, none⟩) m2 m2), l1, HN11.out.trans (Near3.of_below hbF), HL1.out, (hbF.block gs (blk_lt HG11.out)).trans HG11.out, HP11.out.far (fun k hk hlt => hbF.block k hlt), fun k hk => HOWNK.out k (by injection hk), below_step HB11.out hbF, rfl, rfl, by rw [hpn]; exact HR11.out.below hbF, some ⟨gp, 0, none⟩, m2, by rw [hpn], by rw [hpn]; exact hcn, Kd.C_below HC11.out hbF⟩
        · have hst : st = .bad := by
            have h := HST0.out
            rw [if_pos (HLT.out hm)] at h
            exact h
          subst hst
          have HPBK := Aside0.mk (show PayOk WB w0.heap.size (.slice (some ⟨gp, 0, none⟩) 0 n) from .inr ⟨gp, 0, n, _, rfl, HPB.out, by rw [length_splice _ _ _ (by rw [bv_len, HM2.out]; have := HM2N.out; omega)]; exact hcl, by omega, HGPB.out⟩)
          by_cases hm0 : m2 = 0
          · have hye : (.iface 179 (.pointer (some a1))) = ye := by have := HYE.out; rwa [if_neg hm, if_pos hm0] at this
            subst hye
            go_wp2_with fail
            go_ret
            exact ⟨_, _, l1, HNB.out, HL1.out, HGB.out, HPBK.out, fun k hk => HOWNK.out k (by injection hk), HBB.out, rfl, _, _, rfl⟩
          · have hye : (.iface 179 (.pointer (some a2))) = ye := by have := HYE.out; rwa [if_neg hm, if_neg hm0] at this
            subst hye
            go_wp2_with fail
            go_ret
            exact ⟨_, _, l1, HNB.out, HL1.out, HGB.out, HPBK.out, fun k hk => HOWNK.out k (by injection hk), HBB.out, rfl, _, _, rfl⟩
      · rcases HP2.out with h | ⟨gp, n', cp', cur, h, hcur, hcl, hn', hgb⟩
        · injection h with _ _ h
          omega
        · injection h with h1 h2 h3
          subst h1 h2 h3
          have c1 : decide ((cp : Int) < (n : Int)) = false := decide_eq_false (by omega)
          have c2 : decide (cp < n) = false := decide_eq_false hcap
          have HGPN := Aside0.mk (blk_ne hcur HG2.out (by decide))
          have HGPR := Aside0.mk (show gp ≠ gr from by obtain ⟨pr, h⟩ := HR2.out; exact blk_ne hcur h (by decide))
          have HGPS := Aside0.mk (show some gs ≠ some gp from fun h => HGPN.out (by injection h with h; exact h.symm))
          have HGPB := Aside0.mk hgb
          have HOWNK := Aside0.mk (show ∀ k, gp = k → (Value.slice (some ⟨gp, 0, none⟩) n0 cp).ownBlock = some k ∨ w.heap.size ≤ k from fun k hk => .inl (by rw [← hk]; rfl))
          have hcn : n ≤ cp := by omega
          have HMN := Aside0.mk (show ((xs.drop (i + 4)).take n).length ≤ n by rw [List.length_take]; omega)
          have HP3 := Aside0.mk hcur
          clear hcur hgb
          go_wp2_with fail
          have HG9 := Aside0.mk (show AtSc W2.drew gs gr .nilIface (.slice (some ⟨gp, 0, none⟩) n0 cp) l1 from HG2.out)
          have HR9 := Aside0.mk (show AtRd W2.drew gr A xs.length c (i + 4) from HR2.out)
          have HP9 := Aside0.mk (show W2.drew.heap[gp]? = _ from HP3.out)
          have HN9 := Aside0.mk (show Near3 w W2.drew gs gr (Value.slice (some ⟨gp, 0, none⟩) n0 cp).ownBlock from HN2.out)
          have HB9 := Aside0.mk (show Below w0.heap.size w0 W2.drew from HB2.out)
          clear t2 t3 t3f HP3
          have HRF := Aside0.mk (readFull_any w0 W2.drew.drew A c xs gr gp (i + 4) 0 n cp cur 5 a1 a2 a3 hn0 hcn HS.out hc (below_drew1 HB9.out) (by obtain ⟨pr, h⟩ := HR9.out; exact ⟨pr, h⟩) HP9.out HGPR.out (by omega) HGE.out HGPB.out HI4.out hx (by omega) HE.out)
          unfold FullPost at HRF
          obtain ⟨p, hp⟩ : ∃ p, (xs.drop (i + 4)).take n = p := ⟨_, rfl⟩
          rw [hp] at HRF
          have HPX := Aside0.mk hp
          obtain ⟨m2, hm2⟩ : ∃ m2, p.length = m2 := ⟨_, rfl⟩
          rw [hm2] at HRF
          have HM2 := Aside0.mk hm2
          obtain ⟨ye, hye⟩ : ∃ ye : Value, (if m2 = n then .nilIface else if m2 = 0 then (.iface 179 (.pointer (some a1))) else (.iface 179 (.pointer (some a2)))) = ye := ⟨_, rfl⟩
          rw [hye] at HRF
          have HYE := Aside0.mk hye
          have HPBY := Aside0.mk (show ∀ x ∈ p, 0 ≤ x ∧ x < 256 from fun x hx => HBY.out x (List.mem_of_mem_drop (List.mem_of_mem_take (by rw [hp]; exact hx))))
          have HLT := Aside0.mk (show ¬ m2 = n → (xs.drop (i + 4)).length < n from fun h => by rw [← hm2, ← hp, List.length_take] at h; omega)
          have HM2N := Aside0.mk (show m2 ≤ n by rw [← hm2, ← hp, List.length_take]; omega)
          have HGET := Aside0.mk (show m2 = n → ¬ (xs.drop (i + 4)).length < n from fun h => by rw [← hm2, ← hp, List.length_take] at h; omega)
          have HYI := Aside0.mk (show ye = .nilIface ∨ ∃ τ u, ye = .iface τ u by
            rw [← hye]
            split
            · exact .inl rfl
            · split
              · exact .inr ⟨_, _, rfl⟩
              · exact .inr ⟨_, _, rfl⟩)
          clear hp hm2 hye
          refine start_ (n := 18) (S := fun w' => w'.cell? ⟨gs, 0, none⟩ = some (.iface 63 (.pointer (some ⟨gr, 0, none⟩))) ∧ w'.cell? ⟨gs, 2, none⟩ = some (.slice (some ⟨gp, 0, none⟩) n0 cp)) (ds := [11, 17]) #[false, false, false, false, false, false, false, false, false, false, false, false, false, false, false, false, false, false] (by kernel_rfl) rfl rfl ⟨(blk_cell (blk_drew HG9.out) 0).trans rfl, (blk_cell (blk_drew HG9.out) 2).trans rfl⟩ (fun hHeld => ?_)
          refine pure_ (i := 0) (N := some 39) (v := ?_) (a' := ?_) #[true, false, false, false, false, false, false, false, false, false, false, false, false, false, false, false, false, false] rfl rfl (by kernel_rfl) (fun _ _ _ h => h) (Or.inl ⟨by rfl, ?_⟩) ?_ ?_
          rotate_left
          · intro w'
            go_simp
            with_reducible rfl
          rotate_left
          · simp only [Act.put, List.setIfInBounds_toArray, List.set_cons_zero, List.set_cons_succ, i64_w, i32_w]
            rfl
          refine pure_ (i := 1) (N := some 40) (v := ?_) (a' := ?_) #[true, true, false, false, false, false, false, false, false, false, false, false, false, false, false, false, false, false] rfl rfl (by kernel_rfl) (fun _ _ _ h => h) (Or.inl ⟨by rfl, ?_⟩) ?_ ?_
          rotate_left
          · intro w'
            go_simp
            with_reducible rfl
          rotate_left
          · simp only [Act.put, List.setIfInBounds_toArray, List.set_cons_zero, List.set_cons_succ, i64_w, i32_w]
            rfl
          refine pure_ (i := 2) (N := some 41) (v := ?_) (a' := ?_) #[true, true, true, false, false, false, false, false, false, false, false, false, false, false, false, false, false, false] rfl rfl (by kernel_rfl) (fun _ _ _ h => h) (Or.inl ⟨by rfl, ?_⟩) ?_ ?_
          rotate_left
          · intro w'
            go_simp
            with_reducible rfl
          rotate_left
          · simp only [Act.put, List.setIfInBounds_toArray, List.set_cons_zero, List.set_cons_succ, i64_w, i32_w]
            rfl
          refine pure_ (i := 3) (N := some 42) (v := ?_) (a' := ?_) #[true, true, true, true, false, false, false, false, false, false, false, false, false, false, false, false, false, false] rfl rfl (by kernel_rfl) (fun _ _ _ h => h) (Or.inl ⟨by rfl, ?_⟩) ?_ ?_
          rotate_left
          · intro w'
            go_simp
            with_reducible rfl
          rotate_left
          · simp only [Act.put, List.setIfInBounds_toArray, List.set_cons_zero, List.set_cons_succ, i64_w, i32_w]
            rfl
          refine pure_ (i := 5) (N := some 44) (v := ?_) (a' := ?_) #[true, true, true, true, false, true, false, false, false, false, false, false, false, false, false, false, false, false] rfl rfl (by kernel_rfl) (fun _ _ _ h => h) (Or.inl ⟨by rfl, ?_⟩) ?_ ?_
          rotate_left
          · intro w'
            go_simp
            with_reducible rfl
          rotate_left
          · simp only [Act.put, List.setIfInBounds_toArray, List.set_cons_zero, List.set_cons_succ, i64_w, i32_w]
            rfl
          refine pure_ (i := 6) (N := some 45) (v := ?_) (a' := ?_) #[true, true, true, true, false, true, true, false, false, false, false, false, false, false, false, false, false, false] rfl rfl (by kernel_rfl) (fun _ _ _ h => h) (Or.inl ⟨by rfl, ?_⟩) ?_ ?_
          rotate_left
          · intro w'
            go_simp
            with_reducible rfl
          rotate_left
          · simp only [Act.put, List.setIfInBounds_toArray, List.set_cons_zero, List.set_cons_succ, i64_w, i32_w]
            rfl
          refine pure_ (i := 7) (N := some 46) (v := ?_) (a' := ?_) #[true, true, true, true, false, true, true, true, false, false, false, false, false, false, false, false, false, false] rfl rfl (by kernel_rfl) (fun _ _ _ h => h) (Or.inl ⟨by rfl, ?_⟩) ?_ ?_
          rotate_left
          · intro w'
            go_simp
            with_reducible rfl
          rotate_left
          · simp only [Act.put, List.setIfInBounds_toArray, List.set_cons_zero, List.set_cons_succ, i64_w, i32_w]
            rfl
          refine pure_ (i := 9) (N := some 48) (v := ?_) (a' := ?_) #[true, true, true, true, false, true, true, true, false, true, false, false, false, false, false, false, false, false] rfl rfl (by kernel_rfl) (fun _ _ _ h => h) (Or.inl ⟨by rfl, ?_⟩) ?_ ?_
          rotate_left
          · intro w'
            go_simp
            with_reducible rfl
          rotate_left
          · simp only [Act.put, List.setIfInBounds_toArray, List.set_cons_zero, List.set_cons_succ, i64_w, i32_w]
            rfl
          refine take_ (i := 4) (N := some 43) (v := ?_) (a' := ?_) #[true, true, true, true, true, true, true, true, false, true, false, false, false, false, false, false, false, false] rfl rfl (by kernel_rfl) (fun _ _ _ h => h) (Or.inl ⟨by rfl, ?_⟩) hHeld ?_ ?_
          rotate_left
          · rintro w' ⟨s0, s1⟩
            go_simp
            with_reducible rfl
          rotate_left
          · simp only [Act.put, List.setIfInBounds_toArray, List.set_cons_zero, List.set_cons_succ, i64_w, i32_w]
            rfl
          refine take_ (i := 8) (N := some 47) (v := ?_) (a' := ?_) #[true, true, true, true, true, true, true, true, true, true, false, false, false, false, false, false, false, false] rfl rfl (by kernel_rfl) (fun _ _ _ h => h) (Or.inl ⟨by rfl, ?_⟩) hHeld ?_ ?_
          rotate_left
          · rintro w' ⟨s0, s1⟩
            go_simp
            with_reducible rfl
          rotate_left
          · simp only [Act.put, List.setIfInBounds_toArray, List.set_cons_zero, List.set_cons_succ, i64_w, i32_w]
            rfl
          refine pure_ (i := 10) (N := some 49) (v := ?_) (a' := ?_) #[true, true, true, true, true, true, true, true, true, true, true, false, false, false, false, false, false, false] rfl rfl (by kernel_rfl) (fun _ _ _ h => h) (Or.inl ⟨by rfl, ?_⟩) ?_ ?_
          rotate_left
          · intro w'
            go_simp
            with_reducible rfl
          rotate_left
          · simp only [Act.put, List.setIfInBounds_toArray, List.set_cons_zero, List.set_cons_succ, i64_w, i32_w]
            rfl
          refine last_ (i := 11) (N := some 50) #[true, true, true, true, true, true, true, true, true, true, true, true, false, false, false, false, false, false] rfl rfl (by kernel_rfl) (by decide) (fun K hK => ?_)
          refine goes_ Tryd.func56 (by kernel_rfl) rfl #[.iface 63 (.pointer (some ⟨gr, 0, none⟩)), .slice (some ⟨gp, 0, none⟩) n cp] (by rfl) rfl rfl (by simp only [List.map_toArray, List.map_cons, List.map_nil]; rfl) ?_
          with_reducible refine (HRF.out).mono ?_
          rintro e wA ⟨hnA, hrA, hgA, rfl⟩
          refine ⟨_, rfl, ?_⟩
          have HNA := Aside0.mk hnA
          have HRA := Aside0.mk hrA
          have HPA := Aside0.mk hgA
          clear hnA hrA hgA
          have HGA := Aside0.mk ((HNA.out.block gs (blk_lt (blk_drew HG9.out)) HNE.out HGPS.out).trans (blk_drew HG9.out))
          have s1 := (blk_cell HGA.out 1).trans (show _ = some Value.nilIface from rfl)
          have s1f := blk_frozen HGA.out 1
          refine hK.out _ _ ?_
          clear hK K
          refine norm_ (a' := ?_) ?_ ?_
          rotate_left
          · show Act.put _ (some 50) _ = _
            simp only [Act.put, List.setIfInBounds_toArray, List.set_cons_zero, List.set_cons_succ, i64_w, i32_w]
            rfl
          refine pure_ (i := 12) (N := some 38) (v := ?_) (a' := ?_) #[true, true, true, true, true, true, true, true, true, true, true, true, true, false, false, false, false, false] rfl rfl (by kernel_rfl) (fun _ _ _ h => h) (Or.inl ⟨by rfl, ?_⟩) ?_ ?_
          rotate_left
          · intro w'
            go_simp
            with_reducible rfl
          rotate_left
          · simp only [Act.put, List.setIfInBounds_toArray, List.set_cons_zero, List.set_cons_succ, i64_w, i32_w]
            rfl
          refine pure_ (i := 13) (N := some 51) (v := ?_) (a' := ?_) #[true, true, true, true, true, true, true, true, true, true, true, true, true, true, false, false, false, false] rfl rfl (by kernel_rfl) (fun _ _ _ h => h) (Or.inl ⟨by rfl, ?_⟩) ?_ ?_
          rotate_left
          · intro w'
            go_simp
            with_reducible rfl
          rotate_left
          · simp only [Act.put, List.setIfInBounds_toArray, List.set_cons_zero, List.set_cons_succ, i64_w, i32_w]
            rfl
          refine pure_ (i := 14) (N := some 52) (v := ?_) (a' := ?_) #[true, true, true, true, true, true, true, true, true, true, true, true, true, true, true, false, false, false] rfl rfl (by kernel_rfl) (fun _ _ _ h => h) (Or.inl ⟨by rfl, ?_⟩) ?_ ?_
          rotate_left
          · intro w'
            go_simp
            with_reducible rfl
          rotate_left
          · simp only [Act.put, List.setIfInBounds_toArray, List.set_cons_zero, List.set_cons_succ, i64_w, i32_w]
            rfl
          refine pure_ (i := 15) (N := some 53) (v := ?_) (a' := ?_) #[true, true, true, true, true, true, true, true, true, true, true, true, true, true, true, true, false, false] rfl rfl (by kernel_rfl) (fun _ _ _ h => h) (Or.inl ⟨by rfl, ?_⟩) ?_ ?_
          rotate_left
          · intro w'
            go_simp
            with_reducible rfl
          rotate_left
          · simp only [Act.put, List.setIfInBounds_toArray, List.set_cons_zero, List.set_cons_succ, i64_w, i32_w]
            rfl
          refine pure_ (i := 16) (N := some 54) (v := ?_) (a' := ?_) #[true, true, true, true, true, true, true, true, true, true, true, true, true, true, true, true, true, false] rfl rfl (by kernel_rfl) (fun _ _ _ h => h) (Or.inl ⟨by rfl, ?_⟩) ?_ ?_
          rotate_left
          · intro w'
            go_simp
            with_reducible rfl
          rotate_left
          · simp only [Act.put, List.setIfInBounds_toArray, List.set_cons_zero, List.set_cons_succ, i64_w, i32_w]
            rfl
          refine last_ (i := 17) (N := none) #[true, true, true, true, true, true, true, true, true, true, true, true, true, true, true, true, true, true] rfl rfl (by kernel_rfl) (by decide) (fun K hK => ?_)
          refine step_store1 (by rfl) 55 _ _ rfl rfl gs 1 ye .nilIface rfl rfl HYI.out (by kernel_rfl) s1 s1f ?_
          refine hK.out _ _ ?_
          clear hK K
          refine done_ (by kernel_rfl) ?_
          clear HYI
          have HGB := Aside0.mk (show AtSc (wA.setCell ⟨gs, 1, none⟩ ye) gs gr ye (.slice (some ⟨gp, 0, none⟩) n0 cp) l1 from sc_put1 HGA.out)
          have HRB := Aside0.mk (show AtRd (wA.setCell ⟨gs, 1, none⟩ ye) gr A xs.length c (i + 4 + m2) from by obtain ⟨pr, h⟩ := HRA.out; exact ⟨pr, (Below.heap_setCell _ ⟨gs, 1, none⟩ _ gr (Ne.symm HNE.out)).trans h⟩)
          have HPB := Aside0.mk (show (wA.setCell ⟨gs, 1, none⟩ ye).heap[gp]? = _ from (Below.heap_setCell _ ⟨gs, 1, none⟩ _ gp HGPN.out).trans HPA.out)
          have HNB := Aside0.mk (show Near3 w (wA.setCell ⟨gs, 1, none⟩ ye) gs gr (Value.slice (some ⟨gp, 0, none⟩) n0 cp).ownBlock from ((HN9.out.drew.trans_own HNA.out (fun k hk => HOWNK.out k hk)).put 1 ye))
          have HBB := Aside0.mk (show Below w0.heap.size w0 (wA.setCell ⟨gs, 1, none⟩ ye) from ((below_drew1 HB9.out).trans (HNA.out.below HB9.out.size HGE.out (fun q hq => by injection hq with hq; rw [← hq]; exact HGPB.out))).setCell (by exact HGS.out) _)
          generalize hWB : wA.setCell ⟨gs, 1, none⟩ ye = WB
          rw [hWB] at HGB HRB HPB HNB HBB
          clear hWB s1 s1f HRA HPA HNA HGA
          have u1 := (blk_cell HGB.out 1).trans (show _ = some ye from rfl)
          by_cases hm : m2 = n
          · have hye : Value.nilIface = ye := by have := HYE.out; rwa [if_pos hm] at this
            subst hye
            subst hm
            have u2 := (blk_cell HGB.out 2).trans (show _ = some (Value.slice (some ⟨gp, 0, none⟩) n0 cp) from rfl)
            have u2f := blk_frozen HGB.out 2
            have v1 : (0 : Int) ≤ (m2 : Int) := by omega
            have v2 : (m2 : Int) ≤ (cp : Int) := by omega
            go_wp2_with fail
            have hcp := hcn
            have hpn := HM2.out
            have hpr := HPBY.out
            obtain ⟨b, hpb⟩ : ∃ b, isErr p = b := ⟨_, rfl⟩
            have HG11 := Aside0.mk (show (WB.setCell ⟨gs, 2, none⟩ (.slice (some ⟨gp, 0, none⟩) m2 cp)).drew.heap[gs]? = some (.cells (scL gr .nilIface (.slice (some ⟨gp, 0, none⟩) m2 cp) l1).toArray 126 (0, 0)) from sc_put2 HGB.out)
            have HN11 := Aside0.mk (show Near3 w (WB.setCell ⟨gs, 2, none⟩ (.slice (some ⟨gp, 0, none⟩) m2 cp)).drew gs gr (Value.slice (some ⟨gp, 0, none⟩) n0 cp).ownBlock from (HNB.out.put 2 _).drew)
            have HB11 := Aside0.mk (show Below w0.heap.size w0 (WB.setCell ⟨gs, 2, none⟩ (.slice (some ⟨gp, 0, none⟩) m2 cp)).drew from below_drew1 (HBB.out.setCell (by exact HGS.out) _))
            have HR11 := Aside0.mk (show AtRd (WB.setCell ⟨gs, 2, none⟩ (.slice (some ⟨gp, 0, none⟩) m2 cp)).drew gr A xs.length c (i + 4 + m2) from by obtain ⟨pr, h⟩ := HRB.out; exact ⟨pr, (Below.heap_setCell _ ⟨gs, 2, none⟩ _ gr (Ne.symm HNE.out)).trans h⟩)
            have HPC := Aside0.mk (show (WB.setCell ⟨gs, 2, none⟩ (.slice (some ⟨gp, 0, none⟩) m2 cp)).drew.heap[gp]? = _ from (Below.heap_setCell _ ⟨gs, 2, none⟩ _ gp HGPN.out).trans HPB.out)
            have HC11 := Aside0.mk (C_splice HPC.out (by omega))
            have HP11 := Aside0.mk (show PayOk (WB.setCell ⟨gs, 2, none⟩ (.slice (some ⟨gp, 0, none⟩) m2 cp)).drew w0.heap.size (.slice (some ⟨gp, 0, none⟩) m2 cp) from .inr ⟨gp, m2, cp, _, rfl, HPC.out, by rw [length_splice _ _ _ (by rw [bv_len, hpn]; omega)]; exact hcl, hcn, HGPB.out⟩)
            cases b with
            | true =>
              have hst : st = .bad := by
                have h := HST0.out
                rw [if_neg (HGET.out (by first | rfl | trivial)), HPX.out, if_pos hpb] at h
                exact h
              subst hst
              have HTR := Aside0.mk (HERR.out (HGET.out (by first | rfl | trivial)) (by rw [HPX.out]; exact hpb))
              have h4 : 4 ≤ m2 := by rw [← hpn]; exact isErr_four hpb
              clear u1 u2 u2f
              refine start_ (n := 6) (S := fun w' => w'.cell? ⟨gs, 2, none⟩ = some (.slice (some ⟨gp, 0, none⟩) m2 cp)) (ds := [5]) #[false, false, false, false, false, false] (by kernel_rfl) rfl rfl ((blk_cell HG11.out 2).trans rfl) (fun hHeld => ?_)
              refine pure_ (i := 0) (N := some 69) (v := ?_) (a' := ?_) #[true, false, false, false, false, false] rfl rfl (by kernel_rfl) (fun _ _ _ h => h) (Or.inl ⟨by rfl, ?_⟩) ?_ ?_
              rotate_left
              · intro w'
                go_simp
                with_reducible rfl
              rotate_left
              · simp only [Act.put, List.setIfInBounds_toArray, List.set_cons_zero, List.set_cons_succ, i64_w, i32_w]
                rfl
              refine pure_ (i := 1) (N := some 70) (v := ?_) (a' := ?_) #[true, true, false, false, false, false] rfl rfl (by kernel_rfl) (fun _ _ _ h => h) (Or.inl ⟨by rfl, ?_⟩) ?_ ?_
              rotate_left
              · intro w'
                go_simp
                with_reducible rfl
              rotate_left
              · simp only [Act.put, List.setIfInBounds_toArray, List.set_cons_zero, List.set_cons_succ, i64_w, i32_w]
                rfl
              refine pure_ (i := 2) (N := some 71) (v := ?_) (a' := ?_) #[true, true, true, false, false, false] rfl rfl (by kernel_rfl) (fun _ _ _ h => h) (Or.inl ⟨by rfl, ?_⟩) ?_ ?_
              rotate_left
              · intro w'
                go_simp
                with_reducible rfl
              rotate_left
              · simp only [Act.put, List.setIfInBounds_toArray, List.set_cons_zero, List.set_cons_succ, i64_w, i32_w]
                rfl
              refine take_ (i := 3) (N := some 72) (v := ?_) (a' := ?_) #[true, true, true, true, false, false] rfl rfl (by kernel_rfl) (fun _ _ _ h => h) (Or.inl ⟨by rfl, ?_⟩) hHeld ?_ ?_
              rotate_left
              · intro w' s0
                go_simp
                with_reducible rfl
              rotate_left
              · simp only [Act.put, List.setIfInBounds_toArray, List.set_cons_zero, List.set_cons_succ, i64_w, i32_w]
                rfl
              refine one_ (i := 4) (N := some 73) #[true, true, true, true, true, false] rfl rfl (by kernel_rfl) (by decide) (fun K hK => ?_)
              refine goes_ Tryd.func58 (by kernel_rfl) rfl #[] (by rfl) rfl rfl (by first | rfl | simp) ?_
              with_reducible refine (errPrefix_any _).mono ?_
              rintro e wE ⟨AE, cE, rfl, hcE, hCE, hbE⟩
              refine ⟨_, rfl, ?_⟩
              have HGE := Aside0.mk ((hbE.block gs (blk_lt HG11.out)).trans HG11.out)
              have HPE := Aside0.mk (Kd.C_below HC11.out hbE)
              have HCE := Aside0.mk hCE
              have HbE := Aside0.mk hbE
              clear hCE hbE
              refine hK.out _ _ ((blk_cell HGE.out 2).trans rfl) (fun hHeld => ?_)
              clear hK K
              refine norm_ (a' := ?_) ?_ ?_
              rotate_left
              · show Act.put _ (some 73) _ = _
                simp only [Act.put, List.setIfInBounds_toArray, List.set_cons_zero, List.set_cons_succ, i64_w, i32_w]
                rfl
              refine last_ (i := 5) (N := some 74) #[true, true, true, true, true, true] rfl rfl (by kernel_rfl) (by decide) (fun K hK => ?_)
              refine goes_ Tryd.func57 (by kernel_rfl) rfl #[.slice (some ⟨gp, 0, none⟩) m2 cp, .slice AE 4 cE] (by rfl) rfl rfl (by simp only [List.map_toArray, List.map_cons, List.map_nil]; rfl) ?_
              with_reducible refine (hasPrefix_any p m2 hpn hpr (some ⟨gp, 0, none⟩) cp hcp _ AE cE HPE.out HCE.out hcE true hpb).mono ?_
              rintro e wF ⟨rfl, ⟨ndF, rfl⟩⟩
              refine ⟨_, rfl, ?_⟩
              refine hK.out _ _ ?_
              clear hK K
              refine norm_ (a' := ?_) ?_ ?_
              rotate_left
              · show Act.put _ (some 74) _ = _
                simp only [Act.put, List.setIfInBounds_toArray, List.set_cons_zero, List.set_cons_succ, i64_w, i32_w]
                rfl
              refine done_ (by kernel_rfl) ?_
              have HbF := Aside0.mk (pw_below_drewN HbE.out ndF)
              have HGF := Aside0.mk ((HbF.out.block gs (blk_lt HG11.out)).trans HG11.out)
              have HPF := Aside0.mk (Kd.C_below HC11.out HbF.out)
              have HB9F := Aside0.mk (below_step HB11.out HbF.out)
              have HPAF := Aside0.mk (HP11.out.far (fun k hk hlt => HbF.out.block k hlt))
              have HNF := Aside0.mk (HN11.out.trans (Near3.of_below (g1 := gs) (g2 := gr) (row := (Value.slice (some ⟨gp, 0, none⟩) n0 cp).ownBlock) HbF.out))
              generalize hwF : wE.drewN ndF = wF
              rw [hwF] at HbF HGF HPF HB9F HPAF HNF
              clear hwF
              have HPLU := Aside0.mk ((blk_cell HGF.out 2).trans (show _ = some (Value.slice (some ⟨gp, 0, none⟩) m2 cp) from rfl))
              obtain ⟨i6, hi6, hz6, hs6, hb6⟩ := info_parts info5
              have hsl := cut_from (P := Tryd.prog) 25 5 .i64 Tryd.underlying25 hi6 1 hs6 (some ⟨gp, 0, none⟩) m2 cp 4 (by omega) (by omega)
              have hCT := Kd.C_drop HPF.out (m := 4) (c := cp) (by omega) (by omega)
              have hl5 : (p.drop 4).length = m2 - 4 := by rw [List.length_drop, hpn]
              rw [hl5] at hCT
              have hsz4 : (4 : Int).toNat = 4 := rfl
              rw [hsz4] at hsl
              obtain ⟨AT, hAT⟩ : ∃ AT : Option Addr, (if cp = 4 then some ⟨gp, 0, none⟩ else (some (⟨gp, 0, none⟩ : Addr)).map (·.add (4 * 1))) = AT := ⟨_, rfl⟩
              have hCT2 : (Kd.int .u8).C wF AT (p.drop 4).length (p.drop 4) := by rw [← hAT, hl5]; exact hCT
              simp only [hAT] at hsl
              have hcv := Kd.C_string (P := Tryd.prog) (A := AT) (c := cp - 4) Tryd.underlying25 Tryd.underlying5 Tryd.underlying9 hCT2
              rw [hl5] at hcv
              obtain ⟨sv, hsv⟩ : ∃ sv, strOfNums (p.drop 4) = sv := ⟨_, rfl⟩
              have hss : sv.size ≤ 100000 := by
                rw [← hsv]
                have hn6 := hn6
                show ((p.drop 4).map _).toArray.size ≤ _
                simp [hl5]
                omega
              rw [hsv] at hcv
              have HTS := Aside0.mk (HTR.out sv wF hss HB9F.out)
              have hv2 := HPLU.out
              clear hCT hCT2 hsv hAT hl5
              go_wp2_with fail
              refine HTS.out.mono ?_
              rintro e wG ⟨rt, rfl, hbG⟩
              have HbG := Aside0.mk hbG
              clear HTS hbG hcv hsl hv2
              go_wp2_with (first | ((with_reducible refine gate_dst (N := 84) rfl ?_); refine box_event ?hg (N := 84) ?hd (cs := #[.string rt]) (t := 132) ?hr ?_; (case hd => rfl); (case hg => rfl); (case hr => first | (go_simp; done) | (go_simp; rfl)); intro gx hgx wH hbox hb1; have HBX := Aside0.mk hbox; have HbH := Aside0.mk (below_step HbG.out hb1); have HGH := Aside0.mk ((HbH.out.block gs (blk_lt HGF.out)).trans HGF.out); have z1 := (blk_cell HGH.out 1).trans (show _ = some Value.nilIface from rfl); have z1f := blk_frozen HGH.out 1; clear hbox hb1 hgx) | fail)
              go_ret
              exact ⟨_, _, l1, (HNF.out.trans (Near3.of_below HbH.out)).put 1 _, HL1.out, sc_put1 HGH.out, (HPAF.out.far (fun k hk hlt => HbH.out.block k hlt)).far (fun k hk _ => Below.heap_setCell _ ⟨gs, 1, none⟩ _ k (fun he => HGPN.out (by injection hk with hk; exact hk.trans he))), fun k hk => HOWNK.out k (by injection hk), (below_step HB9F.out HbH.out).setCell (by exact HGS.out) _, rfl, _, _, rfl⟩
            | false =>
              have hst : st = .line p ((xs.drop (i + 4)).drop m2) := by
                have h := HST0.out
                rw [if_neg (HGET.out (by first | rfl | trivial)), HPX.out, if_neg (by rw [hpb]; decide)] at h
                exact h
              subst hst
              clear u1 u2 u2f
              refine start_ (n := 6) (S := fun w' => w'.cell? ⟨gs, 2, none⟩ = some (.slice (some ⟨gp, 0, none⟩) m2 cp)) (ds := [5]) #[false, false, false, false, false, false] (by kernel_rfl) rfl rfl ((blk_cell HG11.out 2).trans rfl) (fun hHeld => ?_)
              refine pure_ (i := 0) (N := some 69) (v := ?_) (a' := ?_) #[true, false, false, false, false, false] rfl rfl (by kernel_rfl) (fun _ _ _ h => h) (Or.inl ⟨by rfl, ?_⟩) ?_ ?_
              rotate_left
              · intro w'
                go_simp
                with_reducible rfl
              rotate_left
              · simp only [Act.put, List.setIfInBounds_toArray, List.set_cons_zero, List.set_cons_succ, i64_w, i32_w]
                rfl
              refine pure_ (i := 1) (N := some 70) (v := ?_) (a' := ?_) #[true, true, false, false, false, false] rfl rfl (by kernel_rfl) (fun _ _ _ h => h) (Or.inl ⟨by rfl, ?_⟩) ?_ ?_
              rotate_left
              · intro w'
                go_simp
                with_reducible rfl
              rotate_left
              · simp only [Act.put, List.setIfInBounds_toArray, List.set_cons_zero, List.set_cons_succ, i64_w, i32_w]
                rfl
              refine pure_ (i := 2) (N := some 71) (v := ?_) (a' := ?_) #[true, true, true, false, false, false] rfl rfl (by kernel_rfl) (fun _ _ _ h => h) (Or.inl ⟨by rfl, ?_⟩) ?_ ?_
              rotate_left
              · intro w'
                go_simp
                with_reducible rfl
              rotate_left
              · simp only [Act.put, List.setIfInBounds_toArray, List.set_cons_zero, List.set_cons_succ, i64_w, i32_w]
                rfl
              refine take_ (i := 3) (N := some 72) (v := ?_) (a' := ?_) #[true, true, true, true, false, false] rfl rfl (by kernel_rfl) (fun _ _ _ h => h) (Or.inl ⟨by rfl, ?_⟩) hHeld ?_ ?_
              rotate_left
              · intro w' s0
                go_simp
                with_reducible rfl
              rotate_left
              · simp only [Act.put, List.setIfInBounds_toArray, List.set_cons_zero, List.set_cons_succ, i64_w, i32_w]
                rfl
              refine one_ (i := 4) (N := some 73) #[true, true, true, true, true, false] rfl rfl (by kernel_rfl) (by decide) (fun K hK => ?_)
              refine goes_ Tryd.func58 (by kernel_rfl) rfl #[] (by rfl) rfl rfl (by first | rfl | simp) ?_
              with_reducible refine (errPrefix_any _).mono ?_
              rintro e wE ⟨AE, cE, rfl, hcE, hCE, hbE⟩
              refine ⟨_, rfl, ?_⟩
              have HGE := Aside0.mk ((hbE.block gs (blk_lt HG11.out)).trans HG11.out)
              have HPE := Aside0.mk (Kd.C_below HC11.out hbE)
              have HCE := Aside0.mk hCE
              have HbE := Aside0.mk hbE
              clear hCE hbE
              refine hK.out _ _ ((blk_cell HGE.out 2).trans rfl) (fun hHeld => ?_)
              clear hK K
              refine norm_ (a' := ?_) ?_ ?_
              rotate_left
              · show Act.put _ (some 73) _ = _
                simp only [Act.put, List.setIfInBounds_toArray, List.set_cons_zero, List.set_cons_succ, i64_w, i32_w]
                rfl
              refine last_ (i := 5) (N := some 74) #[true, true, true, true, true, true] rfl rfl (by kernel_rfl) (by decide) (fun K hK => ?_)
              refine goes_ Tryd.func57 (by kernel_rfl) rfl #[.slice (some ⟨gp, 0, none⟩) m2 cp, .slice AE 4 cE] (by rfl) rfl rfl (by simp only [List.map_toArray, List.map_cons, List.map_nil]; rfl) ?_
              with_reducible refine (hasPrefix_any p m2 hpn hpr (some ⟨gp, 0, none⟩) cp hcp _ AE cE HPE.out HCE.out hcE false hpb).mono ?_
              rintro e wF ⟨rfl, ⟨ndF, rfl⟩⟩
              refine ⟨_, rfl, ?_⟩
              refine hK.out _ _ ?_
              clear hK K
              refine norm_ (a' := ?_) ?_ ?_
              rotate_left
              · show Act.put _ (some 74) _ = _
                simp only [Act.put, List.setIfInBounds_toArray, List.set_cons_zero, List.set_cons_succ, i64_w, i32_w]
                rfl
              refine done_ (by kernel_rfl) ?_
              go_wp2_with fail
              go_ret
              have hbF := pw_below_drewN HbE.out ndF
              refine ⟨.nilIface, (.slice (some ⟨gp, 0, none⟩) m2 cp), l1, HN11.out.trans (Near3.of_below hbF), HL1.out, (hbF.block gs (blk_lt HG11.out)).trans HG11.out, HP11.out.far (fun k hk hlt => hbF.block k hlt), fun k hk => HOWNK.out k (by injection hk), below_step HB11.out hbF, rfl, rfl, by rw [hpn]; exact HR11.out.below hbF, some ⟨gp, 0, none⟩, cp, by rw [hpn], by rw [hpn]; exact hcn, Kd.C_below HC11.out hbF⟩
          · have hst : st = .bad := by
              have h := HST0.out
              rw [if_pos (HLT.out hm)] at h
              exact h
            subst hst
            have HPBK := Aside0.mk (show PayOk WB w0.heap.size (.slice (some ⟨gp, 0, none⟩) n0 cp) from .inr ⟨gp, n0, cp, _, rfl, HPB.out, by rw [length_splice _ _ _ (by rw [bv_len, HM2.out]; have := HM2N.out; omega)]; exact hcl, by omega, HGPB.out⟩)
            by_cases hm0 : m2 = 0
            · have hye : (.iface 179 (.pointer (some a1))) = ye := by have := HYE.out; rwa [if_neg hm, if_pos hm0] at this
              subst hye
              go_wp2_with fail
              go_ret
              exact ⟨_, _, l1, HNB.out, HL1.out, HGB.out, HPBK.out, fun k hk => HOWNK.out k (by injection hk), HBB.out, rfl, _, _, rfl⟩
            · have hye : (.iface 179 (.pointer (some a2))) = ye := by have := HYE.out; rwa [if_neg hm, if_neg hm0] at this
              subst hye
              go_wp2_with fail
              go_ret
              exact ⟨_, _, l1, HNB.out, HL1.out, HGB.out, HPBK.out, fun k hk => HOWNK.out k (by injection hk), HBB.out, rfl, _, _, rfl⟩
end Go.Proofs.YtghcecngdhcjpaaDoor.pkt
