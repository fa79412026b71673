/- Trees: impl.EncodeTree, and the law FnTreeUnsorted. -/
import Derived.Test.YtdelomacpmpgoaaDoorTreeE
namespace Go.Proofs.YtdelomacpmpgoaaDoor.tree
open Go.RowKit Go.Proofs.YtdelomacpmpgoaaDoorW.PrintWords Go.Proofs.YtdelomacpmpgoaaDoorW.PrintLast Go.Proofs.YtdelomacpmpgoaaDoorW.PrintMore Go.Proofs.YtdelomacpmpgoaaDoor.PFnTreeUnsorted Go.Proofs.YtdelomacpmpgoaaDoor.ord
set_option linter.unusedVariables false
set_option linter.unusedSimpArgs false
set_option maxHeartbeats 2000000
set_option maxRecDepth 100000
theorem textOf_nil (w : World) (go : Nat) (marr : Array Value) (ae : Addr) (hM : w.heap[go]? = some (.cells marr 47 (0, 0))) (hc : marr[21]? = some (.slice none 0 0)) (hE : Eof w ae) :
    Calls Tryd.prog 13 #[.iface 43 (.pointer (some ⟨go, 0, none⟩))] w fun e w' => ∃ v, e = .returned (.tuple #[v, .bool true]) ∧ Below w.heap.size w w' := by
  have HM := Aside0.mk hM
  have HC := Aside0.mk hc
  have HE := Aside0.mk hE
  have hn1 := mo_nil ⟨go, 0, none⟩ "Reader" (.inr (.inr (.inr rfl)))
  have hm1 := mo_reader ⟨go, 0, none⟩
  clear hM hc hE
  go_enter Tryd.func13, Tryd.ntmps13
  go_wp2_with fail
  refine (reader_nil _ go marr HM.out HC.out).mono ?_
  rintro e w1 ⟨gr, rfl, hR, hb⟩
  have HR := Aside0.mk hR
  have HB1 := Aside0.mk hb
  clear hR hb
  go_wp2_with fail
  refine (readAll_nil _ gr ae HR.out (Eof.below HE.out HB1.out)).mono ?_
  rintro e w2 ⟨v, rfl, hb⟩
  have HB2 := Aside0.mk (below_step HB1.out hb)
  have hn2 := nc_nil ⟨gr, 0, none⟩ "Close" (.inl rfl)
  have hm2 := nc_close ⟨gr, 0, none⟩
  clear hb
  go_wp2_with fail
  refine (ncClose_any _ _).mono ?_
  rintro e w3 ⟨rfl, hb⟩
  have HB3 := Aside0.mk (below_step HB2.out hb)
  clear hb
  go_wp2_with fail
  go_ret2
  exact ⟨v, rfl, HB3.out⟩
theorem entriesOf_nil (w : World) : Calls Tryd.prog 11 #[.slice none 0 0] w fun e w' => e = .returned (.slice none 0 0) ∧ w = w' := by
  go_enter Tryd.func11, Tryd.ntmps11
  go_wp2_with fail
  go_loopg [3, 8] 1 (fun kq v3 v8 w' => v3 = .slice none 0 0 ∧ v8 = .int .i64 0 ∧ Aside0 (kq = 1) ∧ w = w')
  case atStart => exact ⟨rfl, rfl, ⟨rfl⟩, rfl⟩
  case round =>
    obtain ⟨rfl, rfl, HK, rfl⟩ := hrel
    cases gk with
    | zero => exact absurd HK.out (by omega)
    | succ k1 =>
      go_wp2_with fail
      go_ret
      exact ⟨rfl, rfl⟩
structure Env (w : World) (ev : Value) (τ : TypeId) (uv : Value) (ae : Addr) : Prop where
  len : w.cell? ⟨2, 0, none⟩ = some ev
  srt : w.cell? ⟨0, 0, none⟩ = some (.iface τ uv)
  eof : Eof w ae
theorem Env.below {w w' : World} {ev : Value} {τ : TypeId} {uv : Value} {ae : Addr} (h : Env w ev τ uv ae) (hb : Below w.heap.size w w') : Env w' ev τ uv ae :=
  ⟨(hb.cell (World.block_lt_of_cell? w _ h.len)).trans h.len, (hb.cell (World.block_lt_of_cell? w _ h.srt)).trans h.srt, h.eof.below hb⟩
theorem encodeTree_nil (w : World) (ev : Value) (τ : TypeId) (uv : Value) (ae : Addr) (hE : Env w ev τ uv ae) :
    Calls Tryd.prog 7 #[.slice none 0 0] w fun e w' => ∃ v, e = .returned (.tuple #[v, .bool true]) ∧ Below w.heap.size w w' := by
  have HE := Aside0.mk hE
  clear hE
  go_enter Tryd.func7, Tryd.ntmps7
  go_wp2_with fail
  refine (entriesOf_nil _).mono ?_
  rintro e w1 ⟨rfl, rfl⟩
  go_wp2_with (first | ((with_reducible refine gate_dst (N := 9) rfl ?_); refine box_event ?hg (N := 9) ?hd (cs := #[.slice none 0 0, .int .u8 0, .int .u8 0, .int .u8 0, .int .u8 0, .int .u8 0, .int .u8 0, .int .u8 0, .int .u8 0, .int .u8 0, .int .u8 0, .int .u8 0, .int .u8 0, .int .u8 0, .int .u8 0, .int .u8 0, .int .u8 0, .int .u8 0, .int .u8 0, .int .u8 0, .int .u8 0, .nilIface, .map none, .bool false]) (t := 42) ?hr ?_; (case hd => rfl); (case hg => rfl); (case hr => first | (go_simp; done) | (go_simp; rfl)); intro gt hgt wt hbox hb; have BT := Aside0.mk hbox; have HBT0 := Aside0.mk hb; have GT := Aside0.mk hgt; skip; clear hbox hb hgt) | ((with_reducible refine gate_dst (N := 11) rfl ?_); refine box_event ?hg (N := 11) ?hd (cs := #[.int .i8 0, .int .u8 0, .int .u8 0, .int .u8 0, .int .u8 0, .int .u8 0, .int .u8 0, .int .u8 0, .int .u8 0, .int .u8 0, .int .u8 0, .int .u8 0, .int .u8 0, .int .u8 0, .int .u8 0, .int .u8 0, .int .u8 0, .int .u8 0, .int .u8 0, .int .u8 0, .int .u8 0, .slice none 0 0, .int .i64 0]) (t := 47) ?hr ?_; (case hd => rfl); (case hg => rfl); (case hr => first | (go_simp; done) | (go_simp; rfl)); intro go hgo wm hbox hb; have BM := Aside0.mk hbox; have HBM0 := Aside0.mk hb; have GO := Aside0.mk hgo; skip; clear hbox hb hgo) | fail)
  have HBM := Aside0.mk (show Below w.heap.size w wm from below_step HBT0.out HBM0.out)
  have hlt : gt < wt.heap.size := blk_lt BT.out
  refine (encode_nil wm w.heap.size 0 gt go _ (.int .i8 0) ((blk_cell (blk_below BT.out HBM0.out) 0).trans rfl) BM.out rfl (by have := GO.out; omega) (by have := GO.out; have := HBT0.out.size; omega) HBM.out.size).mono ?_
  rintro e w2 ⟨rfl, hb, m2, hm, hm21⟩
  have HB2 := Aside0.mk (HBM.out.trans hb)
  have HM2 := Aside0.mk hm
  have HM21 := Aside0.mk (hm21.trans (show _ = some (Value.slice none 0 0) from rfl))
  clear hb hm hm21
  go_wp2_with fail
  refine (textOf_nil _ go m2 ae HM2.out HM21.out (HE.out.below HB2.out).eof).mono ?_
  rintro e w3 ⟨v, rfl, hb⟩
  have HB3 := Aside0.mk (below_step HB2.out hb)
  clear hb
  go_wp2_with fail
  go_ret2
  exact ⟨v, rfl, HB3.out⟩
theorem encodeTree_bad (w : World) (A : Option Addr) (cc : Nat) (l : List S30) (hC : Kd.C k30 w A l.length l) (hn : l.length ≤ 1000) (hs : ∀ x ∈ l, Small x) (hg : ∀ x ∈ l, hash.name40 x.f2 = true) (js : Nat) (hj : js + 1 < l.length) (hb : Op.bytesLess (kl l[js + 1]) (kl l[js]) = true)
    (ev : Value) (τ : TypeId) (uv : Value) (ae : Addr) (hE : Env w ev τ uv ae) :
    Calls Tryd.prog 7 #[.slice A l.length cc] w fun e w' => ∃ v, e = .returned (.tuple #[v, .bool false]) ∧ Below w.heap.size w w' := by
  have HC := Aside0.mk hC
  have HS := Aside0.mk hs
  have HG := Aside0.mk hg
  have HJ := Aside0.mk hb
  have HE := Aside0.mk hE
  clear hC hs hg hb hE
  go_enter Tryd.func7, Tryd.ntmps7
  go_wp2_with fail
  refine (entriesOf_any _ A cc l HC.out hn HG.out ev HE.out.len).mono ?_
  rintro e w1 ⟨v, rfl, hR, hb⟩
  obtain ⟨Av, cv, ev'⟩ := Kd.R_slice hR
  subst ev'
  have HR1 := Aside0.mk hR
  have HB1 := Aside0.mk hb
  clear hR hb
  go_wp2_with (first | ((with_reducible refine gate_dst (N := 9) rfl ?_); refine box_event ?hg (N := 9) ?hd (cs := #[.slice Av l.length cv, .int .u8 0, .int .u8 0, .int .u8 0, .int .u8 0, .int .u8 0, .int .u8 0, .int .u8 0, .int .u8 0, .int .u8 0, .int .u8 0, .int .u8 0, .int .u8 0, .int .u8 0, .int .u8 0, .int .u8 0, .int .u8 0, .int .u8 0, .int .u8 0, .int .u8 0, .int .u8 0, .nilIface, .map none, .bool false]) (t := 42) ?hr ?_; (case hd => rfl); (case hg => rfl); (case hr => first | (go_simp; done) | (go_simp; rfl)); intro gt hgt wt hbox hb; have BT := Aside0.mk hbox; have HBT0 := Aside0.mk hb; have GT := Aside0.mk hgt; skip; clear hbox hb hgt) | ((with_reducible refine gate_dst (N := 11) rfl ?_); refine box_event ?hg (N := 11) ?hd (cs := #[.int .i8 0, .int .u8 0, .int .u8 0, .int .u8 0, .int .u8 0, .int .u8 0, .int .u8 0, .int .u8 0, .int .u8 0, .int .u8 0, .int .u8 0, .int .u8 0, .int .u8 0, .int .u8 0, .int .u8 0, .int .u8 0, .int .u8 0, .int .u8 0, .int .u8 0, .int .u8 0, .int .u8 0, .slice none 0 0, .int .i64 0]) (t := 47) ?hr ?_; (case hd => rfl); (case hg => rfl); (case hr => first | (go_simp; done) | (go_simp; rfl)); intro go hgo wm hbox hb; have BM := Aside0.mk hbox; have HBM0 := Aside0.mk hb; have GO := Aside0.mk hgo; skip; clear hbox hb hgo) | fail)
  have HBT := Aside0.mk (below_step HB1.out HBT0.out)
  have HBM := Aside0.mk (show Below w.heap.size w wm from below_step HBT.out HBM0.out)
  have hlt : gt < wt.heap.size := blk_lt BT.out
  have hE2 := HE.out.below HBM.out
  have hlg : 0 < w.heap.size := World.block_lt_of_cell? w _ HE.out.srt
  refine (encode_bad wm w.heap.size w.heap.size gt go Av cv l _ (.int .i8 0) τ uv ((blk_cell (blk_below BT.out HBM0.out) 0).trans rfl) BM.out rfl (by have := GO.out; omega) (Kd.R_below (Kd.R_below HR1.out HBT0.out) HBM0.out) HS.out hn js hj HJ.out hE2.srt (by have := GO.out; have := HBT.out.size; omega) (by have := GO.out; have := HBT.out.size; omega) HBM.out.size).mono ?_
  rintro e w2 ⟨rfl, hb⟩
  have HB2 := Aside0.mk (HBM.out.trans hb)
  clear hb
  go_wp2_with fail
  go_ret2
  exact ⟨_, rfl, HB2.out⟩
theorem unsorted_law (w : World) (A : Option Addr) (n cc : Nat) (l : List S30) (hC : Kd.C k30 w A l.length l) (hn : l.length = n) (hcc : n ≤ cc) (ev : Value) (τ : TypeId) (uv : Value) (ae : Addr) (hE : Env w ev τ uv ae) :
    Calls Tryd.prog 3 #[.slice A n cc] w fun e w' => e = .returned (.bool true) ∧ Below w.heap.size w w' := by
  subst hn
  have HC := Aside0.mk hC
  have HE := Aside0.mk hE
  obtain ⟨b0, hf0, hq0⟩ := fits_says l
  have HF := Aside0.mk (laws_zzFits20.calls _ A cc l b0 w hC hcc hf0)
  clear hC hE hf0
  cases b0 with
  | false =>
    go_enter Tryd.func3, Tryd.ntmps3
    go_wp2_with fail
    refine HF.out.mono ?_
    rintro e w1 ⟨rfl, hb⟩
    have HB := Aside0.mk hb
    clear hb
    go_wp2_with fail
    go_ret
    exact ⟨rfl, HB.out⟩
  | true =>
    have hsm := (hq0 rfl).2
    clear hq0
    by_cases hm : 1000 < l.length
    · have c0 : decide ((1000 : Int) < (l.length : Int)) = true := decide_eq_true (by omega)
      have c1 : decide (1000 < l.length) = true := decide_eq_true hm
      clear hsm
      go_enter Tryd.func3, Tryd.ntmps3
      go_wp2_with fail
      refine HF.out.mono ?_
      rintro e w1 ⟨rfl, hb⟩
      have HB := Aside0.mk hb
      clear hb
      go_wp2_with fail
      go_ret
      exact ⟨rfl, HB.out⟩
    have hl : l.length ≤ 1000 := by omega
    have c0 : decide ((1000 : Int) < (l.length : Int)) = false := decide_eq_false (by omega)
    have c1 : decide (1000 < l.length) = false := decide_eq_false hm
    obtain ⟨r, hr, hp⟩ := order_says l hl hsm
    have hrl : r.length ≤ 1000 := by rw [hp.length_eq]; exact hl
    obtain ⟨bw, hbw, qw, _⟩ := tree_says r hrl (fun x hx => hsm x (hp.mem_iff.1 hx))
    obtain ⟨bl, hbl, _, ql⟩ := tree_says l hl hsm
    have HO := Aside0.mk (fun W (hb : Below w.heap.size w W) => spec_TreeInOrder.calls _ A cc l r W (Kd.C_below HC.out hb) hcc hr)
    have HTW := Aside0.mk (fun W (A' : Option Addr) (c' : Nat) (h : Kd.C k30 W A' r.length r) (h' : r.length ≤ c') => spec_IsTree.calls _ A' c' r bw W h h' hbw)
    have HTL := Aside0.mk (fun W (hb : Below w.heap.size w W) => spec_IsTree.calls _ A cc l bl W (Kd.C_below HC.out hb) hcc hbl)
    have HBAD := Aside0.mk (fun (hw : bw = true) (hl' : bl = false) => show (∀ x ∈ l, hash.name40 x.f2 = true) ∧ ∃ j, ∃ h : j + 1 < l.length, Op.bytesLess (kl l[j + 1]) (kl l[j]) = true from by
      obtain ⟨h1, h2⟩ := qw hw
      have h3 : ∀ x ∈ l, Ent x := fun x hx => h1 x (hp.mem_iff.2 hx)
      exact ⟨fun x hx => (h3 x hx).name (hsm x hx) |>.2, unsorted l r hp h2 (ql hl' h3)⟩)
    have HSM := Aside0.mk hsm
    clear hsm hr hp hbw qw hbl ql hm
    go_enter Tryd.func3, Tryd.ntmps3
    go_wp2_with fail
    refine HF.out.mono ?_
    rintro e w1 ⟨rfl, hb⟩
    have HB1 := Aside0.mk hb
    clear hb
    go_wp2_with fail
    refine (HO.out _ HB1.out).mono ?_
    rintro e w2 ⟨v, rfl, hR, hb⟩
    obtain ⟨A2, c2, e2, hc2, hC2⟩ := Kd.R_reads hR
    subst e2
    have HB2 := Aside0.mk (below_step HB1.out hb)
    have HTW2 := Aside0.mk (HTW.out _ A2 c2 hC2 hc2)
    clear hR hb hC2 hc2
    cases bw with
    | false =>
      go_wp2_with fail
      refine HTW2.out.mono ?_
      rintro e w3 ⟨rfl, hb⟩
      have HB3 := Aside0.mk (below_step HB2.out hb)
      clear hb
      go_wp2_with fail
      go_ret
      exact ⟨rfl, HB3.out⟩
    | true =>
      go_wp2_with fail
      refine HTW2.out.mono ?_
      rintro e w3 ⟨rfl, hb⟩
      have HB3 := Aside0.mk (below_step HB2.out hb)
      clear hb
      go_wp2_with fail
      refine (HTL.out _ HB3.out).mono ?_
      rintro e w4 ⟨rfl, hb⟩
      have HB4 := Aside0.mk (below_step HB3.out hb)
      clear hb
      cases bl with
      | true =>
        go_wp2_with fail
        go_ret
        exact ⟨rfl, HB4.out⟩
      | false =>
        obtain ⟨hg, j, hj, hjb⟩ := HBAD.out (by first | exact rfl | trivial) (by first | exact rfl | trivial)
        have HT1 := Aside0.mk (encodeTree_bad w4 A cc l (Kd.C_below HC.out HB4.out) hl HSM.out hg j hj hjb ev τ uv ae (HE.out.below HB4.out))
        clear hg hj hjb
        go_wp2_with fail
        refine HT1.out.mono ?_
        rintro e w5 ⟨v5, rfl, hb⟩
        have HB5 := Aside0.mk (below_step HB4.out hb)
        clear hb
        go_wp2_with fail
        refine (encodeTree_nil w5 ev τ uv ae (HE.out.below HB5.out)).mono ?_
        rintro e w6 ⟨v6, rfl, hb⟩
        have HB6 := Aside0.mk (below_step HB5.out hb)
        clear hb
        go_wp2_with fail
        go_ret
        exact ⟨rfl, HB6.out⟩
end Go.Proofs.YtdelomacpmpgoaaDoor.tree
