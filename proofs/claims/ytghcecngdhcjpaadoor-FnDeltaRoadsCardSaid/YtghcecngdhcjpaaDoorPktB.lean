/- Packet lines: io.ReadAtLeast, io.ReadFull over a bytes.Reader. -/
import Derived.Test.YtghcecngdhcjpaaDoorPktA
import Derived.Deep.DeepMust
import Derived.LaidEql
namespace Go.Proofs.YtghcecngdhcjpaaDoor.pkt
open Go.RowKit Go.Proofs.YtghcecngdhcjpaaDoorW.PrintWords Go.Proofs.YtghcecngdhcjpaaDoorW.PrintLast Go.Proofs.YtghcecngdhcjpaaDoorW.PrintMore Go.Proofs.YtghcecngdhcjpaaDoor.PFnSideBack
set_option linter.unusedVariables false
set_option linter.unusedSimpArgs false
set_option maxHeartbeats 2000000
set_option maxRecDepth 100000
/-- What ReadFull tells, of a row that is not empty. -/
def FullPost (w : World) (gr gb : Nat) (A : Option Addr) (c : Nat) (xs : List Int) (i o k : Nat) (cur : List Value) (tb : TypeId) (eof uex : Value) (e : Ending) (w' : World) : Prop := Near w w' gr (some gb) ∧ AtRd w' gr A xs.length c (i + ((xs.drop i).take k).length) ∧
  w'.heap[gb]? = some (.cells (splice cur o (bv ((xs.drop i).take k))).toArray tb (0, 0)) ∧ e = .returned (.tuple #[.int .i64 (((xs.drop i).take k).length : Int), if ((xs.drop i).take k).length = k then .nilIface else if ((xs.drop i).take k).length = 0 then eof else uex])
theorem take_take_len {α : Type} (l : List α) (k : Nat) : l.take (l.take k).length = l.take k := by
  rw [List.length_take]
  rcases Nat.le_total k l.length with h | h
  · rw [Nat.min_eq_left h]
  · rw [Nat.min_eq_right h, List.take_length, List.take_of_length_le h]
theorem splice_nil {α : Type} (L : List α) (off : Nat) : splice L off [] = L := by simp [splice]
theorem err_info : (∃ i : TypeInfo, Tryd.prog.info? 179 = some i ∧ i.comparable = true) ∧ ∃ j : TypeInfo, Tryd.prog.info? 181 = some j ∧ j.size ≠ 0 := by
  refine ⟨?_, ?_⟩
  · obtain ⟨i, hi⟩ := Option.isSome_iff_exists.1 (show (Tryd.prog.info? 179).isSome = true by kernel_rfl)
    have h : (Tryd.prog.info? 179).map (·.comparable) = some true := by kernel_rfl
    rw [hi] at h
    exact ⟨i, hi, by simpa using h⟩
  · obtain ⟨j, hj⟩ := Option.isSome_iff_exists.1 (show (Tryd.prog.info? 181).isSome = true by kernel_rfl)
    have h : (Tryd.prog.info? 181).map (·.size) = some 1 := by kernel_rfl
    rw [hj] at h
    exact ⟨j, hj, by have : j.size = 1 := by simpa using h
                     omega⟩
theorem same_err (a : Addr) (w : World) : (binOp .eql 55 (.iface 179 (.pointer (some a))) (.iface 179 (.pointer (some a)))).run Tryd.prog w = .ok (.bool true) w := by
  obtain ⟨⟨i, hi, hc⟩, j, hj, _⟩ := err_info
  exact run_eql_iface_ptr_same w a Tryd.underlying55 Tryd.underlying179 hi hc hj
theorem other_err {a b : Addr} {ca cb : Array Value} {ta tb : TypeId} (w : World) (hne : a ≠ b) (ha : w.heap[a.block]? = some (.cells ca ta (0, 0))) (hb : w.heap[b.block]? = some (.cells cb tb (0, 0))) : (binOp .eql 55 (.iface 179 (.pointer (some a))) (.iface 179 (.pointer (some b)))).run Tryd.prog w = .ok (.bool false) w := by
  obtain ⟨⟨i, hi, hc⟩, j, hj, hs⟩ := err_info
  exact run_eql_iface_ptr_other w Tryd.underlying55 Tryd.underlying179 hi hc hj hs hne ha hb
theorem nil_ahead (a : Addr) (w : World) : (nilAhead 326 63 (.pointer (some a)) "Read").run Tryd.prog w = .ok (some false) w := by kernel_rfl
theorem method_read (a : Addr) (w : World) : (method 326 63 (.pointer (some a)) "Read").run Tryd.prog w = .ok (120, .pointer (some a)) w := by kernel_rfl
theorem atLeast_any (w0 w : World) (A : Option Addr) (c : Nat) (xs : List Int) (gr gb i o k cap : Nat) (cur : List Value) (tb : TypeId) (τ1 τ2 : TypeId) (a1 a2 : Addr) (hk : 0 < k) (hcap : k ≤ cap) (hS : (Kd.int .u8).C w0 A xs.length xs) (hc : xs.length ≤ c) (hB : Below w0.heap.size w0 w) (hR : AtRd w gr A xs.length c i) (hG : w.heap[gb]? = some (.cells cur.toArray tb (0, 0))) (hne : gb ≠ gr) (hfit : o + k ≤ cur.length) (hge : w0.heap.size ≤ gr) (hgb : w0.heap.size ≤ gb) (hi : i ≤ xs.length) (hx : xs.length ≤ 2147483647) (hkk : k ≤ 2147483647)
    (hE : w0.cell? ⟨0, 0, none⟩ = some (.iface 179 (.pointer (some a1)))) (hU : w0.cell? ⟨5, 0, none⟩ = some (.iface 179 (.pointer (some a2)))) :
    Calls Tryd.prog 75 #[.iface 63 (.pointer (some ⟨gr, 0, none⟩)), .slice (some ⟨gb, o, none⟩) k cap, .int .i64 (k : Int)] w (FullPost w gr gb A c xs i o k cur tb (.iface 179 (.pointer (some a1))) (.iface 179 (.pointer (some a2)))) := by
  have d0 : decide ((k : Int) < (k : Int)) = false := decide_eq_false (by omega)
  have d00 : decide (k < k) = false := decide_eq_false (by omega)
  have HS := Aside0.mk hS
  have HR := Aside0.mk hR
  have HG := Aside0.mk hG
  have HB := Aside0.mk hB
  have HE := Aside0.mk hE
  have HU := Aside0.mk hU
  have HEW := Aside0.mk (show ∀ W, Below w0.heap.size w0 W → W.cell? ⟨0, 0, none⟩ = some (.iface 179 (.pointer (some a1))) from fun W hW => (hW.cell (World.block_lt_of_cell? w0 _ HE.out)).trans HE.out)
  have HNE := Aside0.mk hne
  have HFIT := Aside0.mk hfit
  have HGE := Aside0.mk hge
  have HGB := Aside0.mk hgb
  obtain ⟨m, hm⟩ : ∃ m, ((xs.drop i).take k).length = m := ⟨_, rfl⟩
  have hmk : m ≤ k := by rw [← hm, List.length_take]; omega
  have hmi : i + m ≤ xs.length := by rw [← hm, List.length_take, List.length_drop]; omega
  have hml : m < k → i + m = xs.length := by intro h; rw [← hm, List.length_take, List.length_drop] at h ⊢; omega
  have HMT := Aside0.mk (show (xs.drop i).take m = (xs.drop i).take k by rw [← hm]; exact take_take_len _ _)
  have HM := Aside0.mk hm
  have HML := Aside0.mk hml
  clear hS hR hG hB hE hU hne hfit hge hgb hm hml
  go_enter Tryd.func75, Tryd.ntmps75
  go_wp2_with fail
  clear d0 d00
  go_loopg [6, 7] 3 (fun kq v6 v7 w' => ∃ (s : Nat) (er : Bool), v6 = .int .i64 (s : Int) ∧ v7 = (if er = true then .iface 179 (.pointer (some a1)) else .nilIface) ∧ Aside0 ((kq = 3 ∧ s = 0 ∧ er = false) ∨ (kq = 2 ∧ s = m ∧ 0 < m ∧ er = false) ∨ (kq = 1 ∧ s = m ∧ m < k ∧ er = true)) ∧ Aside0 (AtRd w' gr A xs.length c (i + s)) ∧ Aside0 (Near w w' gr (some gb)) ∧ Aside0 (w'.heap[gb]? = some (.cells (splice cur o (bv ((xs.drop i).take s))).toArray tb (0, 0))))
  case atStart => exact ⟨0, false, rfl, rfl, ⟨.inl ⟨rfl, rfl, rfl⟩⟩, HR, ⟨Near.refl _ _ _⟩, ⟨by simpa [bv, splice] using HG.out⟩⟩
  case round =>
    obtain ⟨s, er, rfl, rfl, HST, HRw, HNw, HGw⟩ := hrel
    obtain ⟨wo, hwo⟩ : ∃ wo : World, wo = wr := ⟨_, rfl⟩
    subst hwo
    have HBW := Aside0.mk (HB.out.trans (HNw.out.below HB.out.size HGE.out (fun q hq => by injection hq with hq; rw [← hq]; exact HGB.out)))
    rcases HST.out with ⟨hk3, rfl, rfl⟩ | ⟨hk2, rfl, hm0, rfl⟩ | ⟨hk1, rfl, hlt, rfl⟩
    · subst hk3
      have d1 : decide ((0 : Int) < (k : Int)) = true := decide_eq_true (by omega)
      have d2 : decide (0 < k) = true := decide_eq_true hk
      have d3 : (0 < k) = True := eq_true hk
      have hn1 := nil_ahead ⟨gr, 0, none⟩
      have hn2 := method_read ⟨gr, 0, none⟩
      have HRD := Aside0.mk (read_any w0 wo.drew A c xs gr gb i o k cap cur tb _ HS.out hc (below_drew1 HBW.out) (by obtain ⟨pr, h⟩ := HRw.out; exact ⟨pr, h⟩) (show wo.heap[gb]? = _ by have := HGw.out; simpa [bv, splice] using this) HNE.out HFIT.out HGE.out hi (by omega) (HEW.out _ (below_drew1 HBW.out)))
      by_cases hlt : i < xs.length
      · have hm0 : 0 < m := by rw [← HM.out, List.length_take, List.length_drop]; omega
        have w9 : wrap64 ((0 : Int) + (m : Int)) = (m : Int) := by rw [Int.zero_add]; exact w64 (by omega) (by omega)
        have w8 : wrap64 (m : Int) = (m : Int) := w64 (by omega) (by omega)
        have HLT := Aside0.mk hlt
        go_wp2_with fail
        go_region_with (go_at_call 120; refine HRD.out.mono ?_; rintro e w2 ⟨hn2, hr2, hg2, he⟩; rw [if_pos HLT.out] at he; rw [HM.out] at he hr2; subst he; have HN2 := Aside0.mk (HNw.out.drew.trans hn2); have HR2 := Aside0.mk hr2; have HG2 := Aside0.mk hg2; clear hn2 hr2 hg2)
        go_wp2_with fail
        go_roundg 2
        case measure => omega
        case rel => exact ⟨m, false, by first | rfl | (simp [w8, w9]; done), rfl, ⟨.inr (.inl ⟨rfl, rfl, hm0, rfl⟩)⟩, ⟨HR2.out⟩, ⟨HN2.out⟩, ⟨by rw [HMT.out]; exact HG2.out⟩⟩
      · have hm0 : m = 0 := by rw [← HM.out, List.length_take, List.length_drop]; omega
        have w9 : wrap64 ((0 : Int) + (m : Int)) = (m : Int) := by rw [Int.zero_add]; exact w64 (by omega) (by omega)
        have w8 : wrap64 (m : Int) = (m : Int) := w64 (by omega) (by omega)
        have HLT := Aside0.mk hlt
        have HM0 := Aside0.mk hm0
        clear hm0
        go_wp2_with fail
        go_region_with (go_at_call 120; refine HRD.out.mono ?_; rintro e w2 ⟨hn2, hr2, hg2, he⟩; rw [if_neg HLT.out] at he; rw [HM.out] at he hr2; subst he; have HN2 := Aside0.mk (HNw.out.drew.trans hn2); have HR2 := Aside0.mk hr2; have HG2 := Aside0.mk hg2; clear hn2 hr2 hg2)
        go_wp2_with fail
        go_roundg 1
        case measure => omega
        case rel => exact ⟨m, true, by first | rfl | (simp [w8, w9]; done), rfl, ⟨.inr (.inr ⟨rfl, rfl, by have := HM0.out; omega, rfl⟩)⟩, ⟨HR2.out⟩, ⟨HN2.out⟩, ⟨by rw [HMT.out]; exact HG2.out⟩⟩
    · subst hk2
      by_cases hlt : s < k
      · have d1 : decide ((s : Int) < (k : Int)) = true := decide_eq_true (by omega)
        have d2 : decide (s < k) = true := decide_eq_true hlt
        have d3 : (s < k) = True := eq_true hlt
        have v1 : (0 : Int) ≤ (s : Int) := by omega
        have v2 : (s : Int) ≤ (k : Int) := by omega
        have v3 : k ≤ cap := hcap
        have v4 : (cap = s) = False := eq_false (by omega)
        have hn1 := nil_ahead ⟨gr, 0, none⟩
        have hn2 := method_read ⟨gr, 0, none⟩
        have hend := HML.out hlt
        have he0 : (xs.drop (i + s)).take (k - s) = [] := by rw [hend, List.drop_length, List.take_nil]
        have HRD := Aside0.mk (read_any w0 wo.drew A c xs gr gb (i + s) (o + s) (k - s) (cap - s) (splice cur o (bv ((xs.drop i).take s))) tb _ HS.out hc (below_drew1 HBW.out) (by obtain ⟨pr, h⟩ := HRw.out; exact ⟨pr, h⟩) (show wo.heap[gb]? = _ from HGw.out) HNE.out (by rw [length_splice _ _ _ (by rw [bv_len, List.length_take, List.length_drop]; have := HFIT.out; omega)]; have := HFIT.out; omega) HGE.out hmi (by omega) (HEW.out _ (below_drew1 HBW.out)))
        unfold ReadPost at HRD
        rw [he0] at HRD
        have w9 : wrap64 ((s : Int) + ((0 : Nat) : Int)) = (s : Int) := by rw [Int.natCast_zero, Int.add_zero]; exact w64 (by omega) (by omega)
        have w8 : wrap64 (s : Int) = (s : Int) := w64 (by omega) (by omega)
        have HNL := Aside0.mk (show ¬ (i + s < xs.length) by omega)
        clear he0 hend
        go_wp2_with fail
        go_region_with (go_at_call 120; refine HRD.out.mono ?_; rintro e w2 ⟨hn2, hr2, hg2, he⟩; rw [if_neg HNL.out] at he; subst he; have HN2 := Aside0.mk (HNw.out.drew.trans hn2); have HR2 := Aside0.mk hr2; have HG2 := Aside0.mk hg2; clear hn2 hr2 hg2)
        go_wp2_with fail
        go_roundg 1
        case measure => omega
        case rel => exact ⟨s, true, by first | rfl | (simp [w8, w9]; done), rfl, ⟨.inr (.inr ⟨rfl, rfl, hlt, rfl⟩)⟩, ⟨HR2.out⟩, ⟨HN2.out⟩, ⟨by have := HG2.out; rwa [show bv ([] : List Int) = [] from rfl, splice_nil] at this⟩⟩
      · obtain rfl : s = k := by omega
        have d1 : decide ((s : Int) < (s : Int)) = false := decide_eq_false (by omega)
        have d2 : decide (s < s) = false := decide_eq_false (by omega)
        have d3 : decide ((s : Int) ≤ (s : Int)) = true := decide_eq_true (by omega)
        have d4 : decide (s ≤ s) = true := decide_eq_true (by omega)
        go_wp2_with fail
        go_ret2
        refine ⟨HNw.out, by rw [HM.out]; exact HRw.out, HGw.out, ?_⟩
        rw [HM.out, if_pos rfl]
        rfl
    · subst hk1
      have d1 : decide ((s : Int) < (k : Int)) = true := decide_eq_true (by omega)
      have d2 : decide (s < k) = true := decide_eq_true hlt
      have d5 : decide ((k : Int) ≤ (s : Int)) = false := decide_eq_false (by omega)
      have d6 : decide (k ≤ s) = false := decide_eq_false (by omega)
      have he1 := HEW.out _ HBW.out
      have hu1 := (HBW.out.cell (World.block_lt_of_cell? w0 _ HU.out)).trans HU.out
      by_cases hz : s = 0
      · subst hz
        go_wp2_with fail
        go_ret2
        refine ⟨HNw.out, by rw [HM.out]; exact HRw.out, by rw [← HMT.out]; exact HGw.out, ?_⟩
        rw [HM.out, if_neg (by omega), if_pos rfl]
        rfl
      · have d7 : decide ((0 : Int) < (s : Int)) = true := decide_eq_true (by omega)
        have d8 : decide (0 < s) = true := decide_eq_true (by omega)
        have d9 : (0 < s) = True := eq_true (by omega)
        have hse := same_err a1
        go_wp2_with fail
        go_ret2
        refine ⟨HNw.out, by rw [HM.out]; exact HRw.out, by rw [← HMT.out]; exact HGw.out, ?_⟩
        rw [HM.out, if_neg (by omega), if_neg hz]
        rfl
end Go.Proofs.YtghcecngdhcjpaaDoor.pkt
