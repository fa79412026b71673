/- Shallow lines: spec.ShallowText. -/
import Derived.Test.YthjeihbnlfnkcaaDoorShE
namespace Go.Proofs.YthjeihbnlfnkcaaDoor.shal
open Go.RowKit Go.Lib Go.Proofs.YthjeihbnlfnkcaaDoorW.PrintWords Go.Proofs.YthjeihbnlfnkcaaDoorW.PrintLast Go.Proofs.YthjeihbnlfnkcaaDoorW.PrintMore Go.Proofs.YthjeihbnlfnkcaaDoor.PFnProtoShallowRead Go.Proofs.YthjeihbnlfnkcaaDoor.pkt Go.Proofs.YthjeihbnlfnkcaaDoor.hash
set_option linter.unusedVariables false
set_option linter.unusedSimpArgs false
set_option maxHeartbeats 2000000
set_option maxRecDepth 100000
/-- The lines of the names of one kind. -/
def part (b : Bool) (L : List ByteArray) : List Int := plines (L.map fun s => line (b, s))
theorem part_snoc (b : Bool) (L : List ByteArray) {j : Nat} (hj : j < L.length) {s : ByteArray} (hs : L[j] = s) : part b (L.take (j + 1)) = part b (L.take j) ++ pline (line (b, s)) := by
  unfold part
  rw [take_snoc hj, hs, List.map_append]
  exact plines_snoc _ _
theorem part_len (b : Bool) (L : List ByteArray) (hn : ∀ s ∈ L, name40 s = true) : (part b L).length ≤ 65520 * L.length := by
  unfold part
  have := plines_len (L.map fun s => line (b, s)) (fun p hp => by
    obtain ⟨s, hs, rfl⟩ := List.mem_map.1 hp
    have := (line_len (x := (b, s)) (hn s hs)).2
    omega)
  rwa [List.length_map] at this
def items (SL UL : List ByteArray) : List (Bool × ByteArray) := SL.map (fun s => (true, s)) ++ UL.map (fun s => (false, s))
theorem plines_append (a b : List (List Int)) : plines (a ++ b) = plines a ++ plines b := by
  induction a with
  | nil => rfl
  | cons x r ih => rw [List.cons_append, plines, plines, ih, List.append_assoc]
theorem items_text (SL UL : List ByteArray) : plines (lines (items SL UL)) = (part true SL ++ part false UL) ++ [48, 48, 48, 48] := by
  unfold lines items part
  rw [plines_append, List.map_append, plines_append, List.map_map, List.map_map]
  rfl
theorem sel_items (SL UL : List ByteArray) : sel true (items SL UL) = SL ∧ sel false (items SL UL) = UL := by
  unfold sel items
  constructor
  · rw [List.filter_append, List.filter_eq_self.2 (by simp), List.filter_eq_nil_iff.2 (by simp), List.append_nil, List.map_map]
    exact List.map_id _
  · rw [List.filter_append, List.filter_eq_nil_iff.2 (by simp), List.filter_eq_self.2 (by simp), List.nil_append, List.map_map]
    exact List.map_id _
theorem bytes_line_true (s : ByteArray) : Go.Proofs.YthjeihbnlfnkcaaDoorW.PrintWords.bytesOf ((⟨#[115, 104, 97, 108, 108, 111, 119, 32]⟩ : ByteArray) ++ s ++ (⟨#[10]⟩ : ByteArray)) = line (true, s) := by
  unfold Go.Proofs.YthjeihbnlfnkcaaDoorW.PrintWords.bytesOf line bare word numsOf
  simp [ByteArray.data_append]
theorem bytes_line_false (s : ByteArray) : Go.Proofs.YthjeihbnlfnkcaaDoorW.PrintWords.bytesOf ((⟨#[117, 110, 115, 104, 97, 108, 108, 111, 119, 32]⟩ : ByteArray) ++ s ++ (⟨#[10]⟩ : ByteArray)) = line (false, s) := by
  unfold Go.Proofs.YthjeihbnlfnkcaaDoorW.PrintWords.bytesOf line bare word numsOf
  simp [ByteArray.data_append]
theorem shallowText_any (w : World) (A0 A1 : Option Addr) (c0 c1 : Nat) (SL UL : List ByteArray) (hC0 : Kd.string.C w A0 SL.length SL) (hC1 : Kd.string.C w A1 UL.length UL) (hk0 : SL.length ≤ 1000) (hk1 : UL.length ≤ 1000) (hn0 : ∀ s ∈ SL, name40 s = true) (hn1 : ∀ s ∈ UL, name40 s = true) :
    Calls Tryd.prog 14 #[.slice A0 SL.length c0, .slice A1 UL.length c1] w fun e w' => ∃ A' c', e = .returned (.slice A' (plines (lines (items SL UL))).length c') ∧ (plines (lines (items SL UL))).length ≤ c' ∧ (Kd.int .u8).C w' A' (plines (lines (items SL UL))).length (plines (lines (items SL UL))) ∧ Below w.heap.size w w' := by
  have HC0 := Aside0.mk hC0
  have HC1 := Aside0.mk hC1
  have HN0 := Aside0.mk hn0
  have HN1 := Aside0.mk hn1
  have HIT := Aside0.mk (items_text SL UL)
  have HB0 := Aside0.mk (Below.refl w.heap.size w)
  clear hC0 hC1 hn0 hn1
  go_enter Tryd.func14, Tryd.ntmps14
  go_wp2_with fail
  go_loopg [5, 12] (SL.length + 1) (fun kq v3 v8 w' => ∃ (j : Nat) (ov : Value), ov = v3 ∧ v8 = .int .i64 (j : Int) ∧ j ≤ SL.length ∧ Aside0 (kq + j = SL.length + 1) ∧ Aside0 (Kd.R (Kd.int .u8) 5 w' w.heap.size (fun _ => True) ov ([] ++ part true (SL.take j))) ∧ Aside0 (Below w.heap.size w w'))
  case atStart => exact ⟨0, _, rfl, rfl, Nat.zero_le _, ⟨by omega⟩, ⟨Kd.R_nil _ _ _ _ _⟩, HB0⟩
  case round =>
    clear HB0
    obtain ⟨j, ov, hov, rfl, hj, HK, HO, HB⟩ := hrel
    subst hov
    cases gk with
    | zero => exact absurd HK.out (by omega)
    | succ k1 =>
      by_cases hlt : j < SL.length
      · have c0 : decide ((j : Int) < (SL.length : Int)) = true := decide_eq_true (by omega)
        have c1 : decide (j < SL.length) = true := decide_eq_true hlt
        have p1 : (0 : Int) ≤ (j : Int) := by omega
        have p2 : (j : Int) < (SL.length : Int) := by omega
        have w1 : wrap64 ((j : Int) + 1) = (j : Int) + 1 := w64 (by omega) (by omega)
        obtain ⟨ad, rfl, hx⟩ := Kd.at_string (Kd.C_below HC0.out HB.out) (j : Int) p1 p2
        obtain ⟨s, hs⟩ : ∃ s, SL[j] = s := ⟨_, rfl⟩
        have hrd : rdOf ByteArray.empty SL (j : Int) = s := by
          unfold rdOf
          rw [Int.toNat_natCast, List.getD_eq_getElem?_getD, List.getElem?_eq_getElem hlt, ← hs]; rfl
        rw [hrd, Int.toNat_natCast] at hx
        have HNX := Aside0.mk (HN0.out s (by rw [← hs]; exact List.getElem_mem hlt))
        have HST := Aside0.mk (part_snoc true SL hlt hs)
        have HTL := Aside0.mk (show (part true (SL.take j)).length ≤ 65520 * 1000 from by
          have := part_len true (SL.take j) (fun q hq => HN0.out q (List.mem_of_mem_take hq))
          rw [List.length_take] at this
          omega)
        obtain ⟨p, hp⟩ : ∃ p, line (true, s) = p := ⟨_, rfl⟩
        have hpl := (line_len (x := (true, s)) HNX.out).2
        have hpb := bytes_line_true s
        have hcv := print_bytes (P := Tryd.prog) 9 32 5 Tryd.underlying9 Tryd.underlying32 Tryd.underlying5 ((⟨#[115, 104, 97, 108, 108, 111, 119, 32]⟩ : ByteArray) ++ s ++ (⟨#[10]⟩ : ByteArray)) wr
        have hsz : ((⟨#[115, 104, 97, 108, 108, 111, 119, 32]⟩ : ByteArray) ++ s ++ (⟨#[10]⟩ : ByteArray)).size = p.length := by rw [← Go.Proofs.YthjeihbnlfnkcaaDoorW.PrintWords.bytesOf_length, hpb, hp]
        have hrb := bytes_reads wr 5 ((⟨#[115, 104, 97, 108, 108, 111, 119, 32]⟩ : ByteArray) ++ s ++ (⟨#[10]⟩ : ByteArray)) (by rw [hsz, ← hp]; omega)
        have hbb := bytes_below (Below.refl wr.heap.size wr) (Nat.le_refl _) 5 ((⟨#[115, 104, 97, 108, 108, 111, 119, 32]⟩ : ByteArray) ++ s ++ (⟨#[10]⟩ : ByteArray))
        have hgc := (grownCap_ge wr ((⟨#[115, 104, 97, 108, 108, 111, 119, 32]⟩ : ByteArray) ++ s ++ (⟨#[10]⟩ : ByteArray)).size 0 5)
        rw [hpb, hp] at hrb
        rw [hsz] at hcv hrb hgc
        obtain ⟨W1, hW1⟩ : ∃ W1, Lib.bytesWorld wr 5 ((⟨#[115, 104, 97, 108, 108, 111, 119, 32]⟩ : ByteArray) ++ s ++ (⟨#[10]⟩ : ByteArray)) = W1 := ⟨_, rfl⟩
        obtain ⟨cq, hcq⟩ : ∃ cq, grownCap wr p.length 0 5 = cq := ⟨_, rfl⟩
        rw [hW1, hcq] at hcv
        rw [hW1] at hrb hbb
        rw [hcq] at hgc
        rw [hp] at hpl HST
        have HPB := Aside0.mk (pline_len p (by omega))
        have HLN := Aside0.mk (line_any W1 (some ⟨wr.heap.size, 0, none⟩) cq p (Kd.C_of_reads (h1 := fun _ => rfl) hrb) hgc (by omega))
        have HBW := Aside0.mk hbb
        clear hrd hs hp hpl hpb hsz hrb hbb hgc hW1 hcq
        have hs40 : s.size = 40 := (name40_bytes HNX.out).1
        have hs41 : (s.size : Int) ≤ 8388608 := by omega
        have hs42 : (8 : Int) + (s.size : Int) ≤ 8388608 := by omega
        go_wp2_with fail
        refine HLN.out.mono ?_
        rintro e w2 ⟨A4, c4, rfl, hc4, hC4, hb⟩
        have HO2 := Aside0.mk (Kd.R_below HO.out (below_step HBW.out hb))
        have HB2 := Aside0.mk (below_step HB.out (below_step HBW.out hb))
        have HC4 := Aside0.mk hC4
        clear HO HB hC4 hb HLN
        go_wp2_with (first | ((with_reducible refine gate_builtin (b := .append) (xs := #[.tmp 16, .tmp 21]) rfl ?_); at_builtin; go_must (refine Kd.R_append_row (Value.int .u8) 0 (w0 := w) w.heap.size rfl (.tmp 16) (.tmp 21) 32 5 (.int .u8 0) 1 rfl Tryd.underlying32 info5 rfl (by decide) ov _ (pline p) A4 (pline p).length c4 (fun _ => True) rfl rfl (fun _ _ => trivial) HO2.out HC4.out HB2.out HB2.out.size (by have := HTL.out; have := HPB.out; rw [List.length_append]; simp only [List.length_nil]; omega) ?_); intro v4 w4 hR4 hB4 _ _; go_must (have HR4 := Aside0.mk hR4; have HB4 := Aside0.mk hB4; clear hR4 hB4)) | fail)
        go_roundg k1
        case measure => omega
        case rel => exact ⟨j + 1, _, rfl, by go_num, by omega, ⟨by have := HK.out; omega⟩, ⟨by rw [HST.out, ← List.append_assoc]; exact HR4.out⟩, HB4⟩
      · have c0 : decide ((j : Int) < (SL.length : Int)) = false := decide_eq_false (by omega)
        have c1 : decide (j < SL.length) = false := decide_eq_false hlt
        have hT : SL.take j = SL := List.take_of_length_le (by omega)
        rw [hT] at HO
        have HOQ := Aside0.mk (show Kd.R (Kd.int .u8) 5 wr w.heap.size (fun _ => True) ov (part true SL) from HO.out)
        have HQL := Aside0.mk (show (part true SL).length ≤ 65520 * 1000 from by have := part_len true SL HN0.out; omega)
        have HB0 := HB
        clear HO HB hT hlt hj HK
        go_wp2_with fail
        go_loopg [5, 26] (UL.length + 1) (fun kq v3 v8 w' => ∃ (j : Nat) (ov : Value), ov = v3 ∧ v8 = .int .i64 (j : Int) ∧ j ≤ UL.length ∧ Aside0 (kq + j = UL.length + 1) ∧ Aside0 (Kd.R (Kd.int .u8) 5 w' w.heap.size (fun _ => True) ov (part true SL ++ part false (UL.take j))) ∧ Aside0 (Below w.heap.size w w'))
        case atStart => exact ⟨0, _, rfl, rfl, Nat.zero_le _, ⟨by omega⟩, ⟨by rw [List.take_zero]; show Kd.R _ _ _ _ _ _ (part true SL ++ []); rw [List.append_nil]; exact HOQ.out⟩, HB0⟩
        case round =>
          clear HB0 HOQ
          obtain ⟨j, ov, hov, rfl, hj, HK, HO, HB⟩ := hrel
          subst hov
          cases gk with
          | zero => exact absurd HK.out (by omega)
          | succ k1 =>
            by_cases hlt : j < UL.length
            · have c0 : decide ((j : Int) < (UL.length : Int)) = true := decide_eq_true (by omega)
              have c1 : decide (j < UL.length) = true := decide_eq_true hlt
              have p1 : (0 : Int) ≤ (j : Int) := by omega
              have p2 : (j : Int) < (UL.length : Int) := by omega
              have w1 : wrap64 ((j : Int) + 1) = (j : Int) + 1 := w64 (by omega) (by omega)
              obtain ⟨ad, rfl, hx⟩ := Kd.at_string (Kd.C_below HC1.out HB.out) (j : Int) p1 p2
              obtain ⟨s, hs⟩ : ∃ s, UL[j] = s := ⟨_, rfl⟩
              have hrd : rdOf ByteArray.empty UL (j : Int) = s := by
                unfold rdOf
                rw [Int.toNat_natCast, List.getD_eq_getElem?_getD, List.getElem?_eq_getElem hlt, ← hs]; rfl
              rw [hrd, Int.toNat_natCast] at hx
              have HNX := Aside0.mk (HN1.out s (by rw [← hs]; exact List.getElem_mem hlt))
              have HST := Aside0.mk (part_snoc false UL hlt hs)
              have HTL := Aside0.mk (show (part false (UL.take j)).length ≤ 65520 * 1000 from by
                have := part_len false (UL.take j) (fun q hq => HN1.out q (List.mem_of_mem_take hq))
                rw [List.length_take] at this
                omega)
              obtain ⟨p, hp⟩ : ∃ p, line (false, s) = p := ⟨_, rfl⟩
              have hpl := (line_len (x := (false, s)) HNX.out).2
              have hpb := bytes_line_false s
              have hcv := print_bytes (P := Tryd.prog) 9 32 5 Tryd.underlying9 Tryd.underlying32 Tryd.underlying5 ((⟨#[117, 110, 115, 104, 97, 108, 108, 111, 119, 32]⟩ : ByteArray) ++ s ++ (⟨#[10]⟩ : ByteArray)) wr
              have hsz : ((⟨#[117, 110, 115, 104, 97, 108, 108, 111, 119, 32]⟩ : ByteArray) ++ s ++ (⟨#[10]⟩ : ByteArray)).size = p.length := by rw [← Go.Proofs.YthjeihbnlfnkcaaDoorW.PrintWords.bytesOf_length, hpb, hp]
              have hrb := bytes_reads wr 5 ((⟨#[117, 110, 115, 104, 97, 108, 108, 111, 119, 32]⟩ : ByteArray) ++ s ++ (⟨#[10]⟩ : ByteArray)) (by rw [hsz, ← hp]; omega)
              have hbb := bytes_below (Below.refl wr.heap.size wr) (Nat.le_refl _) 5 ((⟨#[117, 110, 115, 104, 97, 108, 108, 111, 119, 32]⟩ : ByteArray) ++ s ++ (⟨#[10]⟩ : ByteArray))
              have hgc := (grownCap_ge wr ((⟨#[117, 110, 115, 104, 97, 108, 108, 111, 119, 32]⟩ : ByteArray) ++ s ++ (⟨#[10]⟩ : ByteArray)).size 0 5)
              rw [hpb, hp] at hrb
              rw [hsz] at hcv hrb hgc
              obtain ⟨W1, hW1⟩ : ∃ W1, Lib.bytesWorld wr 5 ((⟨#[117, 110, 115, 104, 97, 108, 108, 111, 119, 32]⟩ : ByteArray) ++ s ++ (⟨#[10]⟩ : ByteArray)) = W1 := ⟨_, rfl⟩
              obtain ⟨cq, hcq⟩ : ∃ cq, grownCap wr p.length 0 5 = cq := ⟨_, rfl⟩
              rw [hW1, hcq] at hcv
              rw [hW1] at hrb hbb
              rw [hcq] at hgc
              rw [hp] at hpl HST
              have HPB := Aside0.mk (pline_len p (by omega))
              have HLN := Aside0.mk (line_any W1 (some ⟨wr.heap.size, 0, none⟩) cq p (Kd.C_of_reads (h1 := fun _ => rfl) hrb) hgc (by omega))
              have HBW := Aside0.mk hbb
              clear hrd hs hp hpl hpb hsz hrb hbb hgc hW1 hcq
              have hs40 : s.size = 40 := (name40_bytes HNX.out).1
              have hs41 : (s.size : Int) ≤ 8388608 := by omega
              have hs42 : (10 : Int) + (s.size : Int) ≤ 8388608 := by omega
              go_wp2_with fail
              refine HLN.out.mono ?_
              rintro e w2 ⟨A4, c4, rfl, hc4, hC4, hb⟩
              have HO2 := Aside0.mk (Kd.R_below HO.out (below_step HBW.out hb))
              have HB2 := Aside0.mk (below_step HB.out (below_step HBW.out hb))
              have HC4 := Aside0.mk hC4
              clear HO HB hC4 hb HLN
              go_wp2_with (first | ((with_reducible refine gate_builtin (b := .append) (xs := #[.tmp 30, .tmp 35]) rfl ?_); at_builtin; go_must (refine Kd.R_append_row (Value.int .u8) 0 (w0 := w) w.heap.size rfl (.tmp 30) (.tmp 35) 32 5 (.int .u8 0) 1 rfl Tryd.underlying32 info5 rfl (by decide) ov _ (pline p) A4 (pline p).length c4 (fun _ => True) rfl rfl (fun _ _ => trivial) HO2.out HC4.out HB2.out HB2.out.size (by have := HTL.out; have := HPB.out; have := HQL.out; rw [List.length_append]; omega) ?_); intro v4 w4 hR4 hB4 _ _; go_must (have HR4 := Aside0.mk hR4; have HB4 := Aside0.mk hB4; clear hR4 hB4)) | fail)
              go_roundg k1
              case measure => omega
              case rel => exact ⟨j + 1, _, rfl, by go_num, by omega, ⟨by have := HK.out; omega⟩, ⟨by rw [HST.out, ← List.append_assoc]; exact HR4.out⟩, HB4⟩
            · have c0 : decide ((j : Int) < (UL.length : Int)) = false := decide_eq_false (by omega)
              have c1 : decide (j < UL.length) = false := decide_eq_false hlt
              have hT : UL.take j = UL := List.take_of_length_le (by omega)
              rw [hT] at HO
              have HPL := Aside0.mk (show (part false UL).length ≤ 65520 * 1000 from by have := part_len false UL HN1.out; omega)
              have HOW := Aside0.mk (Kd.own_of_R HO.out)
              go_wp2_with (first | ((with_reducible refine gate_builtin (b := .append) (xs := #[.tmp 38, .const (.string ⟨#[48, 48, 48, 48]⟩)]) rfl ?_); at_builtin; go_must (refine print_append_str (w0 := w) w.heap.size rfl (.tmp 38) (.const (.string ⟨#[48, 48, 48, 48]⟩)) 32 9 5 rfl Tryd.underlying32 Tryd.underlying9 info5 ov _ ⟨#[48, 48, 48, 48]⟩ rfl rfl HOW.out HB.out HB.out.size (by have := HQL.out; have := HPL.out; rw [List.length_append]; show _ + 4 ≤ _; omega) ?_); intro v4 w4 hR4 hB4 _; go_must (have HR4 := Aside0.mk hR4; have HB4 := Aside0.mk hB4; clear hR4 hB4)) | fail)
              have hR5 : Kd.R (Kd.int .u8) 5 w4 w.heap.size (fun _ => True) v4 (plines (lines (items SL UL))) := by rw [HIT.out]; exact Kd.R_of_own HR4.out (fun _ _ => trivial)
              obtain ⟨A4, c4, e4, hl4, hC4⟩ := Kd.R_reads hR5
              subst e4
              go_wp2_with fail
              go_ret
              exact ⟨A4, c4, rfl, hl4, hC4, HB4.out⟩
end Go.Proofs.YthjeihbnlfnkcaaDoor.shal
