/- config: the text of options. -/
import Derived.Test.YtoofbppfbbhliaaDoorDropG
namespace Go.Proofs.YtoofbppfbbhliaaDoor.confD
open Go.RowKit Go.Proofs.YtoofbppfbbhliaaDoorW.PrintWords Go.Proofs.YtoofbppfbbhliaaDoorW.PrintLast Go.Proofs.YtoofbppfbbhliaaDoorW.PrintMore Go.Proofs.YtoofbppfbbhliaaDoor.PFnConfDrop Go.Proofs.YtoofbppfbbhliaaDoor.ptr
set_option linter.unusedVariables false
set_option linter.unusedSimpArgs false
set_option maxHeartbeats 2000000
set_option maxRecDepth 100000
/-- A line of an option; the lines of options. -/
def optT (o : S112) : ByteArray := ((((⟨#[9]⟩ : ByteArray) ++ o.f0) ++ (⟨#[32, 61, 32]⟩ : ByteArray)) ++ o.f1) ++ (⟨#[10]⟩ : ByteArray)
def optsT (l : List S112) : ByteArray := l.foldl (fun t o => t ++ optT o) (⟨#[]⟩ : ByteArray)
theorem optsT_snoc {l : List S112} {j : Nat} (h : j < l.length) : optsT (l.take (j + 1)) = optsT (l.take j) ++ optT l[j] := by
  rw [take_snoc h]; unfold optsT; rw [List.foldl_append]; rfl
theorem optT_size {o : S112} (h1 : o.f0.size ≤ 1000) (h2 : o.f1.size ≤ 1000) : (optT o).size ≤ 2005 := by
  unfold optT
  simp only [ByteArray.size_append]
  have e1 : (⟨#[9]⟩ : ByteArray).size = 1 := rfl
  have e2 : (⟨#[32, 61, 32]⟩ : ByteArray).size = 3 := rfl
  have e3 : (⟨#[10]⟩ : ByteArray).size = 1 := rfl
  omega
theorem optsT_size {l : List S112} (h : OptsOK l) : ∀ {j : Nat}, j ≤ l.length → (optsT (l.take j)).size ≤ j * 2005
  | 0, _ => by simp [optsT]; rfl
  | j + 1, hj => by
    rw [optsT_snoc (by omega), ByteArray.size_append]
    have h1 := optsT_size h (j := j) (by omega)
    have h2 := h.1 _ (List.getElem_mem (show j < l.length by omega))
    have := optT_size h2.1.2 h2.2
    omega
theorem room1 {a : Nat} (h : a ≤ 1000) : 1 + a ≤ 9223372036854775807 := by omega
theorem room2 {a : Nat} (h : a ≤ 1000) : 1 + a + 3 ≤ 9223372036854775807 := by omega
theorem room3 {a b : Nat} (h : a ≤ 1000) (k : b ≤ 1000) : 1 + a + 3 + b ≤ 9223372036854775807 := by omega
theorem room4 {a b : Nat} (h : a ≤ 1000) (k : b ≤ 1000) : 1 + a + 3 + b + 1 ≤ 9223372036854775807 := by omega
theorem room5 {a b t : Nat} (h : a ≤ 1000) (k : b ≤ 1000) (l : t ≤ 2005000) : t + (1 + a + 3 + b + 1) ≤ 9223372036854775807 := by omega
theorem optionsText_any (A0 : Option Addr) (c0 : Nat) (l0 : List S112) (w : World) (hr0 : Kd.C k112 w A0 l0.length l0) (hc0 : l0.length ≤ c0) (hl : OptsOK l0) :
    Calls Tryd.prog 72 #[.slice A0 l0.length c0] w fun e w' => e = .returned (.string (optsT l0)) ∧ Below w.heap.size w w' := by
  have hu112 := Tryd.underlying112
  have HR0 := Aside0.mk hr0
  have HC0 := Aside0.mk hc0
  have HL := Aside0.mk hl
  have hb31 := hl.2
  clear hr0 hc0 hl
  have HB := Aside0.mk (Below.refl w.heap.size w)
  go_enter Tryd.func72, Tryd.ntmps72
  go_wp2
  go_loopg [3, 8] (l0.length + 1) (fun kq v3 v8 w' => ∃ (j : Nat), v3 = .string (optsT (l0.take j)) ∧ v8 = .int .i64 (j : Int) ∧ j ≤ l0.length ∧ Aside0 (kq + j = l0.length + 1) ∧ Aside0 (Below w.heap.size w w'))
  case atStart => exact ⟨0, rfl, rfl, Nat.zero_le _, ⟨by omega⟩, HB⟩
  case round =>
    clear HB
    obtain ⟨j, rfl, rfl, hj, HK, HB⟩ := hrel
    cases gk with
    | zero => exact absurd HK.out (by omega)
    | succ k1 =>
      by_cases hlt : j < l0.length
      · have p148 : 0 ≤ (j : Int) := by omega
        have q148 : (j : Int) < (l0.length : Int) := by omega
        have c5b0 : decide ((j : Int) < (l0.length : Int)) = true := decide_eq_true q148
        obtain ⟨ad148, e148, hx148_0, hx148_1⟩ := at_T112 HR0.out (j : Int) p148 q148
        cases e148
        rw [rdO hlt] at hx148_0 hx148_1
        simp only [Int.toNat_natCast] at hx148_0 hx148_1
        replace hx148_0 := (HB.out.cell (World.block_lt_of_cell? w _ hx148_0)).trans hx148_0
        replace hx148_1 := (HB.out.cell (World.block_lt_of_cell? w _ hx148_1)).trans hx148_1
        have HS := Aside0.mk (optsT_snoc hlt)
        have HZ := Aside0.mk (Nat.le_trans (optsT_size HL.out hj) (Nat.mul_le_mul_right 2005 (Nat.le_trans hj hb31)))
        have HOk := Aside0.mk (HL.out.1 _ (List.getElem_mem hlt))
        obtain ⟨x, hx⟩ : ∃ x, l0[j] = x := ⟨_, rfl⟩
        rw [hx] at hx148_0 hx148_1 HS HOk
        obtain ⟨t, ht⟩ : ∃ t, optsT (l0.take j) = t := ⟨_, rfl⟩
        rw [ht] at HS HZ
        simp only [ht]
        have r1 := room1 HOk.out.1.2
        have r2 := room2 HOk.out.1.2
        have r3 := room3 HOk.out.1.2 HOk.out.2
        have r4 := room4 HOk.out.1.2 HOk.out.2
        have r5 := room5 HOk.out.1.2 HOk.out.2 HZ.out
        have hI := Aside0.mk hlt
        clear hx ht
        go_wp2_with (first | ((with_reducible refine gate_dst (N := 5) rfl ?_); refine box_event ?hg (N := 5) ?hd (cs := #[.string (⟨#[]⟩ : ByteArray), .string (⟨#[]⟩ : ByteArray)]) (t := 112) ?hr ?_; (case hd => rfl); (case hg => rfl); (case hr => first | (go_simp; done) | (go_simp; rfl)); intro gb149 hg w10 hbox hb; have n0_ := Aside0.mk (below_step (by repeat (first | (with_reducible first | exact HB.out | apply below_alloc | apply pw_below_drewN | apply below_drew1) | exact HB.out)) hb); have n1_ := Aside0.mk (hbox); have n2_ := Aside0.mk ((by rw [hg]; exact (below_size (by repeat (first | (with_reducible first | exact HB.out | apply below_alloc | apply pw_below_drewN | apply below_drew1) | exact HB.out))) : w.heap.size ≤ gb149)); have n3_ := Aside0.mk ((by rw [hg]; exact (below_size (by repeat (first | (with_reducible first | exact HB.out | apply below_alloc | apply pw_below_drewN | apply below_drew1) | exact HB.out))) : w.heap.size ≤ gb149)); clear HB; have HB := n0_; have BK149 := n1_; have GW149 := n2_; have GE149 := n3_; clear n0_ n1_ n2_ n3_; clear hb hbox hg; have hcz11_0 : w10.cell? ⟨gb149, 0, none⟩ = some (.string (⟨#[]⟩ : ByteArray)) := (blk_cell BK149.out 0).trans rfl; have hcz11_1 : w10.cell? ⟨gb149, 1, none⟩ = some (.string (⟨#[]⟩ : ByteArray)) := (blk_cell BK149.out 1).trans rfl; have hfz11_0 := blk_frozen BK149.out 0; have hfz11_1 := blk_frozen BK149.out 1) | fail)
        go_roundg k1
        case measure => have := HK.out; omega
        case rel => exact ⟨j + 1, by rw [HS.out]; rfl, by go_num, hI.out, ⟨by have := HK.out; omega⟩, ⟨below_set (below_set HB.out GW149.out) GW149.out⟩⟩
      · have c5b0 : decide ((j : Int) < (l0.length : Int)) = false := decide_eq_false (by omega)
        have HT := Aside0.mk (show l0.take j = l0 from List.take_of_length_le (by omega))
        go_wp2
        go_ret
        exact ⟨by rw [HT.out]; rfl, HB.out⟩
end Go.Proofs.YtoofbppfbbhliaaDoor.confD
