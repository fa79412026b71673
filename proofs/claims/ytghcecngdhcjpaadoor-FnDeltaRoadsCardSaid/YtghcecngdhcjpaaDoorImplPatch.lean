/- PatchDelta and impl.Patch. -/
import Derived.Test.YtghcecngdhcjpaaDoorPatch
namespace Go.Proofs.YtghcecngdhcjpaaDoor.leb
open Go.RowKit Go.Proofs.YtghcecngdhcjpaaDoorW.PrintWords Go.Proofs.YtghcecngdhcjpaaDoorW.PrintLast Go.Proofs.YtghcecngdhcjpaaDoorW.PrintMore
set_option linter.unusedVariables false
set_option maxHeartbeats 2000000
set_option maxRecDepth 100000
/-- What the package's variables hold. -/
structure Env (w : World) (e2 : Value) (ao az : Addr) (co cz : Nat) : Prop where
  inv : w.cell? ⟨1, 0, none⟩ = some e2
  isE2 : ∃ τ v, e2 = .iface τ v
  cmd : ∃ τ v, w.cell? ⟨3, 0, none⟩ = some (.iface τ v)
  off : w.cell? ⟨10, 0, none⟩ = some (.slice (some ao) 4 co)
  offT : Tab w ao [1, 2, 4, 8]
  siz : w.cell? ⟨11, 0, none⟩ = some (.slice (some az) 3 cz)
  sizT : Tab w az [16, 32, 64]
theorem Env.below {w w' : World} {e2 : Value} {ao az : Addr} {co cz : Nat} (h : Env w e2 ao az co cz) (hb : Below w.heap.size w w') : Env w' e2 ao az co cz := by
  obtain ⟨h1, h2, ⟨τ, v, h3⟩, h4, h5, h6, h7⟩ := h
  exact ⟨(hb.cell (World.block_lt_of_cell? w _ h1)).trans h1, h2, ⟨τ, v, (hb.cell (World.block_lt_of_cell? w _ h3)).trans h3⟩, (hb.cell (World.block_lt_of_cell? w _ h4)).trans h4, tab_below h5 hb, (hb.cell (World.block_lt_of_cell? w _ h6)).trans h6, tab_below h7 hb⟩
/-- A delta: both sizes, and what follows. -/
structure Sized (src delta rest : List Int) (T : Nat) : Prop where
  out : ∃ ds1 ds2 : List Nat, delta = sevens ds1 ++ (sevens ds2 ++ rest) ∧ 0 < ds1.length ∧ ds1.length ≤ 9 ∧ (∀ d ∈ ds1, d < 128) ∧ 0 < ds2.length ∧ ds2.length ≤ 9 ∧ (∀ d ∈ ds2, d < 128) ∧ sevVal ds1 = src.length ∧ sevVal ds2 = T
  pos : 1 ≤ T
  most : T ≤ 1000000000000
  byt : Bytes rest
/-- What PatchDelta answers. -/
def MadeTop (B : Nat) (res : Option (List Int)) (e : Ending) (w' : World) : Prop := match res with
  | some out => ∃ v, e = .returned (.tuple #[v, .nilIface]) ∧ w'.ownsRow B 5 1 v out.length (vals out)
  | none => ∃ τ v, e = .returned (.tuple #[.slice none 0 0, .iface τ v])
theorem top_any (As Ad : Option Addr) (cs cd : Nat) (src delta rest : List Int) (T : Nat) (res : Option (List Int)) (w : World) (hrs : Kd.C (Kd.int .u8) w As src.length src) (hcs : src.length ≤ cs) (hcsm : cs ≤ maxLen) (hrd : Kd.C (Kd.int .u8) w Ad delta.length delta) (hcd : delta.length ≤ cd) (hcdm : cd ≤ maxLen)
    (e2 : Value) (ao az : Addr) (co cz : Nat) (hE : Env w e2 ao az co cz) (hS : Sized src delta rest T) (h0 : 0 < src.length) (hP : Patch src T rest [] res) :
    Calls Tryd.prog 30 #[.slice As src.length cs, .slice Ad delta.length cd] w fun e w' => MadeTop w.heap.size res e w' ∧ Below w.heap.size w w' := by
  obtain ⟨⟨ds1, ds2, hd, h01, h91, hd1, h02, h92, hd2, hs1, hs2⟩, hp, hm, hb⟩ := hS
  have hl2 : 2 ≤ delta.length := by rw [hd, List.length_append, List.length_append, sevens_length, sevens_length]; omega
  obtain ⟨i1, ⟨τ2, v2, rfl⟩, ⟨τ3, v3, i3⟩, i4, i5, i6, i7⟩ := hE
  have H : Calls Tryd.prog 43 #[.pointer (some ⟨w.heap.size, 0, none⟩), .slice As src.length cs, .slice Ad delta.length cd] (w.alloc (.cells #[.slice none 0 0, .int .i64 0, .int .i8 0] 47 (0, 0))) fun e w' => Made w.heap.size w.heap.size res e w' ∧ Below w.heap.size w w' :=
    patch_any w _ (below_alloc (Below.refl _ _) _) w.heap.size (Nat.le_refl _) 0 (blk_new w _) As Ad cs cd src delta hrs hcs hcsm hrd hcd hcdm τ2 τ3 v2 v3 i1 i3 ao az co cz i4 i5 i6 i7 ds1 ds2 rest T res hd h01 h91 hd1 h02 h92 hd2 hs1 hs2 hp hm hb hP
  have HH := Aside0.mk H
  have hz0 : ((src.length : Int) == 0) = false := by rw [beq_eq_false_iff_ne]; omega
  have hz1 : decide ((delta.length : Int) < 2) = false := decide_eq_false (by omega)
  have hz2 : ¬ src.length = 0 := by omega
  clear H hd hd1 hd2 hs1 hs2 hb hP i5 i7 hrs hrd
  go_enter Tryd.func30, Tryd.ntmps30
  go_wp2_with fail
  refine HH.out.mono ?_
  rintro e w1 ⟨hmade, hbel⟩
  have HBL := Aside0.mk hbel
  clear HH hbel
  cases res with
  | none =>
    obtain ⟨τ, v, rfl⟩ := hmade
    go_wp2
    go_ret2
    exact ⟨⟨τ, v, rfl⟩, HBL.out⟩
  | some out =>
    obtain ⟨rfl, hbuf⟩ := hmade
    have HBU := Aside0.mk hbuf
    clear hbuf
    go_wp2_with fail
    refine (Tryd.Buffer_Bytes w.heap.size w.heap.size (vals out) w1 HBU.out).mono ?_
    rintro e w2 ⟨v, rfl, hown, n, rfl⟩
    have HOW := Aside0.mk hown
    clear hown
    go_wp2
    go_ret2
    refine ⟨⟨v, rfl, ?_⟩, pw_below_drewN HBL.out n⟩
    have := HOW.out
    simpa [vals] using this
theorem info5 : (Tryd.prog.info? 5).map (fun i => (i.zero, i.size, i.bytes)) = some (some (.int .u8 0), 1, 1) := by kernel_rfl
/-- The empty literal's row. -/
theorem R_empty (w : World) (base : Nat) (h : base ≤ w.heap.size) : (Kd.int .u8).R 5 (w.alloc (.cells #[] 5 (0, 0))) base (fun _ => True) (.slice (some ⟨w.heap.size, 0, none⟩) 0 0) [] :=
  Kd.R_of_own ⟨rfl, .inr ⟨w.heap.size, 0, #[], rfl, h, blk_new w _, Nat.le_refl _, Nat.zero_le _, rfl, rfl⟩⟩ (fun _ _ => trivial)
/-- What impl.Patch answers. -/
def MadeImpl (B : Nat) (res : Option (List Int)) (e : Ending) (w' : World) : Prop := match res with
  | some out => ∃ v, e = .returned (.tuple #[v, .bool true]) ∧ Kd.R (Kd.int .u8) 5 w' B (fun _ => True) v out
  | none => ∃ v, e = .returned (.tuple #[v, .bool false])
theorem R_cap {w : World} {base : Nat} {A : Option Addr} {n c : Nat} {xs : List Int} (h : Kd.R (Kd.int .u8) 5 w base (fun _ => True) (.slice A n c) xs) : c ≤ maxLen := by
  rcases (Kd.own_of_R h).2 with ⟨h1, _⟩ | ⟨g, cap, cur, h1, _, _, _, h2, _⟩
  · injection h1 with _ _ h3; omega
  · injection h1 with _ _ h3; omega
theorem impl_any (As Ad : Option Addr) (cs cd : Nat) (src delta rest : List Int) (T : Nat) (res : Option (List Int)) (w : World) (hrs : Kd.C (Kd.int .u8) w As src.length src) (hcs : src.length ≤ cs) (hrd : Kd.C (Kd.int .u8) w Ad delta.length delta) (hcd : delta.length ≤ cd)
    (hls : src.length ≤ 140737488355328) (hld : delta.length ≤ 140737488355328)
    (e2 : Value) (ao az : Addr) (co cz : Nat) (hE : Env w e2 ao az co cz) (hS : Sized src delta rest T) (h0 : 0 < src.length) (hP : Patch src T rest [] res) :
    Calls Tryd.prog 15 #[.slice As src.length cs, .slice Ad delta.length cd] w fun e w' => MadeImpl w.heap.size res e w' ∧ Below w.heap.size w w' := by
  have HRS := Aside0.mk hrs
  have HRD := Aside0.mk hrd
  have HE := Aside0.mk hE
  have HS := Aside0.mk hS
  have HP := Aside0.mk hP
  have HL := Aside0.mk hls
  have HM := Aside0.mk hld
  clear hrs hrd hE hS hP
  go_enter Tryd.func15, Tryd.ntmps15
  go_wp2_with (first | ((with_reducible refine gate_builtin (b := .append) (xs := #[.tmp 9, .tmp 10]) rfl ?_); at_builtin; refine Kd.R_append_row (Value.int .u8) 0 (w0 := w) w.heap.size rfl (.tmp 9) (.tmp 10) 25 5 (.int .u8 0) 1 rfl Tryd.underlying25 info5 rfl (by decide) _ [] src As src.length cs (fun _ => True) rfl rfl (fun _ _ => trivial) (R_empty w _ (Nat.le_refl _)) (Kd.C_alloc HRS.out _) (below_alloc (Below.refl _ _) _) (by simp) (by simpa using HL.out) ?_; intro v1 w1 hR1 hB1 _ _) | ((with_reducible refine gate_builtin (b := .append) (xs := #[.tmp 12, .tmp 13]) rfl ?_); at_builtin; refine Kd.R_append_row (Value.int .u8) 0 (w0 := w1) w1.heap.size rfl (.tmp 12) (.tmp 13) 25 5 (.int .u8 0) 1 rfl Tryd.underlying25 info5 rfl (by decide) _ [] delta Ad delta.length cd (fun _ => True) rfl rfl (fun _ _ => trivial) (R_empty w1 _ (Nat.le_refl _)) (Kd.C_alloc (Kd.C_below HRD.out hB1) _) (below_alloc (Below.refl _ _) _) (by simp) (by simpa using HM.out) ?_; intro v2 w2 hR2 hB2 _ _; obtain ⟨A1, c1, rfl⟩ := Kd.R_slice hR1; obtain ⟨A2, c2, rfl⟩ := Kd.R_slice hR2))
  obtain ⟨_, hc1, hC1⟩ := Kd.R_reads' hR1
  obtain ⟨_, hc2, hC2⟩ := Kd.R_reads' hR2
  simp only [List.nil_append] at hR1 hR2 hc1 hc2 hC1 hC2
  have hb2 := below_step hB1 hB2
  have HH := Aside0.mk (top_any A1 A2 c1 c2 src delta rest T res w2 (Kd.C_below hC1 hB2) hc1 (R_cap hR1) hC2 hc2 (R_cap hR2) e2 ao az co cz (HE.out.below hb2) HS.out h0 HP.out)
  have HB2 := Aside0.mk hb2
  clear hR1 hR2 hC1 hC2 hB1 hB2 hb2
  try simp only [List.nil_append]
  refine HH.out.mono ?_
  rintro e w3 ⟨hm, hb3⟩
  have HB3 := Aside0.mk (below_step HB2.out hb3)
  have hle := HB2.out.size
  clear HH hb3
  cases res with
  | none =>
    obtain ⟨τ, v, rfl⟩ := hm
    go_wp2
    go_quiet (fail)
    all_goals go_wp2
    all_goals go_ret2
    all_goals exact ⟨⟨_, rfl⟩, pw_below_drewN HB3.out _⟩
  | some out =>
    obtain ⟨v, rfl, hown⟩ := hm
    have HOW := Aside0.mk (Kd.R_of_own (enc := Value.int .u8) (h1 := fun _ => rfl) (ok := fun _ => True) (own_weaken hown hle) (fun _ _ => trivial))
    clear hown
    go_wp2
    go_quiet (fail)
    all_goals go_wp2
    all_goals go_ret2
    all_goals exact ⟨⟨_, rfl, Kd.R_drewN HOW.out _⟩, pw_below_drewN HB3.out _⟩
end Go.Proofs.YtghcecngdhcjpaaDoor.leb
