/- gitignore.ParsePattern on names with slashes between. -/
import Derived.Test.YtbiflpbajgafaaaIgnD
import Derived.Test.YtbiflpbajgafaaaPFnIgnoreRootx4
import Derived.Laws.Tables
import Derived.Laws.CopyOwn
import Derived.Laws.CopyRow
namespace Go.Proofs.Ytbiflpbajgafaaa.ign
open Go.RowKit Go.Proofs.YtbiflpbajgafaaaW.PrintWords Go.Proofs.YtbiflpbajgafaaaW.PrintLast Go.Proofs.YtbiflpbajgafaaaW.PrintMore
set_option linter.unusedVariables false
set_option linter.unusedSimpArgs false
set_option maxHeartbeats 2000000
set_option maxRecDepth 100000
/-- The cells of a pattern. -/
def patCells (vd vp : Value) (d g : Bool) : Array Value := #[vd, vp, .bool false, .bool d, .bool g]
def AtPat (w : World) (g : Nat) (vd vp : Value) (d gl : Bool) : Prop := w.heap[g]? = some (.cells (patCells vd vp d gl) 41 (0, 0))
theorem pat_one (A : Option Addr) (n c : Nat) : (#[.slice A n c, .slice none 0 0, .bool false, .bool false, .bool false] : Array Value).all (·.oneCell') = true := by
  rw [Array.all_eq_true_iff_forall_mem]
  intro v hv
  simp only [List.mem_toArray, List.mem_cons, List.not_mem_nil, or_false] at hv
  rcases hv with rfl | rfl | rfl | rfl | rfl <;> rfl
theorem prefix_no (s : ByteArray) (h : ∀ x ∈ s.data.toList, x ≠ 33) (w : World) :
    Calls Try.prog 19 #[.string s, .string ⟨#[33]⟩] w fun e w' => e = .returned (.bool false) ∧ w = w' := by
  refine (Try.strings_HasPrefix s ⟨#[33]⟩ w).mono ?_
  rintro e w' ⟨he, hw⟩
  refine ⟨?_, hw.symm⟩
  rw [he]
  congr 2
  unfold Lib.hasPrefix
  cases hs : s.data.toList with
  | nil => rfl
  | cons x r =>
    have h0 := h x (by rw [hs]; simp)
    show List.isPrefixOf [33] (x :: r) = false
    simp [List.isPrefixOf, Ne.symm h0]
theorem suffix_say (s t : ByteArray) (hsz : s.size ≤ 1000000) (b : Bool) (h : Lib.hasSuffix s.data.toList t.data.toList = b) (w : World) :
    Calls Try.prog 20 #[.string s, .string t] w fun e w' => e = .returned (.bool b) ∧ w = w' := by
  refine (Try.strings_HasSuffix s t w (by omega)).mono ?_
  rintro e w' ⟨he, hw⟩
  exact ⟨by rw [he, h], hw.symm⟩
theorem suffix_last (l f : List UInt8) (z y : UInt8) (h : l = f ++ [z]) : Lib.hasSuffix l [y] = (y == z) := by
  unfold Lib.hasSuffix
  rw [h, List.isSuffixOf, List.reverse_append]
  simp [List.isPrefixOf]
theorem suffix_two (l : List UInt8) (h : ∀ x ∈ l, x ≠ 32) : Lib.hasSuffix l [92, 32] = false := by
  unfold Lib.hasSuffix
  rw [List.isSuffixOf]
  show List.isPrefixOf [32, 92] l.reverse = false
  cases hs : l.reverse with
  | nil => rfl
  | cons x r =>
    have h0 := h x (by rw [← List.mem_reverse, hs]; simp)
    simp [List.isPrefixOf, Ne.symm h0]
theorem AtPat.drn {w w' : World} {g : Nat} {vd vp : Value} {d gl : Bool} (h : AtPat w g vd vp d gl) (hd : Drn w w') : AtPat w' g vd vp d gl := by
  obtain ⟨n, rfl⟩ := hd
  exact h
theorem drn_below {base : Nat} {w w' w2 : World} (h : Below base w w') (hd : Drn w' w2) : Below base w w2 := by
  obtain ⟨n, rfl⟩ := hd
  exact pw_below_drewN h n
/-- A slash stands within. -/
theorem join_two (a b : ByteArray) (r : List ByteArray) : joinS (a :: b :: r) = a.data.toList ++ 47 :: joinS (b :: r) := rfl
theorem add_block (a : Addr) (n : Nat) : (a.add n).block = a.block := by
  unfold Addr.add
  split <;> rfl
/-- A row of strings, behind a store into another block. -/
theorem str_far {w : World} {A : Option Addr} {xs : List ByteArray} {a : Addr} {u : Value} (h : Kd.string.C w A xs.length xs) (hf : ∀ ad, A = some ad → 0 < xs.length → ad.block ≠ a.block) : Kd.string.C (w.setCell a u) A xs.length xs := by
  obtain ⟨h1, h2, h3⟩ := h
  refine ⟨h1, h2, fun hp => ?_⟩
  obtain ⟨ad, rfl, hc⟩ := h3 hp
  refine ⟨ad, rfl, fun j x hj => ?_⟩
  obtain ⟨cs, hl, hK, hi⟩ := hc j x hj
  refine ⟨cs, hl, hK, fun i v hv => ?_⟩
  rw [World.cell?_of_block (Below.heap_setCell w a u _ (by rw [add_block]; exact hf ad rfl hp))]
  exact hi i v hv
def ParsePost (w : World) (parts doms : List ByteArray) (tail : Bool) (e : Ending) (w' : World) : Prop := ∃ (g : Nat) (Ad Ap : Option Addr) (cd cp : Nat), e = .returned (.iface 44 (.pointer (some ⟨g, 0, none⟩))) ∧ w.heap.size ≤ g ∧
  AtPat w' g (.slice Ad doms.length cd) (.slice Ap parts.length cp) tail (decide (1 < parts.length)) ∧ doms.length ≤ cd ∧ parts.length ≤ cp ∧ Kd.string.C w' Ad doms.length doms ∧ Kd.string.C w' Ap parts.length parts ∧ Below w.heap.size w w'
theorem parse_any (p : ByteArray) (parts doms : List ByteArray) (tail : Bool) (A : Option Addr) (c : Nat) (w : World) (hsz : p.size ≤ 1000000) (hne : parts ≠ []) (hp : p.data.toList = joinS parts ++ (if tail = true then [47] else []))
    (hl : ∀ a ∈ parts, ∀ x ∈ a.data.toList, x ≠ 47) (hq : ∀ x ∈ p.data.toList, x ≠ 33 ∧ x ≠ 32) (hlast : ∃ f z, joinS parts = f ++ [z] ∧ z ≠ 47) (hC : Kd.string.C w A doms.length doms) (hc : doms.length ≤ c) (hdl : doms.length ≤ 1000000) :
    Calls Try.prog 18 #[.string p, .slice A doms.length c] w (ParsePost w parts doms tail) := by
  have hpne : p.data.toList ≠ [] := by
    obtain ⟨f, z, hf, _⟩ := hlast
    rw [hp, hf]
    simp
  obtain ⟨f, z, hf, hz⟩ := hlast
  have HC := Aside0.mk hC
  have HPX := Aside0.mk (prefix_no p (fun x hx => (hq x hx).1))
  have HSF := Aside0.mk (suffix_say p ⟨#[92, 32]⟩ hsz false (suffix_two _ (fun x hx => (hq x hx).2)))
  have HTR := Aside0.mk (trim_any p hsz hpne (fun x hx => (hq x hx).2))
  have hps : 0 < p.size := by rw [← size_list]; exact List.length_pos_iff.2 hpne
  have HB0 := Aside0.mk (Below.refl w.heap.size w)
  have HDL := Aside0.mk (show (([] : List ByteArray).length + doms.length) * 16 ≤ 140737488355328 from by simp only [List.length_nil]; omega)
  have HL := Aside0.mk hl
  have HNE := Aside0.mk hne
  have HP := Aside0.mk hp
  have HF := Aside0.mk hf
  have HZ := Aside0.mk hz
  clear hC hpne hl hne hp hf hz hq
  go_enter Try.func18, Try.ntmps18
  go_wp2_with (first | ((with_reducible refine gate_builtin (b := .append) (xs := #[.const (.slice none 0 0), .tmp 6]) rfl ?_); at_builtin; go_must (refine Kd.R_append_row Value.string (⟨#[]⟩ : ByteArray) (h1 := fun _ => rfl) (w0 := w) w.heap.size rfl (.const (.slice none 0 0)) (.tmp 6) 22 9 (.string ⟨#[]⟩) 16 rfl Try.underlying22 infoS rfl (by decide) (.slice none 0 0) ([] : List ByteArray) doms A doms.length c (fun _ => True) rfl rfl (fun _ _ => trivial) (Kd.R_nil _ _ _ _ _) HC.out HB0.out (Nat.le_refl _) HDL.out ?_); intro v1 w1 hR1 hB1 _ _; go_must (have HR1 := Aside0.mk hR1; have HB1 := Aside0.mk hB1; clear hR1 hB1; obtain ⟨Ad, cd, rfl, hcd, hCd⟩ := Kd.R_reads HR1.out; have HCD := Aside0.mk hCd; clear hCd)) | ((with_reducible refine gate_dst (N := 5) rfl ?_); refine box_event ?hg (N := 5) ?hd (cs := #[.slice none 0 0, .slice none 0 0, .bool false, .bool false, .bool false]) (t := 41) ?hr ?_; (case hd => rfl); (case hg => rfl); (case hr => first | (go_simp; done) | (go_simp; rfl)); intro g hg1 w2 hbox hb; have HBX := Aside0.mk hbox; have HB2 := Aside0.mk hb; have HG := Aside0.mk (show w1.heap.size ≤ g by rw [hg1]; exact Nat.le_refl _); clear hbox hb hg1) | ((with_reducible show wpList _ _ _ (⟨none, .store _ _ _, _, _, _, _⟩ :: _) _ _); go_must (refine wpList_store_row rfl 41 _ _ rfl g #[.slice Ad doms.length cd, .slice none 0 0, .bool false, .bool false, .bool false] ?hx ?hy 41 _ HBX.out (by kernel_rfl) rfl (pat_one _ _ _) ?_); (case hx => rfl); (case hy => rfl)) | fail)
  generalize hW : World.setRow _ _ _ = W
  have HA := Aside0.mk (show AtPat W g (.slice Ad doms.length cd) (.slice none 0 0) false false from by rw [← hW]; exact setRow_heap _ _ _ _ _ _ HBX.out)
  have HBW := Aside0.mk (show Below w1.heap.size w1 W from by rw [← hW]; exact below_setRow HB2.out HG.out _)
  clear hW HBX HB2 HC HB0 HDL HR1
  go_wp2_with (first | (go_at_call 19; refine (HPX.out _).mono ?_; rintro e w' ⟨rfl, rfl⟩) | (go_at_call 20; refine (HSF.out _).mono ?_; rintro e w' ⟨rfl, rfl⟩) | fail)
  refine (HTR.out _).mono ?_
  rintro e W3 ⟨rfl, hdr⟩
  have HA3 := Aside0.mk (HA.out.drn hdr)
  have HB3 := Aside0.mk (drn_below HBW.out hdr)
  clear HPX HSF HTR HA HBW hdr
  cases tail with
  | true =>
    have hp := HP.out
    rw [if_pos rfl] at hp
    have HS2 := Aside0.mk (suffix_say p ⟨#[47]⟩ hsz true (suffix_last _ _ 47 47 hp) W3)
    have c3 := (blk_cell HA3.out 3).trans (show _ = some (Value.bool false) from rfl)
    have f3 := blk_frozen HA3.out 3
    have w1' : wrap64 ((p.size : Int) - 1) = (p.size : Int) - 1 := w64 (by omega) (by omega)
    have b1 : (0 : Int) ≤ (p.size : Int) - 1 := by omega
    have b2 : (p.size : Int) - 1 ≤ (p.size : Int) := by omega
    have b3 : ((p.size : Int) - 1).toNat = p.size - 1 := by omega
    have b4 : (1 : Int) ≤ (p.size : Int) := by omega
    have HQ := Aside0.mk (show (p.extract 0 (p.size - 1)).data.toList = joinS parts from by
      rw [ext_list, List.drop_zero, hp]
      have hl := congrArg List.length hp
      rw [size_list, List.length_append, List.length_singleton] at hl
      rw [show p.size - 1 = (joinS parts).length from by omega, List.take_left])
    have HQZ := Aside0.mk (show (p.extract 0 (p.size - 1)).size ≤ 1000000 from by rw [ByteArray.size_extract]; omega)
    clear hp
    go_wp2_with (first | (go_at_call 20; refine HS2.out.mono ?_; rintro e w' ⟨rfl, rfl⟩) | fail)
    generalize hW : World.setCell _ _ _ = W4
    have HA4 := Aside0.mk (show AtPat W4 g (.slice Ad doms.length cd) (.slice none 0 0) true false from by rw [← hW]; exact blk_put HA3.out 3 _ rfl)
    have HB4 := Aside0.mk (show Below w1.heap.size w1 W4 from by rw [← hW]; exact HB3.out.setCell HG.out _)
    obtain ⟨q, hq⟩ : ∃ q, p.extract 0 (p.size - 1) = q := ⟨_, rfl⟩
    rw [hq] at HQ HQZ
    try rw [hq]
    clear hW HA3 HB3 HS2 c3 f3 w1' b1 b2 b3 b4
    obtain ⟨a, r, har⟩ : ∃ a r, parts = a :: r := by
      cases h : parts with
      | nil => exact absurd h HNE.out
      | cons a r => exact ⟨a, r, rfl⟩
    have HSP := Aside0.mk (fun W => split_any q parts HQZ.out HNE.out HQ.out HL.out W)
    by_cases hr : r = []
    · have HCT := Aside0.mk (contains_no q HQZ.out (fun x hx => HL.out a (by rw [har]; simp) x (by rw [HQ.out, har, hr] at hx; exact hx)))
      have HDE := Aside0.mk (show decide (1 < parts.length) = false from by rw [har, hr]; rfl)
      clear har hr
      go_wp2_with (first | (go_at_call 22; refine (HCT.out _).mono ?_; rintro e w' ⟨rfl, rfl⟩) | fail)
      refine (HSP.out _).mono ?_
      rintro e W5 ⟨v, rfl, hR5, hb5⟩
      obtain ⟨Ap, cp, rfl, hcp, hCp⟩ := Kd.R_reads hR5
      have HA5 := Aside0.mk (show AtPat W5 g (.slice Ad doms.length cd) (.slice none 0 0) true false from blk_below HA4.out hb5)
      have HB5 := Aside0.mk (below_step HB4.out hb5)
      have HCP := Aside0.mk hCp
      have c1 := (blk_cell HA5.out 1).trans (show _ = some (Value.slice none 0 0) from rfl)
      have f1 := blk_frozen HA5.out 1
      have HGW := Aside0.mk (show ∀ ad, Ap = some ad → 0 < parts.length → ad.block ≠ g from by
        rintro ad rfl _ he
        obtain ⟨inner, ho⟩ := Kd.R_own hR5
        have h1 := own_base' ho
        rcases h1 with h1 | ⟨k, hk, hle⟩
        · simp [Value.ownBlock] at h1
        · simp [Value.ownBlock] at hk
          have := blk_lt HA4.out
          omega)
      clear hR5 hb5 HA4 HB4 HCT HSP hCp
      go_wp2_with fail
      generalize hW6 : World.setCell _ _ _ = W6
      have HA6 := Aside0.mk (show AtPat W6 g (.slice Ad doms.length cd) (.slice Ap parts.length cp) true false from by rw [← hW6]; exact blk_put HA5.out 1 _ rfl)
      have HB6 := Aside0.mk (show Below w1.heap.size w1 W6 from by rw [← hW6]; exact HB5.out.setCell HG.out _)
      have HCP6 := Aside0.mk (show Kd.string.C W6 Ap parts.length parts from by rw [← hW6]; exact str_far HCP.out HGW.out)
      clear hW6 c1 f1 HA5 HB5
      go_wp2_with fail
      go_ret
      exact ⟨g, Ad, Ap, cd, cp, rfl, Nat.le_trans HB1.out.size HG.out, by rw [HDE.out]; exact HA6.out, hcd, hcp, Kd.C_below HCD.out HB6.out, HCP6.out, below_step HB1.out HB6.out⟩
    · obtain ⟨b, r2, hb2⟩ : ∃ b r2, r = b :: r2 := by
        cases h : r with
        | nil => exact absurd h hr
        | cons b r2 => exact ⟨b, r2, rfl⟩
      have HCT := Aside0.mk (contains_yes q HQZ.out a.data.toList _ (by rw [HQ.out, har, hb2, joinS]) (HL.out a (by rw [har]; simp)))
      have HDE := Aside0.mk (show decide (1 < parts.length) = true from by rw [har, hb2]; simp)
      have c4 := (blk_cell HA4.out 4).trans (show _ = some (Value.bool false) from rfl)
      have f4 := blk_frozen HA4.out 4
      clear har hr hb2
      go_wp2_with (first | (go_at_call 22; refine (HCT.out _).mono ?_; rintro e w' ⟨rfl, rfl⟩) | fail)
      generalize hW7 : World.setCell _ _ _ = W7
      have HA7 := Aside0.mk (show AtPat W7 g (.slice Ad doms.length cd) (.slice none 0 0) true true from by rw [← hW7]; exact blk_put HA4.out 4 _ rfl)
      have HB7 := Aside0.mk (show Below w1.heap.size w1 W7 from by rw [← hW7]; exact HB4.out.setCell HG.out _)
      clear hW7 c4 f4 HA4 HB4 HCT
      refine (HSP.out _).mono ?_
      rintro e W5 ⟨v, rfl, hR5, hb5⟩
      obtain ⟨Ap, cp, rfl, hcp, hCp⟩ := Kd.R_reads hR5
      have HA5 := Aside0.mk (show AtPat W5 g (.slice Ad doms.length cd) (.slice none 0 0) true true from blk_below HA7.out hb5)
      have HB5 := Aside0.mk (below_step HB7.out hb5)
      have HCP := Aside0.mk hCp
      have c1 := (blk_cell HA5.out 1).trans (show _ = some (Value.slice none 0 0) from rfl)
      have f1 := blk_frozen HA5.out 1
      have HGW := Aside0.mk (show ∀ ad, Ap = some ad → 0 < parts.length → ad.block ≠ g from by
        rintro ad rfl _ he
        obtain ⟨inner, ho⟩ := Kd.R_own hR5
        have h1 := own_base' ho
        rcases h1 with h1 | ⟨k, hk, hle⟩
        · simp [Value.ownBlock] at h1
        · simp [Value.ownBlock] at hk
          have := blk_lt HA7.out
          omega)
      clear hR5 hb5 HA7 HB7 HSP hCp
      go_wp2_with fail
      generalize hW6 : World.setCell _ _ _ = W6
      have HA6 := Aside0.mk (show AtPat W6 g (.slice Ad doms.length cd) (.slice Ap parts.length cp) true true from by rw [← hW6]; exact blk_put HA5.out 1 _ rfl)
      have HB6 := Aside0.mk (show Below w1.heap.size w1 W6 from by rw [← hW6]; exact HB5.out.setCell HG.out _)
      have HCP6 := Aside0.mk (show Kd.string.C W6 Ap parts.length parts from by rw [← hW6]; exact str_far HCP.out HGW.out)
      clear hW6 c1 f1 HA5 HB5
      go_wp2_with fail
      go_ret
      exact ⟨g, Ad, Ap, cd, cp, rfl, Nat.le_trans HB1.out.size HG.out, by rw [HDE.out]; exact HA6.out, hcd, hcp, Kd.C_below HCD.out HB6.out, HCP6.out, below_step HB1.out HB6.out⟩
  | false =>
    have hp := HP.out
    rw [if_neg (by decide), List.append_nil] at hp
    have HS2 := Aside0.mk (suffix_say p ⟨#[47]⟩ hsz false ((suffix_last _ f z 47 (hp.trans HF.out)).trans (by rw [beq_eq_false_iff_ne]; exact Ne.symm HZ.out)) W3)
    have HQ := Aside0.mk (show p.data.toList = joinS parts from hp)
    have HQZ := Aside0.mk hsz
    have HA4 := HA3
    have HB4 := HB3
    clear hp HA3 HB3
    go_wp2_with (first | (go_at_call 20; refine HS2.out.mono ?_; rintro e w' ⟨rfl, rfl⟩) | fail)
    clear HS2
    obtain ⟨W4, hW4⟩ : ∃ W4, W3 = W4 := ⟨_, rfl⟩
    subst hW4
    obtain ⟨a, r, har⟩ : ∃ a r, parts = a :: r := by
      cases h : parts with
      | nil => exact absurd h HNE.out
      | cons a r => exact ⟨a, r, rfl⟩
    have HSP := Aside0.mk (fun W => split_any p parts HQZ.out HNE.out HQ.out HL.out W)
    by_cases hr : r = []
    · have HCT := Aside0.mk (contains_no p HQZ.out (fun x hx => HL.out a (by rw [har]; simp) x (by rw [HQ.out, har, hr] at hx; exact hx)))
      have HDE := Aside0.mk (show decide (1 < parts.length) = false from by rw [har, hr]; rfl)
      clear har hr
      go_wp2_with (first | (go_at_call 22; refine (HCT.out _).mono ?_; rintro e w' ⟨rfl, rfl⟩) | fail)
      refine (HSP.out _).mono ?_
      rintro e W5 ⟨v, rfl, hR5, hb5⟩
      obtain ⟨Ap, cp, rfl, hcp, hCp⟩ := Kd.R_reads hR5
      have HA5 := Aside0.mk (show AtPat W5 g (.slice Ad doms.length cd) (.slice none 0 0) false false from blk_below HA4.out hb5)
      have HB5 := Aside0.mk (below_step HB4.out hb5)
      have HCP := Aside0.mk hCp
      have c1 := (blk_cell HA5.out 1).trans (show _ = some (Value.slice none 0 0) from rfl)
      have f1 := blk_frozen HA5.out 1
      have HGW := Aside0.mk (show ∀ ad, Ap = some ad → 0 < parts.length → ad.block ≠ g from by
        rintro ad rfl _ he
        obtain ⟨inner, ho⟩ := Kd.R_own hR5
        have h1 := own_base' ho
        rcases h1 with h1 | ⟨k, hk, hle⟩
        · simp [Value.ownBlock] at h1
        · simp [Value.ownBlock] at hk
          have := blk_lt HA4.out
          omega)
      clear hR5 hb5 HA4 HB4 HCT HSP hCp
      go_wp2_with fail
      generalize hW6 : World.setCell _ _ _ = W6
      have HA6 := Aside0.mk (show AtPat W6 g (.slice Ad doms.length cd) (.slice Ap parts.length cp) false false from by rw [← hW6]; exact blk_put HA5.out 1 _ rfl)
      have HB6 := Aside0.mk (show Below w1.heap.size w1 W6 from by rw [← hW6]; exact HB5.out.setCell HG.out _)
      have HCP6 := Aside0.mk (show Kd.string.C W6 Ap parts.length parts from by rw [← hW6]; exact str_far HCP.out HGW.out)
      clear hW6 c1 f1 HA5 HB5
      go_wp2_with fail
      go_ret
      exact ⟨g, Ad, Ap, cd, cp, rfl, Nat.le_trans HB1.out.size HG.out, by rw [HDE.out]; exact HA6.out, hcd, hcp, Kd.C_below HCD.out HB6.out, HCP6.out, below_step HB1.out HB6.out⟩
    · obtain ⟨b, r2, hb2⟩ : ∃ b r2, r = b :: r2 := by
        cases h : r with
        | nil => exact absurd h hr
        | cons b r2 => exact ⟨b, r2, rfl⟩
      have HCT := Aside0.mk (contains_yes p HQZ.out a.data.toList _ (by rw [HQ.out, har, hb2, joinS]) (HL.out a (by rw [har]; simp)))
      have HDE := Aside0.mk (show decide (1 < parts.length) = true from by rw [har, hb2]; simp)
      have c4 := (blk_cell HA4.out 4).trans (show _ = some (Value.bool false) from rfl)
      have f4 := blk_frozen HA4.out 4
      clear har hr hb2
      go_wp2_with (first | (go_at_call 22; refine (HCT.out _).mono ?_; rintro e w' ⟨rfl, rfl⟩) | fail)
      generalize hW7 : World.setCell _ _ _ = W7
      have HA7 := Aside0.mk (show AtPat W7 g (.slice Ad doms.length cd) (.slice none 0 0) false true from by rw [← hW7]; exact blk_put HA4.out 4 _ rfl)
      have HB7 := Aside0.mk (show Below w1.heap.size w1 W7 from by rw [← hW7]; exact HB4.out.setCell HG.out _)
      clear hW7 c4 f4 HA4 HB4 HCT
      refine (HSP.out _).mono ?_
      rintro e W5 ⟨v, rfl, hR5, hb5⟩
      obtain ⟨Ap, cp, rfl, hcp, hCp⟩ := Kd.R_reads hR5
      have HA5 := Aside0.mk (show AtPat W5 g (.slice Ad doms.length cd) (.slice none 0 0) false true from blk_below HA7.out hb5)
      have HB5 := Aside0.mk (below_step HB7.out hb5)
      have HCP := Aside0.mk hCp
      have c1 := (blk_cell HA5.out 1).trans (show _ = some (Value.slice none 0 0) from rfl)
      have f1 := blk_frozen HA5.out 1
      have HGW := Aside0.mk (show ∀ ad, Ap = some ad → 0 < parts.length → ad.block ≠ g from by
        rintro ad rfl _ he
        obtain ⟨inner, ho⟩ := Kd.R_own hR5
        have h1 := own_base' ho
        rcases h1 with h1 | ⟨k, hk, hle⟩
        · simp [Value.ownBlock] at h1
        · simp [Value.ownBlock] at hk
          have := blk_lt HA7.out
          omega)
      clear hR5 hb5 HA7 HB7 HSP hCp
      go_wp2_with fail
      generalize hW6 : World.setCell _ _ _ = W6
      have HA6 := Aside0.mk (show AtPat W6 g (.slice Ad doms.length cd) (.slice Ap parts.length cp) false true from by rw [← hW6]; exact blk_put HA5.out 1 _ rfl)
      have HB6 := Aside0.mk (show Below w1.heap.size w1 W6 from by rw [← hW6]; exact HB5.out.setCell HG.out _)
      have HCP6 := Aside0.mk (show Kd.string.C W6 Ap parts.length parts from by rw [← hW6]; exact str_far HCP.out HGW.out)
      clear hW6 c1 f1 HA5 HB5
      go_wp2_with fail
      go_ret
      exact ⟨g, Ad, Ap, cd, cp, rfl, Nat.le_trans HB1.out.size HG.out, by rw [HDE.out]; exact HA6.out, hcd, hcp, Kd.C_below HCD.out HB6.out, HCP6.out, below_step HB1.out HB6.out⟩
end Go.Proofs.Ytbiflpbajgafaaa.ign
