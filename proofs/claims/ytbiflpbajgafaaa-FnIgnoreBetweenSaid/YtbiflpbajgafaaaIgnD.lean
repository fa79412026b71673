/- gitignore.zzIndex, zzContains, zzSplit, zzTrimRight on what the laws hand them. -/
import Derived.Test.YtbiflpbajgafaaaIgnC
import Derived.Deep.DeepMust
import Derived.WalkSpells
namespace Go.Proofs.Ytbiflpbajgafaaa.ign
open Go.RowKit Go.Proofs.YtbiflpbajgafaaaW.PrintWords Go.Proofs.YtbiflpbajgafaaaW.PrintLast Go.Proofs.YtbiflpbajgafaaaW.PrintMore
set_option linter.unusedVariables false
set_option linter.unusedSimpArgs false
set_option maxHeartbeats 2000000
set_option maxRecDepth 100000
theorem ext_one (s : ByteArray) (k : Nat) (h : k < s.data.toList.length) : (s.extract k (k + 1)).toList = [s.data.toList[k]] := by
  rw [ByteArray.toList_eq, ext_list, List.take_succ_eq_append_getElem h, List.drop_append_of_le_length (by rw [List.length_take]; omega), List.drop_of_length_le (by rw [List.length_take]; omega)]
  rfl
theorem ext_two (s : ByteArray) (k : Nat) (h : k + 1 < s.data.toList.length) : (s.extract k (k + 2)).toList = [s.data.toList[k], s.data.toList[k + 1]] := by
  rw [ByteArray.toList_eq, ext_list, List.take_succ_eq_append_getElem h, List.take_succ_eq_append_getElem (by omega), List.append_assoc, List.drop_append_of_le_length (by rw [List.length_take]; omega), List.drop_of_length_le (by rw [List.length_take]; omega)]
  rfl
theorem index_no (s : ByteArray) (hsz : s.size ≤ 1000000) (h : ∀ x ∈ s.data.toList, x ≠ 47) (w : World) :
    Calls Try.prog 26 #[.string s, .string ⟨#[47]⟩] w fun e w' => e = .returned (.int .i64 (-1)) ∧ w = w' := by
  have HN := Aside0.mk h
  clear h
  go_enter Try.func26, Try.ntmps26
  go_wp2_with fail
  go_loopg [5] (s.data.toList.length + 1) (fun kq v5 w' => ∃ (i : Nat), v5 = .int .i64 (i : Int) ∧ i ≤ s.data.toList.length ∧ Aside0 (kq + i = s.data.toList.length + 1) ∧ Aside0 (w = w'))
  case atStart => exact ⟨0, rfl, by omega, ⟨by omega⟩, ⟨rfl⟩⟩
  case round =>
    obtain ⟨i, rfl, hi, HK, HW⟩ := hrel
    obtain rfl := HW.out
    cases gk with
    | zero => exact absurd HK.out (by omega)
    | succ k1 =>
      by_cases hlt : i < s.data.toList.length
      · have hss : i < s.size := by rw [← size_list]; exact hlt
        have p1 : (0 : Int) ≤ (i : Int) := by omega
        have p2 : (i : Int) + 1 ≤ (s.size : Int) := by omega
        have p3 : i + 1 ≤ s.size := hss
        have w1 : wrap64 ((i : Int) + 1) = (i : Int) + 1 := w64 (by omega) (by omega)
        have c0 : decide ((i : Int) + 1 ≤ (s.size : Int)) = true := decide_eq_true p2
        have c1 : decide (i + 1 ≤ s.size) = true := decide_eq_true p3
        have e1 : ((s.extract i (i + 1)).toList == [47]) = false := by
          rw [ext_one s i hlt, beq_eq_false_iff_ne]
          intro h
          injection h with h
          exact HN.out _ (List.getElem_mem hlt) h
        go_wp2_with fail
        go_roundg k1
        case measure => omega
        case rel => exact ⟨i + 1, by go_num, by omega, ⟨by have := HK.out; omega⟩, ⟨rfl⟩⟩
      · have hls := size_list s
        have w1 : wrap64 ((i : Int) + 1) = (i : Int) + 1 := w64 (by omega) (by omega)
        have c0 : decide ((i : Int) + 1 ≤ (s.size : Int)) = false := decide_eq_false (by omega)
        have c1 : decide (i + 1 ≤ s.size) = false := decide_eq_false (by omega)
        go_wp2_with fail
        go_ret
        exact ⟨rfl, rfl⟩
theorem index_at (s : ByteArray) (hsz : s.size ≤ 1000000) (a b : List UInt8) (h : s.data.toList = a ++ 47 :: b) (ha : ∀ x ∈ a, x ≠ 47) (w : World) :
    Calls Try.prog 26 #[.string s, .string ⟨#[47]⟩] w fun e w' => e = .returned (.int .i64 (a.length : Int)) ∧ w = w' := by
  have HA := Aside0.mk ha
  have HS := Aside0.mk h
  have hlen : a.length < s.size := by rw [← size_list, h, List.length_append, List.length_cons]; omega
  clear ha h
  go_enter Try.func26, Try.ntmps26
  go_wp2_with fail
  go_loopg [5] (a.length + 1) (fun kq v5 w' => ∃ (i : Nat), v5 = .int .i64 (i : Int) ∧ i ≤ a.length ∧ Aside0 (kq + i = a.length + 1) ∧ Aside0 (w = w'))
  case atStart => exact ⟨0, rfl, by omega, ⟨by omega⟩, ⟨rfl⟩⟩
  case round =>
    obtain ⟨i, rfl, hi, HK, HW⟩ := hrel
    obtain rfl := HW.out
    have hlt : i < s.data.toList.length := by rw [size_list]; omega
    have p1 : (0 : Int) ≤ (i : Int) := by omega
    have p2 : (i : Int) + 1 ≤ (s.size : Int) := by omega
    have p3 : i + 1 ≤ s.size := by omega
    have w1 : wrap64 ((i : Int) + 1) = (i : Int) + 1 := w64 (by omega) (by omega)
    have c0 : decide ((i : Int) + 1 ≤ (s.size : Int)) = true := decide_eq_true p2
    have c1 : decide (i + 1 ≤ s.size) = true := decide_eq_true p3
    cases gk with
    | zero => exact absurd HK.out (by omega)
    | succ k1 =>
      by_cases hia : i < a.length
      · have e1 : ((s.extract i (i + 1)).toList == [47]) = false := by
          rw [ext_one s i hlt, beq_eq_false_iff_ne]
          intro h
          injection h with h
          have h2 : s.data.toList[i] = a[i] := by simp only [HS.out, List.getElem_append_left hia]
          exact HA.out _ (List.getElem_mem hia) (h2.symm.trans h)
        clear hlt
        go_wp2_with fail
        go_roundg k1
        case measure => omega
        case rel => exact ⟨i + 1, by go_num, by omega, ⟨by have := HK.out; omega⟩, ⟨rfl⟩⟩
      · obtain rfl : i = a.length := by omega
        have e1 : ((s.extract a.length (a.length + 1)).toList == [47]) = true := by
          rw [ext_one s a.length hlt, beq_iff_eq]
          simp only [HS.out, List.getElem_append_right (Nat.le_refl _), Nat.sub_self, List.getElem_cons_zero]
        clear hlt
        go_wp2_with fail
        go_ret
        exact ⟨rfl, rfl⟩
/-- No two stars beside one another. -/
def NoDbl (l : List UInt8) : Prop := ∀ (i : Nat) (h : i + 1 < l.length), ¬ (l[i] = 42 ∧ l[i + 1] = 42)
theorem index_dbl (s : ByteArray) (hsz : s.size ≤ 1000000) (h : NoDbl s.data.toList) (w : World) :
    Calls Try.prog 26 #[.string s, .string ⟨#[42, 42]⟩] w fun e w' => e = .returned (.int .i64 (-1)) ∧ w = w' := by
  have HN := Aside0.mk h
  clear h
  go_enter Try.func26, Try.ntmps26
  go_wp2_with fail
  go_loopg [5] (s.data.toList.length + 1) (fun kq v5 w' => ∃ (i : Nat), v5 = .int .i64 (i : Int) ∧ i ≤ s.data.toList.length ∧ Aside0 (kq + i = s.data.toList.length + 1) ∧ Aside0 (w = w'))
  case atStart => exact ⟨0, rfl, by omega, ⟨by omega⟩, ⟨rfl⟩⟩
  case round =>
    obtain ⟨i, rfl, hi, HK, HW⟩ := hrel
    obtain rfl := HW.out
    have hls := size_list s
    cases gk with
    | zero => exact absurd HK.out (by omega)
    | succ k1 =>
      have p1 : (0 : Int) ≤ (i : Int) := by omega
      have w1 : wrap64 ((i : Int) + 1) = (i : Int) + 1 := w64 (by omega) (by omega)
      have w2 : wrap64 ((i : Int) + 2) = (i : Int) + 2 := w64 (by omega) (by omega)
      by_cases hlt : i + 1 < s.data.toList.length
      · have p2 : (i : Int) + 2 ≤ (s.size : Int) := by omega
        have p3 : i + 2 ≤ s.size := by omega
        have c0 : decide ((i : Int) + 2 ≤ (s.size : Int)) = true := decide_eq_true p2
        have c1 : decide (i + 2 ≤ s.size) = true := decide_eq_true p3
        have e1 : ((s.extract i (i + 2)).toList == [42, 42]) = false := by
          rw [ext_two s i hlt, beq_eq_false_iff_ne]
          intro h
          injection h with h1 h2
          injection h2 with h2
          exact HN.out i hlt ⟨h1, h2⟩
        clear hls
        go_wp2_with fail
        go_roundg k1
        case measure => omega
        case rel => exact ⟨i + 1, by go_num, by omega, ⟨by have := HK.out; omega⟩, ⟨rfl⟩⟩
      · have c0 : decide ((i : Int) + 2 ≤ (s.size : Int)) = false := decide_eq_false (by omega)
        have c1 : decide (i + 2 ≤ s.size) = false := decide_eq_false (by omega)
        clear hls
        go_wp2_with fail
        go_ret
        exact ⟨rfl, rfl⟩
theorem contains_no (s : ByteArray) (hsz : s.size ≤ 1000000) (h : ∀ x ∈ s.data.toList, x ≠ 47) (w : World) :
    Calls Try.prog 22 #[.string s, .string ⟨#[47]⟩] w fun e w' => e = .returned (.bool false) ∧ w = w' := by
  have HI := Aside0.mk (index_no s hsz h w)
  clear h
  go_enter Try.func22, Try.ntmps22
  go_wp2_with (go_at_call 26; refine HI.out.mono ?_; rintro e w' ⟨rfl, rfl⟩)
  go_ret
  exact ⟨rfl, rfl⟩
theorem contains_yes (s : ByteArray) (hsz : s.size ≤ 1000000) (a b : List UInt8) (h : s.data.toList = a ++ 47 :: b) (ha : ∀ x ∈ a, x ≠ 47) (w : World) :
    Calls Try.prog 22 #[.string s, .string ⟨#[47]⟩] w fun e w' => e = .returned (.bool true) ∧ w = w' := by
  have HI := Aside0.mk (index_at s hsz a b h ha w)
  have c0 : decide ((0 : Int) ≤ (a.length : Int)) = true := decide_eq_true (by omega)
  clear h ha
  go_enter Try.func22, Try.ntmps22
  go_wp2_with (go_at_call 26; refine HI.out.mono ?_; rintro e w' ⟨rfl, rfl⟩)
  go_ret
  exact ⟨by first | rfl | (simp; done), rfl⟩
theorem contains_dbl (s : ByteArray) (hsz : s.size ≤ 1000000) (h : NoDbl s.data.toList) (w : World) :
    Calls Try.prog 22 #[.string s, .string ⟨#[42, 42]⟩] w fun e w' => e = .returned (.bool false) ∧ w = w' := by
  have HI := Aside0.mk (index_dbl s hsz h w)
  clear h
  go_enter Try.func22, Try.ntmps22
  go_wp2_with (go_at_call 26; refine HI.out.mono ?_; rintro e w' ⟨rfl, rfl⟩)
  go_ret
  exact ⟨rfl, rfl⟩
/-- Names with slashes between. -/
def joinS : List ByteArray → List UInt8
  | [] => []
  | [a] => a.data.toList
  | a :: b :: r => a.data.toList ++ 47 :: joinS (b :: r)
theorem joinS_len : ∀ (l : List ByteArray), l.length ≤ (joinS l).length + 1
  | [] => by simp [joinS]
  | [a] => by simp [joinS]
  | a :: b :: r => by
    have := joinS_len (b :: r)
    rw [joinS]
    simp only [List.length_append, List.length_cons] at this ⊢
    omega
theorem infoS : (Try.prog.info? 9).map (fun i => (i.zero, i.size, i.bytes)) = some (some (.string ⟨#[]⟩), 1, 16) := by kernel_rfl
theorem split_any (s : ByteArray) (l : List ByteArray) (hsz : s.size ≤ 1000000) (hne : l ≠ []) (h : s.data.toList = joinS l) (hl : ∀ a ∈ l, ∀ x ∈ a.data.toList, x ≠ 47) (w : World) :
    Calls Try.prog 23 #[.string s, .string ⟨#[47]⟩] w fun e w' => ∃ v, e = .returned v ∧ Kd.R Kd.string 9 w' w.heap.size (fun _ => True) v l ∧ Below w.heap.size w w' := by
  have HS := Aside0.mk h
  have HL := Aside0.mk hl
  have HNE := Aside0.mk hne
  have HB0 := Aside0.mk (Below.refl w.heap.size w)
  have hll := joinS_len l
  rw [← h, size_list] at hll
  have HLL := Aside0.mk (show l.length ≤ 1000001 from by omega)
  clear h hl hne hll
  go_enter Try.func23, Try.ntmps23
  go_wp2_with fail
  go_loopg [0, 5] (l.length + 1) (fun kq v0 v5 w' => ∃ (s' : ByteArray) (dn rest : List ByteArray) (lv : Value), v0 = .string s' ∧ lv = v5 ∧ Aside0 (rest.length < kq) ∧ Aside0 (rest ≠ []) ∧ Aside0 (s'.size ≤ 1000000) ∧ Aside0 (l = dn ++ rest) ∧ Aside0 (s'.data.toList = joinS rest) ∧ Aside0 (Kd.R Kd.string 9 w' w.heap.size (fun _ => True) lv dn) ∧ Aside0 (Below w.heap.size w w'))
  case atStart => exact ⟨s, [], l, _, rfl, rfl, ⟨by omega⟩, HNE, ⟨hsz⟩, ⟨rfl⟩, HS, ⟨Kd.R_nil _ _ _ _ _⟩, HB0⟩
  case round =>
    clear HB0 HS HNE hsz
    obtain ⟨s', dn, rest, lv, rfl, hlv, HK, HR, HSZ, HE, HS, HO, HB⟩ := hrel
    subst hlv
    cases gk with
    | zero => exact absurd HK.out (by omega)
    | succ k1 =>
      obtain ⟨a, r, hr⟩ : ∃ a r, rest = a :: r := by
        cases h : rest with
        | nil => exact absurd h HR.out
        | cons a r => exact ⟨a, r, rfl⟩
      have HA := Aside0.mk (HL.out a (by rw [HE.out, hr]; simp))
      have HDN := Aside0.mk (show (dn.length + 1) * 16 ≤ 140737488355328 from by
        have h1 := HLL.out
        have h2 := congrArg List.length HE.out
        rw [List.length_append] at h2
        omega)
      by_cases hr0 : r = []
      · subst hr0
        subst hr
        have hs' := HS.out
        rw [joinS] at hs'
        have hsa : s' = a := Go.WideShapes.bytes_inj hs'
        subst hsa
        have HI := Aside0.mk (index_no s' HSZ.out HA.out wr)
        have HE2 := HE.out
        clear HS HK HR hs'
        go_wp2_with (first | (go_at_call 26; refine HI.out.mono ?_; rintro e w' ⟨rfl, rfl⟩) | ((with_reducible refine gate_builtin (b := .append) (xs := #[.tmp 12, .tmp 14]) rfl ?_); at_builtin; go_must (refine Kd.R_append Kd.string (w0 := w) w.heap.size rfl (.tmp 12) (.tmp 14) 22 9 (.string ⟨#[]⟩) 16 rfl Try.underlying22 infoS rfl (by decide) (by omega) lv dn s' [.string s'] (fun _ => True) (fun _ => False) rfl rfl rfl (fun _ hk => hk.elim) (fun _ _ => trivial) HO.out HB.out (below_size HB.out) HDN.out ?_); intro v3 wc ho hb hg hat; go_must (have HO3 := Aside0.mk ho; have HB3 := Aside0.mk hb; clear ho hb hg hat)))
        go_ret
        exact ⟨_, rfl, by rw [HE2]; exact HO3.out, HB3.out⟩
      · obtain ⟨b, r2, hb2⟩ : ∃ b r2, r = b :: r2 := by
          cases h : r with
          | nil => exact absurd h hr0
          | cons b r2 => exact ⟨b, r2, rfl⟩
        subst hb2
        subst hr
        have hs' := HS.out
        rw [joinS] at hs'
        have HI := Aside0.mk (index_at s' HSZ.out a.data.toList _ hs' HA.out wr)
        have hsz' := HSZ.out
        have hlen : a.data.toList.length + 1 ≤ s'.size := by rw [← size_list, hs', List.length_append, List.length_cons]; omega
        have p1 : (0 : Int) ≤ (a.data.toList.length : Int) := by omega
        have p2 : (a.data.toList.length : Int) ≤ (s'.size : Int) := by omega
        have p3 : a.data.toList.length ≤ s'.size := by omega
        have p4 : (a.data.toList.length : Int) + 1 ≤ (s'.size : Int) := by omega
        have p5 : (0 : Int) ≤ (a.data.toList.length : Int) + 1 := by omega
        have c0 : decide ((a.data.toList.length : Int) < 0) = false := decide_eq_false (by omega)
        have w1 : wrap64 ((a.data.toList.length : Int) + 1) = (a.data.toList.length : Int) + 1 := w64 (by omega) (by omega)
        have hfa : s'.extract 0 a.data.toList.length = a := Go.WideShapes.bytes_inj (by rw [ext_list, List.drop_zero, hs', List.take_left])
        have HRT := Aside0.mk (show (s'.extract (a.data.toList.length + 1) s'.size).data.toList = joinS (b :: r2) from by
          rw [ext_list, ← size_list, List.take_length, hs', show a.data.toList ++ 47 :: joinS (b :: r2) = (a.data.toList ++ [47]) ++ joinS (b :: r2) from by simp]
          rw [show a.data.toList.length + 1 = (a.data.toList ++ [47]).length from by simp, List.drop_left])
        have HSZ2 := Aside0.mk (show (s'.extract (a.data.toList.length + 1) s'.size).size ≤ 1000000 from by rw [ByteArray.size_extract]; omega)
        obtain ⟨na, hna⟩ : ∃ na, a.data.toList.length = na := ⟨_, rfl⟩
        rw [hna] at HI p1 p2 p3 p4 p5 c0 w1 hfa HRT HSZ2
        clear HS hs' hlen hna
        go_wp2_with (first | (go_at_call 26; refine HI.out.mono ?_; rintro e w' ⟨rfl, rfl⟩) | ((with_reducible refine gate_builtin (b := .append) (xs := #[.tmp 16, .tmp 20]) rfl ?_); at_builtin; go_must (refine Kd.R_append Kd.string (w0 := w) w.heap.size rfl (.tmp 16) (.tmp 20) 22 9 (.string ⟨#[]⟩) 16 rfl Try.underlying22 infoS rfl (by decide) (by omega) lv dn a [.string a] (fun _ => True) (fun _ => False) rfl (by first | (go_simp; done) | (go_simp; rfl)) rfl (fun _ hk => hk.elim) (fun _ _ => trivial) HO.out HB.out (below_size HB.out) HDN.out ?_); intro v3 wc ho hb hg hat; go_must (have HO3 := Aside0.mk ho; have HB3 := Aside0.mk hb; clear ho hb hg hat)))
        go_roundg k1
        case measure => omega
        case rel => exact ⟨_, dn ++ [a], b :: r2, _, rfl, rfl, ⟨by have := HK.out; simp only [List.length_cons] at this ⊢; omega⟩, ⟨by simp⟩, HSZ2, ⟨by rw [List.append_assoc]; exact HE.out⟩, HRT, HO3, HB3⟩
theorem trim_any (s : ByteArray) (hsz : s.size ≤ 1000000) (hne : s.data.toList ≠ []) (h : ∀ x ∈ s.data.toList, x ≠ 32) (w : World) :
    Calls Try.prog 21 #[.string s, .string ⟨#[32]⟩] w fun e w' => e = .returned (.string s) ∧ Drn w w' := by
  have hz : 0 < s.size := by rw [← size_list]; exact List.length_pos_iff.2 hne
  have hlt : s.size - 1 < s.data.toList.length := by rw [size_list]; omega
  obtain ⟨d, hd⟩ : ∃ d, s.data.toList[s.size - 1] = d := ⟨_, rfl⟩
  have hd32 : d ≠ 32 := by rw [← hd]; exact h _ (List.getElem_mem hlt)
  have hix : ∀ hh : s.size - 1 < s.size, ((s[s.size - 1]'hh).toNat : Int) = (d.toNat : Int) := fun hh => by rw [← hd, at_list s _ hh hlt]
  have c0 : decide ((0 : Int) < (s.size : Int)) = true := decide_eq_true (by omega)
  have c1 : decide (0 < s.size) = true := decide_eq_true hz
  have p1 : (0 : Int) ≤ (s.size : Int) - 1 := by omega
  have p2 : (s.size : Int) - 1 < (s.size : Int) := by omega
  have p3 : ((s.size : Int) - 1).toNat = s.size - 1 := by omega
  have w1 : wrap64 ((s.size : Int) - 1) = (s.size : Int) - 1 := w64 (by omega) (by omega)
  have e1 : ((32 : Int) == (d.toNat : Int)) = false := by
    rw [beq_eq_false_iff_ne]
    exact fun hh => hd32 (UInt8.toNat_inj.1 (by show d.toNat = 32; omega))
  have e2 : ((((⟨#[32]⟩ : ByteArray)[0]'(by decide)).toNat : Int) == (d.toNat : Int)) = false := e1
  have hall : s.extract 0 s.size = s := Go.WideShapes.bytes_inj (by rw [ext_list, List.drop_zero, ← size_list, List.take_length])
  have p4 : (1 : Int) ≤ (s.size : Int) := by omega
  clear hne h hd hd32 hlt
  go_enter Try.func21, Try.ntmps21
  go_wp2_with fail
  refine wp_loop_rounds 1 ?_
  rw [rounds_succ]
  go_wp2_with fail
  refine wp_loop_rounds 2 ?_
  rw [rounds_succ]
  go_wp2_with fail
  go_quiet (fail)
  go_wp2_with fail
  rw [rounds_succ]
  go_wp2_with fail
  go_ret
  exact ⟨by first | rfl | (rw [hall]; done), Drn.drewN (Drn.refl _) _⟩
end Go.Proofs.Ytbiflpbajgafaaa.ign
