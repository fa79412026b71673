/- path.scanChunk. -/
import Derived.Test.YtbiflpbajgafaaaIgnP
import Derived.Test.YtbiflpbajgafaaaShelf
import Derived.BigQuiet
import Derived.OwnWalk
import Derived.Test.YtbiflpbajgafaaaPFnIgnoreRootx0
namespace Go.Proofs.Ytbiflpbajgafaaa.ign
open Go.RowKit Go.Proofs.YtbiflpbajgafaaaW.PrintWords Go.Proofs.YtbiflpbajgafaaaW.PrintLast Go.Proofs.YtbiflpbajgafaaaW.PrintMore
set_option linter.unusedVariables false
set_option linter.unusedSimpArgs false
set_option maxHeartbeats 2000000
set_option maxRecDepth 100000
theorem w64 {n : Int} (h0 : -9223372036854775808 ≤ n) (h1 : n < 9223372036854775808) : wrap64 n = n := by
  unfold wrap64
  omega
theorem size_list (s : ByteArray) : s.data.toList.length = s.size := Array.length_toList
theorem at_list (s : ByteArray) (i : Nat) (h : i < s.size) (h2 : i < s.data.toList.length) : s[i]'h = s.data.toList[i] := by
  show s.data[i] = _
  rw [Array.getElem_toList]
/-- A byte without meaning in brackets. -/
def Plain (x : UInt8) : Prop := x ≠ 91 ∧ x ≠ 92 ∧ x ≠ 93 ∧ x.toNat < 128
theorem plain_ne {x y : UInt8} (h : x ≠ y) : (x.toNat : Int) ≠ (y.toNat : Int) := fun he => h (UInt8.toNat_inj.1 (by omega))
theorem ck_all (l : List UInt8) (h : ∀ x ∈ l, x ≠ 42) : ck l = l ∧ rs l = [] := by
  unfold ck rs
  induction l with
  | nil => exact ⟨rfl, rfl⟩
  | cons a r ih =>
    have ha : (a != 42) = true := by simpa using h a (by simp)
    obtain ⟨h1, h2⟩ := ih (fun x hx => h x (by simp [hx]))
    rw [List.takeWhile_cons, if_pos ha, h1, List.dropWhile_cons, if_pos ha, h2]
    exact ⟨rfl, rfl⟩
theorem ck_at (l : List UInt8) (i : Nat) (hi : i < l.length) (hx : l[i] = 42) (h : ∀ x ∈ l.take i, x ≠ 42) : ck l = l.take i ∧ rs l = l.drop i := by
  induction l generalizing i with
  | nil => exact absurd hi (by simp)
  | cons a r ih =>
    cases i with
    | zero =>
      have ha : a = 42 := hx
      subst ha
      exact ⟨rfl, rfl⟩
    | succ j =>
      have ha : (a != 42) = true := by simpa using h a (by simp)
      obtain ⟨h1, h2⟩ := ih j (by simpa using hi) (by simpa using hx) (fun x hx => h x (by rw [List.take_succ_cons]; exact List.mem_cons_of_mem _ hx))
      unfold ck at h1 ⊢
      unfold rs at h2 ⊢
      rw [List.takeWhile_cons, if_pos ha, h1, List.dropWhile_cons, if_pos ha, h2]
      exact ⟨rfl, rfl⟩
theorem ext_list (s : ByteArray) (a b : Nat) : (s.extract a b).data.toList = (s.data.toList.take b).drop a := by
  rw [ByteArray.data_extract, Array.toList_extract, List.extract_eq_take_drop]
  rw [List.drop_take]
def ScanP0 (w : World) (s : ByteArray) (e : Ending) (w' : World) : Prop := ∃ c r : ByteArray, e = .returned (.tuple #[.bool (s.data.toList.head? == some 42), .string c, .string r]) ∧ c.data.toList = ck (un s.data.toList) ∧ r.data.toList = rs (un s.data.toList) ∧ ∃ n, w' = w.drewN n
theorem scanChunk_any (s : ByteArray) (hp : ∀ x ∈ s.data.toList, Plain x) (hsz : s.size ≤ 1000000) (w : World) :
    Calls Try.prog 46 #[.string s] w (ScanP0 w s) := by
  have HP := Aside0.mk hp
  have HSZ := Aside0.mk hsz
  go_enter Try.func46, Try.ntmps46
  go_wp2_with fail
  go_loopg [0, 2] (s.data.toList.length + 1) (fun kq v0 v2 w' => ∃ (s' : ByteArray) (st : Bool), v0 = .string s' ∧ v2 = .bool st ∧ Aside0 (un s'.data.toList = un s.data.toList) ∧ Aside0 (s'.data.toList.length < kq) ∧ Aside0 (s'.data.toList.length ≤ s.data.toList.length) ∧ Aside0 ((st = true ∧ s.data.toList.head? = some 42) ∨ (st = false ∧ s'.data.toList = s.data.toList)) ∧ Aside0 (∀ x ∈ s'.data.toList, Plain x) ∧ Aside0 (w = w'))
  case atStart => exact ⟨s, false, rfl, rfl, ⟨rfl⟩, ⟨by omega⟩, ⟨Nat.le_refl _⟩, ⟨.inr ⟨rfl, rfl⟩⟩, HP, ⟨rfl⟩⟩
  case round =>
    obtain ⟨s', st, rfl, rfl, HU, HK, HLE, HST, HPL, HW⟩ := hrel
    obtain rfl := HW.out
    cases gk with
    | zero => exact absurd HK.out (by omega)
    | succ k1 =>
      have hle := HLE.out
      rw [size_list] at hle
      have hls := size_list s'
      have hls0 := size_list s
      have hsb := HSZ.out
      by_cases hem : s'.data.toList = []
      · have hz : s'.size = 0 := by rw [← size_list, hem]; rfl
        have c0 : decide ((0 : Int) < (s'.size : Int)) = false := decide_eq_false (by omega)
        have c1 : decide (0 < s'.size) = false := decide_eq_false (by omega)
        have HUN := Aside0.mk (show un s.data.toList = s'.data.toList from by rw [← HU.out, hem]; rfl)
        have hst : st = (s.data.toList.head? == some 42) := by
          rcases HST.out with ⟨h1, h2⟩ | ⟨h1, h2⟩
          · rw [h1, h2]; rfl
          · rw [h1, ← h2, hem]; rfl
        subst hst
        clear hem HST HU HK HLE
        go_wp2_with fail
        clear c0 c1
        go_loopg [2, 5, 6] (s'.data.toList.length + 1) (fun kq v2 v5 v6 w' => ∃ (i : Nat), v2 = .bool (s.data.toList.head? == some 42) ∧ v5 = .bool false ∧ v6 = .int .i64 (i : Int) ∧ i ≤ s'.data.toList.length ∧ Aside0 (kq + i = s'.data.toList.length + 1) ∧ Aside0 (∀ x ∈ s'.data.toList.take i, x ≠ 42) ∧ Aside0 (w = w'))
        case atStart => exact ⟨0, rfl, rfl, rfl, by omega, ⟨by omega⟩, ⟨by simp⟩, ⟨rfl⟩⟩
        case round =>
          obtain ⟨i, rfl, rfl, rfl, hi, HK2, HN, HW⟩ := hrel
          obtain rfl := HW.out
          cases gk with
          | zero => exact absurd HK2.out (by omega)
          | succ k2 =>
            by_cases hlt : i < s'.data.toList.length
            · exact absurd hlt (by rw [size_list]; omega)
            · have c0 : decide ((i : Int) < (s'.size : Int)) = false := decide_eq_false (by rw [← size_list]; omega)
              have c1 : decide (i < s'.size) = false := decide_eq_false (by rw [← size_list]; omega)
              have HCK := Aside0.mk (ck_all s'.data.toList (by have := HN.out; rwa [List.take_of_length_le (by omega)] at this))
              go_wp2_with fail
              go_ret3
              exact ⟨s', (⟨#[]⟩ : ByteArray), (by first | rfl | (simp; done)), (by rw [HUN.out, HCK.out.1]), (by rw [HUN.out, HCK.out.2]), 0, rfl⟩
      · have hz : 0 < s'.size := by rw [← size_list]; exact List.length_pos_iff.2 hem
        obtain ⟨x, q, hxq⟩ : ∃ x q, s'.data.toList = x :: q := by
          cases h : s'.data.toList with
          | nil => exact absurd h hem
          | cons x q => exact ⟨x, q, rfl⟩
        have c0 : decide ((0 : Int) < (s'.size : Int)) = true := decide_eq_true (by omega)
        have c1 : decide (0 < s'.size) = true := decide_eq_true hz
        have hix : ∀ h : 0 < s'.size, ((s'[0]'h).toNat : Int) = (x.toNat : Int) := fun h => by
          rw [at_list s' 0 h (by rw [hxq]; simp)]
          simp only [hxq, List.getElem_cons_zero]
        by_cases hs : x = 42
        · have e4 : ((x.toNat : Int) == 42) = true := by rw [hs]; rfl
          have q1 : (1 : Int) ≤ (s'.size : Int) := by omega
          have q2 : 1 ≤ s'.size := hz
          have HE := Aside0.mk (show (s'.extract 1 s'.size).data.toList = q from by rw [ext_list, ← size_list, List.take_length, hxq]; rfl)
          have HU2 := Aside0.mk (show un (s'.extract 1 s'.size).data.toList = un s.data.toList from by rw [HE.out, ← HU.out, hxq, hs, un_star])
          have HS2 := Aside0.mk (show s.data.toList.head? = some 42 from by
            rcases HST.out with ⟨h1, h2⟩ | ⟨h1, h2⟩
            · exact h2
            · rw [← h2, hxq, hs]; rfl)
          have HQ := Aside0.mk (show q.length + 1 = s'.data.toList.length from by rw [hxq]; rfl)
          have HPQ := Aside0.mk (show ∀ y ∈ q, Plain y from fun y hy => HPL.out y (by rw [hxq]; exact List.mem_cons_of_mem _ hy))
          clear hem hxq HST HU HPL
          go_wp2_with fail
          go_roundg k1
          case measure => omega
          case rel => exact ⟨s'.extract 1 s'.size, true, rfl, rfl, HU2, ⟨by rw [HE.out]; have := HK.out; have := HQ.out; omega⟩, ⟨by rw [HE.out]; have := HLE.out; have := HQ.out; omega⟩, ⟨.inl ⟨rfl, HS2.out⟩⟩, ⟨by rw [HE.out]; exact HPQ.out⟩, ⟨rfl⟩⟩
        · have e4 : ((x.toNat : Int) == 42) = false := by rw [beq_eq_false_iff_ne]; exact plain_ne hs
          have HUN := Aside0.mk (show un s.data.toList = s'.data.toList from by rw [← HU.out, hxq, un_other q hs])
          have hst : st = (s.data.toList.head? == some 42) := by
            rcases HST.out with ⟨h1, h2⟩ | ⟨h1, h2⟩
            · rw [h1, h2]; rfl
            · rw [h1, ← h2, hxq]
              symm
              rw [List.head?_cons, beq_eq_false_iff_ne]
              intro h
              injection h with h
              exact hs h
          subst hst
          clear hem hxq HST HU HK HLE
          go_wp2_with fail
          clear c0 c1 hix e4
          go_loopg [2, 5, 6] (s'.data.toList.length + 1) (fun kq v2 v5 v6 w' => ∃ (i : Nat), v2 = .bool (s.data.toList.head? == some 42) ∧ v5 = .bool false ∧ v6 = .int .i64 (i : Int) ∧ i ≤ s'.data.toList.length ∧ Aside0 (kq + i = s'.data.toList.length + 1) ∧ Aside0 (∀ x ∈ s'.data.toList.take i, x ≠ 42) ∧ Aside0 (w = w'))
          case atStart => exact ⟨0, rfl, rfl, rfl, by omega, ⟨by omega⟩, ⟨by simp⟩, ⟨rfl⟩⟩
          case round =>
            obtain ⟨i, rfl, rfl, rfl, hi, HK2, HN, HW⟩ := hrel
            obtain rfl := HW.out
            cases gk with
            | zero => exact absurd HK2.out (by omega)
            | succ k2 =>
              by_cases hlt : i < s'.data.toList.length
              · have hss : i < s'.size := by rw [← size_list]; exact hlt
                have c0 : decide ((i : Int) < (s'.size : Int)) = true := decide_eq_true (by omega)
                have c1 : decide (i < s'.size) = true := decide_eq_true hss
                have p1 : (0 : Int) ≤ (i : Int) := by omega
                have w1 : wrap64 ((i : Int) + 1) = (i : Int) + 1 := w64 (by omega) (by omega)
                obtain ⟨x, hx⟩ : ∃ x, s'.data.toList[i] = x := ⟨_, rfl⟩
                have hix : ∀ h : i < s'.size, ((s'[i]'h).toNat : Int) = (x.toNat : Int) := fun h => by rw [← hx, at_list s' i h hlt]
                have hpx := HPL.out x (by rw [← hx]; exact List.getElem_mem hlt)
                have e1 : ((x.toNat : Int) == 92) = false := by rw [beq_eq_false_iff_ne]; exact plain_ne hpx.2.1
                have e2 : ((x.toNat : Int) == 91) = false := by rw [beq_eq_false_iff_ne]; exact plain_ne hpx.1
                have e3 : ((x.toNat : Int) == 93) = false := by rw [beq_eq_false_iff_ne]; exact plain_ne hpx.2.2.1
                by_cases hs : x = 42
                · have e4 : ((x.toNat : Int) == 42) = true := by rw [hs]; rfl
                  have HCK := Aside0.mk (ck_at s'.data.toList i hlt (by rw [hx]; exact hs) HN.out)
                  clear hx
                  have p2 : (i : Int) ≤ (s'.size : Int) := by omega
                  have p3 : i ≤ s'.size := by omega
                  go_wp2_with fail
                  go_quiet (fail)
                  all_goals go_wp2
                  all_goals go_ret3
                  all_goals exact ⟨s'.extract 0 i, s'.extract i s'.size, (by first | rfl | (simp; done)), (by rw [ext_list, List.drop_zero, HUN.out, HCK.out.1]), (by rw [ext_list, HUN.out, HCK.out.2, ← size_list, List.take_length]), _, rfl⟩
                · have e4 : ((x.toNat : Int) == 42) = false := by rw [beq_eq_false_iff_ne]; exact plain_ne hs
                  have HN2 := Aside0.mk (show ∀ y ∈ s'.data.toList.take (i + 1), y ≠ 42 from fun y hy => by
                    rw [List.take_succ_eq_append_getElem hlt] at hy
                    rcases List.mem_append.1 hy with h | h
                    · exact HN.out y h
                    · rw [List.mem_singleton.1 h, hx]; exact hs)
                  clear hx
                  go_wp2_with fail
                  go_roundg k2
                  case measure => omega
                  case rel => exact ⟨i + 1, rfl, rfl, by go_num, by omega, ⟨by have := HK2.out; omega⟩, HN2, ⟨rfl⟩⟩
              · have c0 : decide ((i : Int) < (s'.size : Int)) = false := decide_eq_false (by rw [← size_list]; omega)
                have c1 : decide (i < s'.size) = false := decide_eq_false (by rw [← size_list]; omega)
                have HCK := Aside0.mk (ck_all s'.data.toList (by have := HN.out; rwa [List.take_of_length_le (by omega)] at this))
                go_wp2_with fail
                go_ret3
                exact ⟨s', (⟨#[]⟩ : ByteArray), (by first | rfl | (simp; done)), (by rw [HUN.out, HCK.out.1]), (by rw [HUN.out, HCK.out.2]), 0, rfl⟩
end Go.Proofs.Ytbiflpbajgafaaa.ign
