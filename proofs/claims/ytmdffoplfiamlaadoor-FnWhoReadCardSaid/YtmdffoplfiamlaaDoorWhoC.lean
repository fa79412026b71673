/- Signatures: bytes.LastIndexByte, bytes.Trim. -/
import Derived.Test.YtmdffoplfiamlaaDoorWhoD
import Derived.Test.YtmdffoplfiamlaaDoorMFnWhoReadx4
import Derived.Test.YtmdffoplfiamlaaDoorPFnWhoReadx1
import Derived.Test.YtmdffoplfiamlaaDoorCuts
import Derived.Deep.QuietTactic
import Derived.BigQuiet
namespace Go.Proofs.YtmdffoplfiamlaaDoor.who
open Go.Proofs.YtmdffoplfiamlaaDoor.cuts Go.RowKit Go.Lib Go.Proofs.YtmdffoplfiamlaaDoorW.PrintWords Go.Proofs.YtmdffoplfiamlaaDoorW.PrintLast Go.Proofs.YtmdffoplfiamlaaDoorW.PrintMore Go.Proofs.YtmdffoplfiamlaaDoor.PFnWhoRead
set_option linter.unusedVariables false
set_option linter.unusedSimpArgs false
set_option maxHeartbeats 2000000
set_option maxRecDepth 100000
theorem rd_mid (p q : List Int) (v : Int) : rd (p ++ v :: q) (p.length : Int) = v := by
  unfold rd
  rw [Int.toNat_natCast, List.getD_eq_getElem?_getD, List.getElem?_append_right (Nat.le_refl _), Nat.sub_self]
  rfl
theorem rd_behind (p q : List Int) (v : Int) (j : Nat) (h : j < q.length) : rd (p ++ v :: q) ((p.length + (j + 1) : Nat) : Int) = q[j] := by
  unfold rd
  rw [Int.toNat_natCast, List.getD_eq_getElem?_getD, List.getElem?_append_right (by omega), Nat.add_sub_cancel_left, List.getElem?_cons_succ, List.getElem?_eq_getElem h]
  rfl
theorem w64_sub {x : Int} (h : 0 ≤ x) (h2 : x ≤ 9223372036854775807) : wrap64 (x - 1) = x - 1 := by unfold wrap64; omega
theorem last_l0 (p q : List Int) (v : Int) (hv : v ∉ q) (hl : (p ++ v :: q).length ≤ 9223372036854775807) : ∀ j : Nat, j ≤ q.length → bytealg_LastIndexByte.l0 (j + 1) (p ++ v :: q) v ((p.length + j : Nat) : Int) = some (p.length : Int) := by
  have hlen : (p ++ v :: q).length = p.length + (q.length + 1) := by rw [List.length_append, List.length_cons]
  intro j
  induction j with
  | zero =>
    intro h
    show bytealg_LastIndexByte.l0 1 (p ++ v :: q) v (p.length : Int) = _
    rw [bytealg_LastIndexByte.l0, if_pos (by omega), if_pos (by omega), if_pos (by omega), if_pos (rd_mid p q v)]
  | succ j ih =>
    intro h
    have hne : q[j]'(by omega) ≠ v := fun e => hv (e ▸ List.getElem_mem _)
    rw [bytealg_LastIndexByte.l0, if_pos (by omega), if_pos (by omega), if_pos (by omega), if_neg (by rw [rd_behind p q v j (by omega)]; exact hne), w64_sub (by omega) (by omega)]
    have := ih (by omega)
    rw [show (((p.length + (j + 1) : Nat) : Int) - 1) = ((p.length + j : Nat) : Int) by omega]
    exact this
/-- The last place of a byte. -/
theorem last_any {l p q : List Int} {v : Int} (hl : l = p ++ v :: q) (hv : v ∉ q) {n c : Nat} (hn : l.length = n) {a : Int} (ha : a = (p.length : Int)) (hc : n ≤ c) {A : Option Addr} {w : World} (hC : (Kd.int .u8).C w A n l) :
    Calls Tryd.prog 45 #[.slice A n c, .int .u8 v] w fun e w' => e = .returned (.int .i64 a) ∧ Drawn0 w w' := by
  subst hl hn ha
  have hmax := hC.2.1
  refine bytes_LastIndexByte.calls (q.length + 1) A c (p ++ v :: q) v (p.length : Int) w hC hc ?_
  unfold bytes_LastIndexByte.f bytealg_LastIndexByte.f
  have hlen : (p ++ v :: q).length = p.length + (q.length + 1) := by rw [List.length_append, List.length_cons]
  rw [w64_sub (by omega) (by omega), show (((p ++ v :: q).length : Int) - 1) = ((p.length + q.length : Nat) : Int) by omega, last_l0 p q v hv hmax q.length (Nat.le_refl _)]
  rfl
theorem trimR_any (p : List Int) (m c : Nat) (hm : p.length = m) (hp : ∀ v, p.getLast? = some v → v ≠ 32) (A : Option Addr) (w : World) (hC : (Kd.int .u8).C w A (m + 1) (p ++ [32])) (hc : m + 1 ≤ c) :
    Calls Tryd.prog 70 #[.slice A (m + 1) c, .int .u8 32] w fun e w' => e = .returned (.slice A m c) ∧ w = w' := by
  have hmax : m + 1 ≤ 9223372036854775807 := hC.2.1
  obtain ⟨ad, hA, hx⟩ := Kd.at_int hC (m : Int) (by omega) (by omega)
  subst hA
  have hr : rd (p ++ [32]) (m : Int) = 32 := by rw [← hm]; exact rd_mid p [] 32
  rw [hr, Int.toNat_natCast] at hx
  have HX := Aside0.mk hx
  have HCT := Aside0.mk (take_C (l := p ++ [32]) (p := p) (q := [32]) rfl (n := m + 1) (m := m) (c := c) (by simp [hm]) hm (a := (m : Int)) rfl hc (some ad)).1
  have HY : Aside0 (0 < m → ∃ v, w.cell? (ad.add (m - 1)) = some (.int .u8 v) ∧ (v == 32) = false) := ⟨fun h0 => by
    obtain ⟨ad2, e2, hy⟩ := Kd.at_int hC ((m : Int) - 1) (by omega) (by omega)
    cases e2
    rw [show ((m : Int) - 1).toNat = m - 1 by omega] at hy
    refine ⟨_, hy, ?_⟩
    rw [beq_eq_false_iff_ne]
    have hlt : m - 1 < p.length := by omega
    have hrd : rd (p ++ [32]) ((m : Int) - 1) = p[m - 1] := by
      unfold rd
      rw [show ((m : Int) - 1).toNat = m - 1 by omega, List.getD_eq_getElem?_getD, List.getElem?_append_left hlt, List.getElem?_eq_getElem hlt]
      rfl
    rw [hrd]
    apply hp
    rw [List.getLast?_eq_getElem?, hm, List.getElem?_eq_getElem hlt]⟩
  clear hC hx hr hp
  go_enter Tryd.func70, Tryd.ntmps70
  go_wp2
  go_loopg [0] 2 (fun kq v0 w' => ∃ k : Nat, v0 = .slice (some ad) k c ∧ Aside0 (k = m + 1 ∧ kq = 2 ∨ k = m ∧ kq = 1) ∧ Aside0 (w = w'))
  case atStart => exact ⟨m + 1, rfl, ⟨.inl ⟨rfl, rfl⟩⟩, ⟨rfl⟩⟩
  case round =>
    obtain ⟨k, rfl, HK, HW⟩ := hrel
    obtain rfl := HW.out
    cases gk with
    | zero => exfalso; rcases HK.out with ⟨_, h⟩ | ⟨_, h⟩ <;> cases h
    | succ k1 =>
      by_cases hk : k = m + 1
      · subst hk
        have hx := HX.out
        have hcut := HCT.out
        have c0 : decide ((0 : Int) < (m : Int) + 1) = true := decide_eq_true (by omega)
        have c1 : decide (0 < m + 1) = true := decide_eq_true (by omega)
        have b0 : (0 : Int) ≤ (m : Int) := by omega
        have b1 : (m : Int) < (m : Int) + 1 := by omega
        have b2 : (m : Int) + 1 ≤ 9223372036854775807 := by omega
        go_wp2_with fail
        go_roundg k1
        case measure => omega
        case rel => exact ⟨m, rfl, ⟨.inr ⟨rfl, by rcases HK.out with ⟨_, h⟩ | ⟨h, _⟩ <;> omega⟩⟩, ⟨rfl⟩⟩
      · obtain rfl : k = m := by rcases HK.out with ⟨h, _⟩ | ⟨h, _⟩ <;> omega
        by_cases h0 : 0 < k
        · obtain ⟨v, hy, hv⟩ := HY.out h0
          have c0 : decide ((0 : Int) < (k : Int)) = true := decide_eq_true (by omega)
          have c1 : decide (0 < k) = true := decide_eq_true h0
          have b0 : (0 : Int) ≤ (k : Int) - 1 := by omega
          have b00 : (1 : Int) ≤ (k : Int) := by omega
          have b1 : (k : Int) - 1 < (k : Int) := by omega
          have b2 : (k : Int) ≤ 9223372036854775807 := by omega
          clear HY HCT HX hm
          go_wp2_with fail
          go_ret
          exact ⟨rfl, rfl⟩
        · have c0 : decide ((0 : Int) < (k : Int)) = false := decide_eq_false (by omega)
          have c1 : decide (0 < k) = false := decide_eq_false h0
          clear HY HCT HX hm
          go_wp2_with fail
          go_ret
          exact ⟨rfl, rfl⟩
/-- What is left of a text that does not begin with the byte: itself, or nil. -/
def trimmed (A : Option Addr) (m c : Nat) : Value := if m = 0 then .slice none 0 0 else .slice A m c
theorem trimL_any (p : List Int) (m c : Nat) (hm : p.length = m) (hp : ∀ v, p.head? = some v → v ≠ 32) (A : Option Addr) (w : World) (hC : (Kd.int .u8).C w A m p) (hc : m ≤ c) :
    Calls Tryd.prog 69 #[.slice A m c, .int .u8 32] w fun e w' => e = .returned (trimmed A m c) ∧ w = w' := by
  have hmax : m ≤ 9223372036854775807 := hC.2.1
  by_cases h0 : 0 < m
  · obtain ⟨ad, hA, hx⟩ := Kd.at_int hC 0 (by omega) (by omega)
    subst hA
    obtain ⟨v, hv⟩ : ∃ v, rd p 0 = v := ⟨_, rfl⟩
    rw [hv] at hx
    have hne : (v == 32) = false := by
      rw [beq_eq_false_iff_ne]
      apply hp
      rw [← hv, List.head?_eq_getElem?, List.getElem?_eq_getElem (by omega)]
      unfold rd
      rw [show (0 : Int).toNat = 0 from rfl, List.getD_eq_getElem?_getD, List.getElem?_eq_getElem (by omega)]
      rfl
    have HT := Aside0.mk (show trimmed (some ad) m c = .slice (some ad) m c from if_neg (by omega))
    have c0 : decide ((0 : Int) < (m : Int)) = true := decide_eq_true (by omega)
    have c1 : decide (0 < m) = true := decide_eq_true h0
    have c2 : ((m : Int) == 0) = false := by rw [beq_eq_false_iff_ne]; omega
    have c3 : (m == 0) = false := by rw [beq_eq_false_iff_ne]; omega
    have b1 : (0 : Int) < (m : Int) := by omega
    have b3 : ¬ m = 0 := by omega
    have hx2 : w.cell? ad = some (.int .u8 v) := by rw [show ad.add (Int.toNat 0) = ad from by unfold Addr.add; exact if_pos rfl] at hx; exact hx
    clear hx
    clear hC hp hv hm
    go_enter Tryd.func69, Tryd.ntmps69
    go_wp2
    go_loopg [0] 1 (fun kq v0 w' => v0 = .slice (some ad) m c ∧ Aside0 (kq = 1) ∧ Aside0 (w = w'))
    case atStart => exact ⟨rfl, ⟨rfl⟩, ⟨rfl⟩⟩
    case round =>
      obtain ⟨rfl, HK, HW⟩ := hrel
      obtain rfl := HW.out
      cases gk with
      | zero => exact absurd HK.out (by omega)
      | succ k1 =>
        go_wp2_with fail
        go_ret
        exact ⟨by rw [HT.out]; rfl, rfl⟩
  · obtain rfl : m = 0 := by omega
    have HT := Aside0.mk (show trimmed A 0 c = .slice none 0 0 from if_pos rfl)
    clear hC hp hm h0
    go_enter Tryd.func69, Tryd.ntmps69
    go_wp2
    go_loopg [0] 1 (fun kq v0 w' => v0 = .slice A 0 c ∧ Aside0 (kq = 1) ∧ Aside0 (w = w'))
    case atStart => exact ⟨rfl, ⟨rfl⟩, ⟨rfl⟩⟩
    case round =>
      obtain ⟨rfl, HK, HW⟩ := hrel
      obtain rfl := HW.out
      cases gk with
      | zero => exact absurd HK.out (by omega)
      | succ k1 =>
        go_wp2_with fail
        go_ret
        exact ⟨by rw [HT.out]; rfl, rfl⟩
theorem trimmed_C {w : World} {A : Option Addr} {m c : Nat} {p : List Int} (hC : (Kd.int .u8).C w A m p) (hc : m ≤ c) : ∃ A' c', trimmed A m c = .slice A' m c' ∧ m ≤ c' ∧ (Kd.int .u8).C w A' m p := by
  unfold trimmed
  by_cases h : m = 0
  · rw [if_pos h]
    subst h
    obtain rfl : p = [] := by cases p with
      | nil => rfl
      | cons a r => exact absurd hC.1 (by simp)
    exact ⟨none, 0, rfl, Nat.le_refl _, Kd.C_nil _ _⟩
  · rw [if_neg h]; exact ⟨A, c, rfl, hc, hC⟩
theorem trim_any (p : List Int) (m c : Nat) (hm : p.length = m) (hp : ∀ v, p.getLast? = some v → v ≠ 32) (hp0 : ∀ v, p.head? = some v → v ≠ 32) (A : Option Addr) (w : World) (hC : (Kd.int .u8).C w A (m + 1) (p ++ [32])) (hc : m + 1 ≤ c) :
    Calls Tryd.prog 46 #[.slice A (m + 1) c, .string ⟨#[32]⟩] w fun e w' => e = .returned (trimmed A m c) ∧ Drawn0 w w' := by
  have HR := Aside0.mk (fun k : Nat => trimR_any p m c hm hp A (w.drewN k) (Kd.C_drewN hC k) hc)
  have HL := Aside0.mk (fun k : Nat => trimL_any p m c hm hp0 A (w.drewN k) (Kd.C_drewN ((take_C (l := p ++ [32]) (p := p) (q := [32]) rfl (n := m + 1) (m := m) (c := c) (by simp [hm]) hm (a := (m : Int)) rfl hc A).2 w hC) k) (by omega))
  have c2 : ((m : Int) + 1 == 0) = false := by rw [beq_eq_false_iff_ne]; omega
  have c3 : (m + 1 == 0) = false := by rw [beq_eq_false_iff_ne]; omega
  clear hC hp hp0 hm
  go_enter Tryd.func46, Tryd.ntmps46
  go_wp2_with fail
  go_quiet ((first | (go_at_call 70; refine calls_of_args (args' := #[.slice A (m + 1) c, .int .u8 32]) rfl ?_; exact Calls.quiet_of_same ((HR.out _).mono fun _ _ h => ⟨h.1, h.2.symm⟩)) | (go_at_call 69; refine calls_of_args (args' := #[.slice A m c, .int .u8 32]) rfl ?_; exact Calls.quiet_of_same ((HL.out _).mono fun _ _ h => ⟨h.1, h.2.symm⟩))))
  go_wp2_with fail
  go_ret
  exact ⟨rfl, ⟨_, rfl⟩⟩
end Go.Proofs.YtmdffoplfiamlaaDoor.who
