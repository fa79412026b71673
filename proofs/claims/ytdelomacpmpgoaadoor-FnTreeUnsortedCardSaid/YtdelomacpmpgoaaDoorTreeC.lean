/- Trees: sort.IsSorted, and what is called at the end of Encode. -/
import Derived.Test.YtdelomacpmpgoaaDoorTreeB
import Derived.Defers
namespace Go.Proofs.YtdelomacpmpgoaaDoor.tree
open Go.RowKit Go.Proofs.YtdelomacpmpgoaaDoorW.PrintWords Go.Proofs.YtdelomacpmpgoaaDoorW.PrintLast Go.Proofs.YtdelomacpmpgoaaDoorW.PrintMore Go.Proofs.YtdelomacpmpgoaaDoor.PFnTreeUnsorted Go.Proofs.YtdelomacpmpgoaaDoor.ord
set_option linter.unusedVariables false
set_option linter.unusedSimpArgs false
set_option maxHeartbeats 2000000
set_option maxRecDepth 100000
theorem srt_nil (A : Option Addr) (n c : Nat) (m : String) (hm : m = "Len" ∨ m = "Less") (w : World) : (nilAhead 266 69 (.slice A n c) m).run Tryd.prog w = .ok (some false) w := by
  rcases hm with rfl | rfl <;> kernel_rfl
theorem srt_len (A : Option Addr) (n c : Nat) (w : World) : (method 266 69 (.slice A n c) "Len").run Tryd.prog w = .ok (72, .slice A n c) w := by kernel_rfl
theorem srt_less (A : Option Addr) (n c : Nat) (w : World) : (method 266 69 (.slice A n c) "Less").run Tryd.prog w = .ok (73, .slice A n c) w := by kernel_rfl
theorem len_any (A : Option Addr) (n c : Nat) (w : World) : Calls Tryd.prog 72 #[.slice A n c] w fun e w' => e = .returned (.int .i64 (n : Int)) ∧ w = w' := by
  go_enter Tryd.func72, Tryd.ntmps72
  go_wp2_with fail
  go_ret
  exact ⟨rfl, rfl⟩
theorem isSorted_no (w : World) (A : Option Addr) (cc : Nat) (l : List S30) (hC : kT.C w A l.length l) (hs : ∀ x ∈ l, Small x) (hl : l.length ≤ 1000) (js : Nat) (hj : js + 1 < l.length) (hb : Op.bytesLess (kl l[js + 1]) (kl l[js]) = true) :
    Calls Tryd.prog 19 #[.iface 69 (.slice A l.length cc)] w fun e w' => e = .returned (.bool false) ∧ ∃ m, w' = w.drewN m := by
  have HL := Aside0.mk (fun (m i j : Nat) (hi : i < l.length) (hj : j < l.length) => less_any (w.drewN m) A cc l (Kd.C_below hC ⟨rfl, rfl, rfl, Nat.le_refl _, fun _ _ => rfl⟩) hs i j hi hj)
  have HBQ := Aside0.mk hb
  have hn1 := srt_nil A l.length cc "Len" (.inl rfl)
  have hn2 := srt_nil A l.length cc "Less" (.inr rfl)
  have hm1 := srt_len A l.length cc
  have hm2 := srt_less A l.length cc
  have w0 : wrap64 ((l.length : Int) - 1) = ((l.length - 1 : Nat) : Int) := by unfold wrap64; omega
  clear hC hs hb
  go_enter Tryd.func19, Tryd.ntmps19
  go_wp2_with fail
  refine (len_any _ _ _ _).mono ?_
  rintro e w1 ⟨rfl, rfl⟩
  go_wp2_with fail
  go_loopg [4] l.length (fun kq v4 w' => ∃ i m : Nat, v4 = .int .i64 (i : Int) ∧ js + 1 ≤ i ∧ i < l.length ∧ Aside0 (kq = i + 1) ∧ w.drewN m = w')
  case atStart => exact ⟨l.length - 1, 0, by rw [show ((l.length - 1 : Nat) : Int) = (l.length : Int) - 1 by omega], by omega, by omega, ⟨by omega⟩, rfl⟩
  case round =>
    obtain ⟨i, m, rfl, h1, h2, HK, rfl⟩ := hrel
    obtain ⟨p, rfl⟩ : ∃ p, i = p + 1 := ⟨i - 1, by omega⟩
    cases gk with
    | zero => exact absurd HK.out (by omega)
    | succ k1 =>
      have c0 : decide ((0 : Int) < ((p + 1 : Nat) : Int)) = true := decide_eq_true (by omega)
      have c1 : decide (0 < p + 1) = true := decide_eq_true (by omega)
      have w1 : wrap64 (((p + 1 : Nat) : Int) - 1) = (p : Int) := by unfold wrap64; omega
      have HLE := Aside0.mk (HL.out m (p + 1) p h2 (by omega))
      by_cases hp : p = js
      · subst hp
        rw [HBQ.out] at HLE
        go_wp2_with fail
        refine HLE.out.mono ?_
        rintro e w2 ⟨rfl, m2, rfl⟩
        go_wp2_with fail
        go_ret
        exact ⟨rfl, m + m2, rfl⟩
      · obtain ⟨r, hr⟩ : ∃ r, Op.bytesLess (kl l[p + 1]) (kl l[p]) = r := ⟨_, rfl⟩
        rw [hr] at HLE
        clear hr
        cases r with
        | true =>
          go_wp2_with fail
          refine HLE.out.mono ?_
          rintro e w2 ⟨rfl, m2, rfl⟩
          go_wp2_with fail
          go_ret
          exact ⟨rfl, m + m2, rfl⟩
        | false =>
          go_wp2_with fail
          refine HLE.out.mono ?_
          rintro e w2 ⟨rfl, m2, rfl⟩
          go_wp2_with fail
          go_roundg k1
          case measure => have := HK.out; omega
          case rel => exact ⟨p, m + m2, by go_num, by omega, by omega, ⟨by have := HK.out; omega⟩, rfl⟩
theorem isSorted_nil (w : World) : Calls Tryd.prog 19 #[.iface 69 (.slice none 0 0)] w fun e w' => e = .returned (.bool true) ∧ w = w' := by
  have hn1 := srt_nil none 0 0 "Len" (.inl rfl)
  have hm1 := srt_len none 0 0
  go_enter Tryd.func19, Tryd.ntmps19
  go_wp2_with fail
  refine (len_any _ _ _ _).mono ?_
  rintro e w1 ⟨rfl, rfl⟩
  go_wp2_with fail
  go_loopg [4] 1 (fun kq v4 w' => v4 = .int .i64 (-1) ∧ Aside0 (kq = 1) ∧ w = w')
  case atStart => exact ⟨rfl, ⟨rfl⟩, rfl⟩
  case round =>
    obtain ⟨rfl, HK, rfl⟩ := hrel
    cases gk with
    | zero => exact absurd HK.out (by omega)
    | succ k1 =>
      go_wp2_with fail
      go_ret
      exact ⟨rfl, rfl⟩
theorem mo_nil (a : Addr) (m : String) (hm : m = "Close" ∨ m = "SetType" ∨ m = "Writer" ∨ m = "Reader") (w : World) : (nilAhead 266 43 (.pointer (some a)) m).run Tryd.prog w = .ok (some false) w := by
  rcases hm with rfl | rfl | rfl | rfl <;> kernel_rfl
theorem mo_close (a : Addr) (w : World) : (method 266 43 (.pointer (some a)) "Close").run Tryd.prog w = .ok (61, .pointer (some a)) w := by kernel_rfl
theorem mo_setType (a : Addr) (w : World) : (method 266 43 (.pointer (some a)) "SetType").run Tryd.prog w = .ok (64, .pointer (some a)) w := by kernel_rfl
theorem mo_writer (a : Addr) (w : World) : (method 266 43 (.pointer (some a)) "Writer").run Tryd.prog w = .ok (66, .pointer (some a)) w := by kernel_rfl
theorem mo_reader (a : Addr) (w : World) : (method 266 43 (.pointer (some a)) "Reader").run Tryd.prog w = .ok (62, .pointer (some a)) w := by kernel_rfl
theorem close_any (a : Addr) (w : World) : Calls Tryd.prog 61 #[.pointer (some a)] w fun e w' => e = .returned .nilIface ∧ w = w' := by
  go_enter Tryd.func61, Tryd.ntmps61
  go_wp2_with fail
  go_ret
  exact ⟨rfl, rfl⟩
theorem checkClose_deferred (a b : Addr) (u : FrameMode) (w : World) :
    CallsD Tryd.prog 18 #[.iface 43 (.pointer (some a)), .pointer (some b)] u w fun e u' w' => u' = u ∧ (e = .returned (.tuple #[]) ∧ w' = w) := by
  have hn1 := mo_nil a "Close" (.inl rfl)
  have hm1 := mo_close a
  go_enter_d Tryd.func18, Tryd.ntmps18
  go_wp2_with fail
  refine (close_any _ _).mono ?_
  rintro e w1 ⟨rfl, rfl⟩
  go_wp2_with fail
  go_end0
  exact ⟨rfl, rfl⟩
end Go.Proofs.YtdelomacpmpgoaaDoor.tree
