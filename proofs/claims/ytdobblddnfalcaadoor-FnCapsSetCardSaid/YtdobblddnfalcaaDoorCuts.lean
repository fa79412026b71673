/- Slices of bytes that are cut: the cut's run, and what it reads, told by the lists ahead of it and behind it. -/
import Derived.Test.YtdobblddnfalcaaDoorProg
import Derived.Test.YtdobblddnfalcaaDoorWMore
namespace Go.Proofs.YtdobblddnfalcaaDoor.cuts
open Go.RowKit Go.Proofs.YtdobblddnfalcaaDoorW.PrintWords
set_option maxRecDepth 100000
set_option linter.unusedVariables false
set_option linter.unusedSimpArgs false
theorem u8_info : ∃ i, Tryd.prog.info? 5 = some i ∧ i.size = 1 := ⟨_, rfl, rfl⟩
theorem C_to {W : World} {A : Option Addr} {n : Nat} {xs : List Int} (h : ReadsInt W .u8 A n xs) : (Kd.int .u8).C W A n xs := Kd.C_of_reads (enc := Value.int .u8) (d := (0 : Int)) (h1 := fun _ => rfl) h
theorem C_from {W : World} {A : Option Addr} {n : Nat} {xs : List Int} (h : (Kd.int .u8).C W A n xs) : ReadsInt W .u8 A n xs := Kd.reads_of_C (enc := Value.int .u8) (d := (0 : Int)) (h1 := fun _ => rfl) h
/-- s[:a] -/
theorem take_C {l p q : List Int} (hl : l = p ++ q) {n c m : Nat} (hn : l.length = n) (hm : p.length = m) {a : Int} (ha : a = (m : Int)) (hc : n ≤ c) (A : Option Addr) :
    (∀ W : World, (Instr.slice 35 (.slice A n c) none (some (.int .i64 a)) none).run Tryd.prog W = .ok (.slice A m c) W) ∧ (∀ W : World, (Kd.int .u8).C W A n l → (Kd.int .u8).C W A m p) := by
  obtain ⟨i, hi, hs⟩ := u8_info
  subst hn hm ha hl
  obtain ⟨h1, h2, h3⟩ := print_take_int (P := Tryd.prog) (k := .u8) 35 5 Tryd.underlying35 hi hs A c (p ++ q) (p.length : Int) (by omega) (by rw [List.length_append]; omega) hc
  rw [Int.toNat_natCast, List.take_left] at h1 h2
  exact ⟨h1, fun W h => C_to (h2 W (C_from h))⟩
/-- s[a:] -/
theorem drop_C {l p q : List Int} (hl : l = p ++ q) {n c m r k : Nat} (hn : l.length = n) (hm : p.length = m) (hr : q.length = r) (hk : c - m = k) {a : Int} (ha : a = (m : Int)) (hc : n ≤ c) (A : Option Addr) :
    ∃ A', (∀ W : World, (Instr.slice 35 (.slice A n c) (some (.int .i64 a)) none none).run Tryd.prog W = .ok (.slice A' r k) W) ∧ (∀ W : World, (Kd.int .u8).C W A n l → (Kd.int .u8).C W A' r q) ∧ r ≤ k := by
  obtain ⟨i, hi, hs⟩ := u8_info
  subst hn hm ha hl hr hk
  obtain ⟨A', h1, h2, h3⟩ := print_cut_int (P := Tryd.prog) (k := .u8) 35 5 Tryd.underlying35 hi hs A c (p ++ q) (p.length : Int) (by omega) (by rw [List.length_append]; omega) hc
  rw [Int.toNat_natCast, List.drop_left] at h1 h2 h3
  exact ⟨A', h1, fun W h => C_to (h2 W (C_from h)), h3⟩
/-- s[a:b] -/
theorem mid_C {l p q r : List Int} (hl : l = p ++ q ++ r) {n c m1 m2 k : Nat} (hn : l.length = n) (hm : p.length = m1) (hq : q.length = m2) (hk : c - m1 = k) {a b : Int} (ha : a = (m1 : Int)) (hb : b = (m1 : Int) + (m2 : Int)) (hc : n ≤ c) (A : Option Addr) :
    ∃ A', (∀ W : World, (Instr.slice 35 (.slice A n c) (some (.int .i64 a)) (some (.int .i64 b)) none).run Tryd.prog W = .ok (.slice A' m2 k) W) ∧ (∀ W : World, (Kd.int .u8).C W A n l → (Kd.int .u8).C W A' m2 q) ∧ m2 ≤ k := by
  obtain ⟨i, hi, hs⟩ := u8_info
  subst hn hm hq hk ha hb hl
  obtain ⟨A', h1, h2, h3⟩ := print_mid_int (P := Tryd.prog) (k := .u8) 35 5 Tryd.underlying35 hi hs A c (p ++ q ++ r) (p.length : Int) ((p.length : Int) + (q.length : Int)) (by omega) (by omega) (by rw [List.length_append, List.length_append]; omega) hc
  have e : ((p ++ q ++ r).take ((p.length : Int) + (q.length : Int)).toNat).drop ((p.length : Int)).toNat = q := by
    rw [show ((p.length : Int) + (q.length : Int)).toNat = (p ++ q).length from by rw [List.length_append]; omega, List.take_left, Int.toNat_natCast, List.drop_left]
  rw [e, Int.toNat_natCast] at h1 h3
  rw [e] at h2
  exact ⟨A', h1, fun W h => C_to (h2 W (C_from h)), h3⟩
end Go.Proofs.YtdobblddnfalcaaDoor.cuts
