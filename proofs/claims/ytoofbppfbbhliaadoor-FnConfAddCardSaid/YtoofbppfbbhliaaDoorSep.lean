/- Kinds that keep apart: a slice no two elements of which lead to one block (sl), a pair whose halves lead to different blocks (two); the pointer kind under them; the element of a row of pointers, lent. -/
import Derived.Test.YtoofbppfbbhliaaDoorPtr
import Derived.Test.YtoofbppfbbhliaaDoorWApart
namespace Go.Proofs.YtoofbppfbbhliaaDoor.ptr
open Go.RowKit Go.Proofs.YtoofbppfbbhliaaDoorW.PrintWords
set_option linter.unusedVariables false
/-- A slice whose elements lead to blocks of their own. -/
def sl {α : Type} (e : Nat) (d : Kd α) : Kd (List α) where
  sz := 1
  E := e :: d.E
  K := fun w xs cs => ∃ A c, cs = [.slice A xs.length c] ∧ xs.length ≤ c ∧ d.C w A xs.length xs
  M := fun w base ok xs cs => ∃ v, cs = [v] ∧ Kd.S d e w base ok v xs
  K_len := by
    rintro w x cs ⟨A, c, rfl, _⟩
    rfl
  K_one := by
    rintro w x cs ⟨A, c, rfl, _⟩ u hu
    rw [List.mem_singleton.1 hu]
    rfl
  K_below := by
    rintro w w1 x cs hb ⟨A, c, rfl, hl, hr⟩
    exact ⟨A, c, rfl, hl, Kd.C_below hr hb⟩
  K_of_M := by
    rintro w base ok x cs ⟨v, rfl, h⟩
    obtain ⟨A, c, rfl, hl, hr⟩ := Kd.S_reads h
    exact ⟨A, c, rfl, hl, hr⟩
  M_mono := by
    rintro w base ok ok' x cs hok ⟨v, rfl, h⟩
    exact ⟨v, rfl, Kd.S_mono h hok⟩
  M_bound := by
    rintro w base ok x cs ⟨v, rfl, h⟩
    exact ⟨v, rfl, Kd.S_bound h⟩
  M_move := by
    rintro w w1 base ok x cs hm ⟨v, rfl, h⟩
    exact ⟨v, rfl, Kd.S_move h hm⟩
  M_lower := by
    rintro w base base' ok x cs hb ⟨v, rfl, h⟩
    exact ⟨v, rfl, Kd.S_lower h hb⟩
/-- Two things that lead to different blocks. -/
def two {α β : Type} (a : Kd α) (b : Kd β) : Kd (α × β) where
  sz := a.sz + b.sz
  E := a.E ++ b.E
  K := (Kd.pair a b).K
  M := fun w base ok x cs => ∃ (c0 c1 : List Value) (p : Nat → Prop), cs = c0 ++ c1 ∧ a.M w base (fun k => ok k ∧ p k) x.1 c0 ∧ b.M w base (fun k => ok k ∧ ¬ p k) x.2 c1
  K_len := (Kd.pair a b).K_len
  K_one := (Kd.pair a b).K_one
  K_below := (Kd.pair a b).K_below
  K_of_M := by
    rintro w base ok x cs ⟨c0, c1, p, rfl, h0, h1⟩
    exact ⟨c0, c1, rfl, a.K_of_M h0, b.K_of_M h1⟩
  M_mono := by
    rintro w base ok ok' x cs hok ⟨c0, c1, p, rfl, h0, h1⟩
    exact ⟨c0, c1, p, rfl, a.M_mono (fun k hk => ⟨hok k hk.1, hk.2⟩) h0, b.M_mono (fun k hk => ⟨hok k hk.1, hk.2⟩) h1⟩
  M_bound := by
    rintro w base ok x cs ⟨c0, c1, p, rfl, h0, h1⟩
    refine ⟨c0, c1, p, rfl, a.M_mono ?_ (a.M_bound h0), b.M_mono ?_ (b.M_bound h1)⟩
    · rintro k ⟨h2, h3, h4, q, hq, hc⟩
      exact ⟨⟨h2.1, h3, h4, q, List.mem_append_left _ hq, hc⟩, h2.2⟩
    · rintro k ⟨h2, h3, h4, q, hq, hc⟩
      exact ⟨⟨h2.1, h3, h4, q, List.mem_append_right _ hq, hc⟩, h2.2⟩
  M_move := by
    rintro w w1 base ok x cs hm ⟨c0, c1, p, rfl, h0, h1⟩
    exact ⟨c0, c1, p, rfl, a.M_move (fun k hk => hm k hk.1) h0, b.M_move (fun k hk => hm k hk.1) h1⟩
  M_lower := by
    rintro w base base' ok x cs hb ⟨c0, c1, p, rfl, h0, h1⟩
    exact ⟨c0, c1, p, rfl, a.M_lower hb h0, b.M_lower hb h1⟩
/-- The element of a row of pointers, lent: the pointer, its block, what the block's cells are; the row without it. -/
theorem lend_ptr {α : Type} {t e : Nat} {d : Kd α} {w : World} {base : Nat} {ok : Nat → Prop} {v : Value} {xs : List α} (h : Kd.S (ptr t d) e w base ok v xs) (j : Nat) (hj : j < xs.length) :
    ∃ gr cap g arr oki, v = .slice (some ⟨gr, 0, none⟩) xs.length cap ∧ xs.length ≤ cap ∧ w.cell? ⟨gr, j, none⟩ = some (.pointer (some ⟨g, 0, none⟩)) ∧ base ≤ g ∧ w.heap[g]? = some (.cells arr t (0, 0)) ∧ oki g ∧ (∀ k, oki k → ok k ∧ k ≠ gr) ∧ d.M w base (fun k => oki k ∧ k ≠ g) xs[j] arr.toList ∧
      Kd.H (ptr t d) e w base ok v xs (j : Int) oki [.pointer (some ⟨g, 0, none⟩)] := by
  obtain ⟨gr, cap, rfl, _⟩ := Kd.S_form h (by omega)
  obtain ⟨_, hcap, _⟩ := Kd.S_reads' h
  obtain ⟨oki, c, _, hM, hc, ho, hH⟩ := Kd.S_lend h xs[j] (j : Int) (by omega) (by omega)
  rw [Int.toNat_natCast, List.getD_eq_getElem?_getD, List.getElem?_eq_getElem hj] at hM
  obtain ⟨g, arr, rfl, hg, hb, hw, hMd⟩ := hM
  refine ⟨gr, cap, g, arr, oki, rfl, hcap, ?_, hb, hw, hg, ho, hMd, hH⟩
  have := hc 0 _ rfl
  rw [Int.toNat_natCast] at this
  rwa [show j * (ptr t d).sz + 0 = j from by show j * 1 + 0 = j; omega] at this
/-- Put back, written anew. -/
theorem back_ptr {α : Type} {t e : Nat} {d : Kd α} {w : World} {base : Nat} {ok oki okp : Nat → Prop} {v : Value} {xs : List α} {j g : Nat} {arr : Array Value} {x' : α} (h : Kd.H (ptr t d) e w base ok v xs (j : Int) oki [.pointer (some ⟨g, 0, none⟩)])
    (hg : oki g) (hb : base ≤ g) (hw : w.heap[g]? = some (.cells arr t (0, 0))) (hM : d.M w base (fun k => oki k ∧ k ≠ g) x' arr.toList) : Kd.S (ptr t d) e w base ok v (xs.set j x') := by
  have := Kd.H_back h (x' := x') (okp := oki) ⟨g, arr, rfl, hg, hb, hw, hM⟩ (fun _ hk => hk)
  rwa [Int.toNat_natCast] at this
end Go.Proofs.YtoofbppfbbhliaaDoor.ptr
