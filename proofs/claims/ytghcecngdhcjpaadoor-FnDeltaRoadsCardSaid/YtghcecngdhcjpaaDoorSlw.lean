/- A slice of one-cell elements of any number of bytes: what an append makes of it. General: no function of the program. -/
import Derived.Test.YtghcecngdhcjpaaDoorSlc
namespace Go.Proofs.YtghcecngdhcjpaaDoor.off
open Go.RowKit Go.Proofs.YtghcecngdhcjpaaDoorW.PrintWords
set_option linter.unusedVariables false
set_option linter.unusedSimpArgs false
theorem Slc.appendW {P : Program} {w : World} {v : Value} {xs news : List Value} {A : Option Addr} {m c : Nat} (t ty e : TypeId) (i : TypeInfo) (z : Value) (by_ : Nat) (ht : P.underlying t = some (.slice e)) (hi : P.info? e = some i) (hz : i.zero = some z) (hs1 : i.size = 1) (hby : i.bytes = by_) (hzs : z.cells.size = 1)
    (h : Slc w v xs) (hsrc : Src w A m news) (hmax : (xs.length + m) * by_ ≤ 140737488355328) (hmax2 : xs.length + m ≤ 140737488355328) :
    ∃ v' w', (Builtin.append_ #[t, t] ty #[v, .slice A m c]).run P w = .ok v' w' ∧ Slc w' v' (xs ++ news) ∧ Off (fun k => v.ownBlock = some k) w w' ∧ (v'.ownBlock = v.ownBlock ∨ ∃ b, v'.ownBlock = some b ∧ w.heap.size ≤ b) := by
  have hml : maxLen = 9223372036854775807 := rfl
  by_cases h0 : m = 0
  · subst h0
    obtain rfl : news = [] := List.eq_nil_of_length_eq_zero hsrc.len
    refine ⟨v, w, ?_, by rw [List.append_nil]; exact h, Off.refl _ _, .inl rfl⟩
    rcases h with ⟨rfl, _⟩ | ⟨b, off, n, c', rfl, hm⟩
    · cases A <;> simp [Builtin.append_, run_underlying ht, sizeOf, typeInfo, hi, Builtin.lenOf, Builtin.firstCells, loadCells, loadCellsFrom]
    · have := hm.room
      cases A <;> simp [Builtin.append_, run_underlying ht, sizeOf, typeInfo, hi, Builtin.lenOf, Builtin.firstCells, loadCells, loadCellsFrom, storeCells, this]
  · obtain ⟨u0, hu0⟩ : ∃ u, news[0]? = some u := ⟨_, List.getElem?_eq_getElem (by rw [hsrc.len]; omega)⟩
    obtain ⟨ad, rfl, _⟩ := hsrc.rd 0 u0 hu0
    have hnews : ∀ j u, news[j]? = some u → w.cell? (ad.add j) = some u := fun j u hj => by
      obtain ⟨ad', e, h⟩ := hsrc.rd j u hj
      cases e
      exact h
    rcases h with ⟨rfl, rfl⟩ | ⟨b, off, n, c', rfl, hm⟩
    · have hown : w.ownsRow 0 e 1 (.slice none 0 0) 0 [] := ⟨rfl, .inl ⟨rfl, rfl⟩⟩
      have hmax' : (0 + m) * by_ ≤ 140737488355328 := by simpa using hmax
      obtain ⟨v', w', hrun, ho, hg, _, hb⟩ := run_append_own_at (P := P) w 0 t ty e i z 1 by_ ht hi hz hs1 hby hzs (by decide) (.slice none 0 0) 0 [] hown ad m c news (by rw [hsrc.len, Nat.mul_one]) hnews hsrc.one (by simp at hmax2; omega) hmax' (Nat.zero_le _)
      refine ⟨v', w', hrun, Slc.of_own ho (by simpa using hsrc.one), Off.of_grown hg (fun k hk => hk), ?_⟩
      rcases hb with hb | hb
      · exact .inl hb
      · exact .inr ⟨_, hb, Nat.le_refl _⟩
    · have hl := hm.len
      by_cases hr : n + m ≤ c'
      · have hrun := run_append_room_cells (P := P) w t ty e i ht hi b off n c' ad m c news (by rw [hsrc.len, hs1, Nat.mul_one]) hnews hsrc.one hr (fun j hj => by
          have := hm.th (n + j) (by have := hsrc.len; omega)
          rw [hs1, Nat.mul_one, Nat.add_assoc]
          exact this.1) (fun j hj => by
          have := hm.th (n + j) (by have := hsrc.len; omega)
          rw [hs1, Nat.mul_one, Nat.add_assoc]
          exact this.2)
        rw [hs1, Nat.mul_one] at hrun
        obtain ⟨h1, h2⟩ := room_step hm news (by rw [hsrc.len]; exact hr) hsrc.one
        rw [hsrc.len] at h1
        exact ⟨_, _, hrun, .inr ⟨b, off, n + m, c', rfl, h1⟩, h2.mono (fun k hk => by rw [hk]; rfl), .inl rfl⟩
      · obtain ⟨v', w', hrun, ho, hg⟩ := run_append_arg_grows (P := P) w t ty e i z 1 by_ ht hi hz hs1 hby hzs (by decide) ⟨b, off, none⟩ n c' xs (by rw [hl, Nat.mul_one]) (fun j u hj => by rw [Addr.add_mid]; exact hm.rng j u hj) ad m c news (by rw [hsrc.len, Nat.mul_one]) hnews (by omega) (by omega) (by rw [← hl]; exact hmax)
        refine ⟨v', w', hrun, Slc.of_own ho (fun u hu => (List.mem_append.1 hu).elim (hm.one u) (hsrc.one u)), Off.of_grown hg (fun k hk => by cases hk), ?_⟩
        obtain ⟨_, ho2⟩ := ho
        rcases ho2 with ⟨rfl, hn⟩ | ⟨g, cap, cur, rfl, hb, _⟩
        · exact absurd hn (by omega)
        · exact .inr ⟨g, rfl, hb⟩
theorem off_trans2 {S S' : Nat → Prop} {w w1 w2 : World} (h : Off S w w1) (h2 : Off S' w1 w2) (hs : ∀ k, k < w.heap.size → S' k → S k) : Off S w w2 :=
  ⟨h2.os.trans h.os, h2.tape.trans h.tape, h2.output.trans h.output, Nat.le_trans h.size h2.size, fun k hk n => (h2.block k (Nat.lt_of_lt_of_le hk h.size) (fun a => n (hs k hk a))).trans (h.block k hk n)⟩
theorem Slc_shape {w : World} {v : Value} {xs : List Value} (h : Slc w v xs) : ∃ A c, v = .slice A xs.length c ∧ xs.length ≤ c := by
  rcases h with ⟨rfl, rfl⟩ | ⟨b, off, n, c, rfl, hm⟩
  · exact ⟨none, 0, rfl, Nat.le_refl _⟩
  · exact ⟨_, c, by rw [hm.len], by rw [hm.len]; exact hm.room⟩
theorem slc_src {w : World} {A : Option Addr} {n c : Nat} {xs : List Value} (h : Slc w (.slice A n c) xs) : Src w A n xs := by
  rcases h with ⟨h, rfl⟩ | ⟨b, off, n', c', h, hm⟩
  · injection h with h1 h2 h3
    subst h1 h2
    exact ⟨rfl, (fun j u hj => by cases hj), (fun u hu => by cases hu)⟩
  · injection h with h1 h2 h3
    subst h1 h2
    exact hm.src
/-- One new cell, read. -/
theorem new_src (W : World) (u : Value) (t : TypeId) (h1 : u.oneCell' = true) : Src (W.alloc (.cells #[u] t (0, 0))) (some ⟨W.heap.size, 0, none⟩) 1 [u] :=
  ⟨rfl, (fun j x hj => by
    rcases j with _ | j
    · cases hj
      exact ⟨_, rfl, blk_cell (blk_new W _) 0⟩
    · cases hj), fun x hx => by
      rcases List.mem_singleton.1 hx with rfl
      exact h1⟩
/-- What a slice of cells reads at a place. -/
theorem Slc.at_ {w : World} {A : Option Addr} {n c : Nat} {xs : List Value} (h : Slc w (.slice A n c) xs) (j : Nat) (u : Value) (hj : xs[j]? = some u) : ∃ ad, A = some ad ∧ w.cell? (ad.add j) = some u := (slc_src h).rd j u hj
theorem str_one (l : List ByteArray) : ∀ v ∈ l.map Value.string, v.oneCell' = true := by
  intro v hv
  obtain ⟨b, _, rfl⟩ := List.mem_map.1 hv
  rfl
end Go.Proofs.YtghcecngdhcjpaaDoor.off
