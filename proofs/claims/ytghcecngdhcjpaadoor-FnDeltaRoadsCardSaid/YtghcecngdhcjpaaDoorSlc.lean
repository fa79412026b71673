/- A slice that lies in the middle of a block: what it reads, that it may be written, and what an append makes of it. General: no function of the program. -/
import Derived.Test.YtghcecngdhcjpaaDoorOff
import Derived.ArgAppend
import Derived.Maps.AppendAt
import Derived.Deep.MidRow
namespace Go.Proofs.YtghcecngdhcjpaaDoor.off
open Go.RowKit Go.Proofs.YtghcecngdhcjpaaDoorW.PrintWords
set_option linter.unusedVariables false
set_option linter.unusedSimpArgs false
/-- A slice of cells xs in the middle of a block, with room up to c. -/
structure Mid (w : World) (b off n c : Nat) (xs : List Value) : Prop where
  len : xs.length = n
  room : n ≤ c
  max : c ≤ maxLen
  rng : w.rangeAt b off xs
  th : w.there b off c
  blk : b < w.heap.size
  one : ∀ u ∈ xs, u.oneCell' = true
/-- Nothing, or a slice in the middle of a block. -/
def Slc (w : World) (v : Value) (xs : List Value) : Prop :=
  (v = .slice none 0 0 ∧ xs = []) ∨ ∃ b off n c, v = .slice (some ⟨b, off, none⟩) n c ∧ Mid w b off n c xs
theorem Mid.keep {w w' : World} {b off n c : Nat} {xs : List Value} (h : Mid w b off n c xs) (hs : w.heap.size ≤ w'.heap.size) (hb : w'.heap[b]? = w.heap[b]?) : Mid w' b off n c xs :=
  ⟨h.len, h.room, h.max, fun j v hv => (World.cell?_of_block (w := w) hb).trans (h.rng j v hv), fun j hj => ⟨by rw [World.cell?_of_block (w := w) hb]; exact (h.th j hj).1, by
    have := (h.th j hj).2
    simp only [World.frozen?, hb] at this ⊢
    exact this⟩, Nat.lt_of_lt_of_le h.blk hs, h.one⟩
theorem Slc.keep {w w' : World} {v : Value} {xs : List Value} (h : Slc w v xs) (hs : w.heap.size ≤ w'.heap.size) (hb : ∀ k, v.ownBlock = some k → w'.heap[k]? = w.heap[k]?) : Slc w' v xs := by
  rcases h with h | ⟨b, off, n, c, rfl, hm⟩
  · exact .inl h
  · exact .inr ⟨b, off, n, c, rfl, hm.keep hs (hb b rfl)⟩
theorem Slc.off {S : Nat → Prop} {w w' : World} {v : Value} {xs : List Value} (h : Slc w v xs) (ho : Off S w w') (hS : ∀ k, v.ownBlock = some k → ¬ S k) : Slc w' v xs := by
  rcases h with h | ⟨b, off, n, c, rfl, hm⟩
  · exact .inl h
  · exact .inr ⟨b, off, n, c, rfl, hm.keep ho.size (ho.block b hm.blk (hS b rfl))⟩
theorem Slc.blk {w : World} {v : Value} {xs : List Value} (h : Slc w v xs) : ∀ k, v.ownBlock = some k → k < w.heap.size := by
  rcases h with ⟨rfl, _⟩ | ⟨b, off, n, c, rfl, hm⟩
  · intro k hk
    cases hk
  · intro k hk
    cases hk
    exact hm.blk
theorem Slc.of_own {w : World} {base e n : Nat} {v : Value} {xs : List Value} (h : w.ownsRow base e 1 v n xs) (h1 : ∀ u ∈ xs, u.oneCell' = true) : Slc w v xs := by
  obtain ⟨hl, h⟩ := h
  rcases h with ⟨rfl, hn⟩ | ⟨g, cap, cur, rfl, hb, hg, hnc, hcm, hcs, htk⟩
  · refine .inl ⟨rfl, ?_⟩
    first
      | exact List.eq_nil_of_length_eq_zero (by omega)
      | (subst hn; exact List.eq_nil_of_length_eq_zero (by omega))
  · refine .inr ⟨g, 0, n, cap, rfl, ⟨by omega, hnc, hcm, fun j u hj => ?_, fun j hj => ⟨?_, blk_frozen hg _⟩, blk_lt hg, h1⟩⟩
    · rw [blk_cell hg, Nat.zero_add, ← Array.getElem?_toList]
      rw [← htk] at hj
      rw [List.getElem?_take] at hj
      split at hj
      · exact hj
      · cases hj
    · rw [blk_cell hg, Nat.zero_add, Array.getElem?_eq_getElem (by omega)]
      rfl
/-- What an append reads: m cells. -/
structure Src (w : World) (A : Option Addr) (m : Nat) (news : List Value) : Prop where
  len : news.length = m
  rd : ∀ j u, news[j]? = some u → ∃ ad, A = some ad ∧ w.cell? (ad.add j) = some u
  one : ∀ u ∈ news, u.oneCell' = true
theorem Mid.src {w : World} {b off n c : Nat} {xs : List Value} (h : Mid w b off n c xs) : Src w (some ⟨b, off, none⟩) n xs :=
  ⟨h.len, fun j u hj => ⟨_, rfl, by rw [Addr.add_mid]; exact h.rng j u hj⟩, h.one⟩
theorem Src.keep {w w' : World} {A : Option Addr} {m : Nat} {news : List Value} (h : Src w A m news) (hb : ∀ ad, A = some ad → w'.heap[ad.block]? = w.heap[ad.block]?) : Src w' A m news :=
  ⟨h.len, fun j u hj => by
    obtain ⟨ad, h1, h2⟩ := h.rd j u hj
    refine ⟨ad, h1, ?_⟩
    have hbk : (ad.add j).block = ad.block := by unfold Addr.add; split <;> rfl
    rw [← h2]
    unfold World.cell?
    rw [hbk, hb ad h1], h.one⟩
theorem Off.cells {S : Nat → Prop} {w : World} {b : Nat} (hS : S b) : ∀ (vs : List Value) (o : Nat) {w1 : World}, Off S w w1 → Off S w (w1.setCells b o vs)
  | [], _, _, h => h
  | v :: r, o, _, h => by
    rw [World.setCells]
    exact Off.cells hS r (o + 1) (h.cell hS o v)
theorem room_step {w : World} {b off n c : Nat} {xs : List Value} (h : Mid w b off n c xs) (news : List Value) (hr : n + news.length ≤ c) (h1 : ∀ u ∈ news, u.oneCell' = true) :
    Mid (w.setCells b (off + n) news) b off (n + news.length) c (xs ++ news) ∧ Off (fun k => k = b) w (w.setCells b (off + n) news) := by
  have hth : w.there b (off + n) news.length := fun j hj => by
    have := h.th (n + j) (by omega)
    rwa [← Nat.add_assoc] at this
  have hsz : ∀ (vs : List Value) (o : Nat) (W : World), (W.setCells b o vs).heap.size = W.heap.size := by
    intro vs
    induction vs with
    | nil => intro o W; rfl
    | cons v r ih => intro o W; rw [World.setCells, ih]; simp
  refine ⟨⟨by rw [List.length_append, h.len], hr, h.max, fun j u hj => ?_, World.there_setCells h.th _ _ _, by rw [hsz]; exact h.blk, fun u hu => (List.mem_append.1 hu).elim (h.one u) (h1 u)⟩, ?_⟩
  · by_cases hlt : j < n
    · rw [List.getElem?_append_left (by rw [h.len]; exact hlt)] at hj
      exact World.rangeAt_setCells_apart h.rng b (off + n) news (.inr (.inl (by rw [h.len]; exact Nat.le_refl _))) j u hj
    · rw [List.getElem?_append_right (by rw [h.len]; omega), h.len] at hj
      have := World.rangeAt_setCells_same w b (off + n) news hth (j - n) u hj
      rwa [show off + n + (j - n) = off + j by omega] at this
  · exact Off.cells (S := fun k => k = b) rfl news (off + n) (Off.refl _ _)
theorem Slc.append {P : Program} {w : World} {v : Value} {xs news : List Value} {A : Option Addr} {m c : Nat} (t ty e : TypeId) (i : TypeInfo) (z : Value) (ht : P.underlying t = some (.slice e)) (hi : P.info? e = some i) (hz : i.zero = some z) (hs1 : i.size = 1) (hby : i.bytes = 1) (hzs : z.cells.size = 1)
    (h : Slc w v xs) (hsrc : Src w A m news) (hmax : xs.length + m ≤ 140737488355328) :
    ∃ v' w', (Builtin.append_ #[t, t] ty #[v, .slice A m c]).run P w = .ok v' w' ∧ Slc w' v' (xs ++ news) ∧ Off (fun k => v.ownBlock = some k) w w' ∧ (v'.ownBlock = v.ownBlock ∨ ∃ b, v'.ownBlock = some b ∧ w.heap.size ≤ b) := by
  have hml : maxLen = 9223372036854775807 := rfl
  by_cases h0 : m = 0
  · subst h0
    obtain rfl : news = [] := List.eq_nil_of_length_eq_zero hsrc.len
    refine ⟨v, w, ?_, by rw [List.append_nil]; exact h, Off.refl _ _, .inl rfl⟩
    rcases h with ⟨rfl, _⟩ | ⟨b, off, n, c', rfl, hm⟩
    · cases A <;> simp [Builtin.append_, run_underlying ht, sizeOf, typeInfo, hi, Builtin.lenOf, Builtin.firstCells, loadCells, loadCellsFrom]
    · have := hm.room
      cases A <;> simp [Builtin.append_, run_underlying ht, sizeOf, typeInfo, hi, Builtin.lenOf, Builtin.firstCells, loadCells, loadCellsFrom, storeCells, this]
  · obtain ⟨u0, hu0⟩ : ∃ u, news[0]? = some u := ⟨_, List.getElem?_eq_getElem (by rw [hsrc.len]; omega)⟩
    obtain ⟨ad, rfl, _⟩ := hsrc.rd 0 u0 hu0
    have hnews : ∀ j u, news[j]? = some u → w.cell? (ad.add j) = some u := fun j u hj => by
      obtain ⟨ad', e, h⟩ := hsrc.rd j u hj
      cases e
      exact h
    rcases h with ⟨rfl, rfl⟩ | ⟨b, off, n, c', rfl, hm⟩
    · have hown : w.ownsRow 0 e 1 (.slice none 0 0) 0 [] := ⟨rfl, .inl ⟨rfl, rfl⟩⟩
      obtain ⟨v', w', hrun, ho, hg, _, hb⟩ := run_append_own_at (P := P) w 0 t ty e i z 1 1 ht hi hz hs1 hby hzs (by decide) (.slice none 0 0) 0 [] hown ad m c news (by rw [hsrc.len, Nat.mul_one]) hnews hsrc.one (by simp at hmax; omega) (by simp at hmax; omega) (Nat.zero_le _)
      refine ⟨v', w', hrun, Slc.of_own ho (by simpa using hsrc.one), Off.of_grown hg (fun k hk => hk), ?_⟩
      rcases hb with hb | hb
      · exact .inl hb
      · exact .inr ⟨_, hb, Nat.le_refl _⟩
    · have hl := hm.len
      by_cases hr : n + m ≤ c'
      · have hrun := run_append_room_cells (P := P) w t ty e i ht hi b off n c' ad m c news (by rw [hsrc.len, hs1, Nat.mul_one]) hnews hsrc.one hr (fun j hj => by
          have := hm.th (n + j) (by have := hsrc.len; omega)
          rw [hs1, Nat.mul_one, Nat.add_assoc]
          exact this.1) (fun j hj => by
          have := hm.th (n + j) (by have := hsrc.len; omega)
          rw [hs1, Nat.mul_one, Nat.add_assoc]
          exact this.2)
        rw [hs1, Nat.mul_one] at hrun
        obtain ⟨h1, h2⟩ := room_step hm news (by rw [hsrc.len]; exact hr) hsrc.one
        rw [hsrc.len] at h1
        exact ⟨_, _, hrun, .inr ⟨b, off, n + m, c', rfl, h1⟩, h2.mono (fun k hk => by rw [hk]; rfl), .inl rfl⟩
      · obtain ⟨v', w', hrun, ho, hg⟩ := run_append_arg_grows (P := P) w t ty e i z 1 1 ht hi hz hs1 hby hzs (by decide) ⟨b, off, none⟩ n c' xs (by rw [hl, Nat.mul_one]) (fun j u hj => by rw [Addr.add_mid]; exact hm.rng j u hj) ad m c news (by rw [hsrc.len, Nat.mul_one]) hnews (by omega) (by omega) (by omega)
        refine ⟨v', w', hrun, Slc.of_own ho (fun u hu => (List.mem_append.1 hu).elim (hm.one u) (hsrc.one u)), Off.of_grown hg (fun k hk => by cases hk), ?_⟩
        obtain ⟨_, ho2⟩ := ho
        rcases ho2 with ⟨rfl, hn⟩ | ⟨g, cap, cur, rfl, hb, _⟩
        · exact absurd hn (by omega)
        · exact .inr ⟨g, rfl, hb⟩
theorem Mid.drop {w : World} {b off n c : Nat} {xs : List Value} (h : Mid w b off n c xs) (k : Nat) (hk : k ≤ n) : Mid w b (off + k) (n - k) (c - k) (xs.drop k) :=
  ⟨by rw [List.length_drop, h.len], by have := h.room; omega, by have := h.max; omega, (fun j u hj => by
    rw [List.getElem?_drop] at hj
    have := h.rng (k + j) u hj
    rwa [← Nat.add_assoc] at this), (fun j hj => by
    have := h.th (k + j) (by omega)
    rwa [← Nat.add_assoc] at this), h.blk, fun u hu => h.one u (List.mem_of_mem_drop hu)⟩
theorem Mid.take {w : World} {b off n c : Nat} {xs : List Value} (h : Mid w b off n c xs) (k : Nat) (hk : k ≤ n) : Mid w b off k c (xs.take k) :=
  ⟨by rw [List.length_take, h.len]; omega, by have := h.room; omega, h.max, (fun j u hj => by
    rw [List.getElem?_take] at hj
    split at hj
    · exact h.rng j u hj
    · cases hj), h.th, h.blk, fun u hu => h.one u (List.mem_of_mem_take hu)⟩
/-- An append whose run is known. -/
theorem wpList_append_run {P : Program} {w : World} {ops : Array Oper} {rest : List Oper} {o : Oper} {a : Act} {Q : Exit → Act → World → Prop} (hg : o.guard = none) (s x : Operand) (t : TypeId)
    (ho : o.op = .call { callee := .builtin .append, args := #[s, x], argTypes := #[t, t] }) (v u : Value) (hs : a.eval s = v) (hx : a.eval x = u) {v' : Value} {w' : World}
    (hrun : (Builtin.append_ #[t, t] o.type #[v, u]).run P w = .ok v' w') (h : wpList P ops Q rest (a.put o.dst v') w') : wpList P ops Q (o :: rest) a w := by
  refine wpList_plain hg fun K hK => ?_
  unfold Oper.wp
  simp [execOp, ho, resolve, invoke, builtin, hs, hx, hrun, Result.andThen]
  exact hK _ _ h
end Go.Proofs.YtghcecngdhcjpaaDoor.off
