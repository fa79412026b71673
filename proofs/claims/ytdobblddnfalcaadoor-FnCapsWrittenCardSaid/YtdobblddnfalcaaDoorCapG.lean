/- Capabilities: spec.CapsText; strings.Join of one's own texts; impl.CapsText. -/
import Derived.Test.YtdobblddnfalcaaDoorCapF
import Derived.Test.YtdobblddnfalcaaDoorShelf
namespace Go.Proofs.YtdobblddnfalcaaDoor.cap
open Go.RowKit Go.Proofs.YtdobblddnfalcaaDoorW.PrintWords Go.Proofs.YtdobblddnfalcaaDoorW.PrintLast Go.Proofs.YtdobblddnfalcaaDoorW.PrintMore Go.Proofs.YtdobblddnfalcaaDoor.off Go.Proofs.YtdobblddnfalcaaDoor.mapq Go.Proofs.YtdobblddnfalcaaDoor.PFnCapsWritten
set_option linter.unusedVariables false
set_option linter.unusedSimpArgs false
set_option maxHeartbeats 2000000
set_option maxRecDepth 100000
theorem tail_len (B : Nat) : ∀ (l : List ByteArray), (∀ s ∈ l, s.size ≤ B) → (Lib.joinTail [32] (l.map (·.data.toList))).length ≤ l.length * (B + 1)
  | [], _ => by simp [Lib.joinTail]
  | s :: r, h => by
    have h1 := tail_len B r (fun x hx => h x (List.mem_cons_of_mem _ hx))
    have h2 : s.data.toList.length ≤ B := h s List.mem_cons_self
    unfold Lib.joinTail at h1 ⊢
    rw [List.map_cons, List.map_cons, List.flatten_cons, List.length_append, List.length_cons, Nat.succ_mul, List.length_append]
    simp only [List.length_singleton]
    omega
theorem join_len (B : Nat) (l : List ByteArray) (h : ∀ s ∈ l, s.size ≤ B) : (Lib.join (l.map (·.data.toList)) [32]).length ≤ l.length * (B + 1) := by
  cases l with
  | nil => simp [Lib.join_nil]
  | cons s r =>
    have h1 := tail_len B r (fun x hx => h x (List.mem_cons_of_mem _ hx))
    have h2 : s.data.toList.length ≤ B := h s List.mem_cons_self
    rw [List.map_cons, Lib.join_cons, List.length_append, List.length_cons, Nat.succ_mul]
    omega
theorem join_any (L : List ByteArray) (hB : ∀ s ∈ L, s.size ≤ 3000) (hL : L.length ≤ 1000000) (W : World) (A : Option Addr) (c : Nat) (h : Slc W (.slice A L.length c) (strs L)) :
    Calls Tryd.prog 32 #[.slice A L.length c, .string ⟨#[32]⟩] W fun e w' => e = .returned (.string (joinB L)) ∧ Below W.heap.size W w' := by
  cases L with
  | nil =>
    refine (Tryd.strings_Join_none A c ⟨#[32]⟩ W).mono ?_
    rintro e w' ⟨rfl, rfl⟩
    exact ⟨rfl, Below.refl _ _⟩
  | cons s r =>
    rcases h with ⟨h, _⟩ | ⟨b, off, n, c', h, hm⟩
    · injection h with h1 h2 h3
      cases h2
    · injection h with h1 h2 h3
      subst h1 h2 h3
      have hj := join_len 3000 (s :: r) hB
      refine (Tryd.strings_Join b off c (s :: r) ⟨#[32]⟩ W (fun j x hx => ?_) hm.blk (by omega) hm.room (Nat.le_trans hj (by omega))).mono ?_
      · have hlt := (List.getElem?_eq_some_iff.1 hx).1
        have := strs_get (s :: r) j hlt
        rw [List.getElem?_eq_getElem hlt] at hx
        injection hx with hx
        rw [hx] at this
        exact hm.rng j _ this
      · rintro e w' ⟨rfl, hb⟩
        exact ⟨rfl, hb⟩
theorem addC_any (w : World) (gt : Nat) (t s : ByteArray) (hT : w.heap[gt]? = some (.cells #[.string t] 9 (0, 0))) (ht : t.size ≤ 1000000000) (hs : s.size ≤ 1000000000) :
    Calls Tryd.prog 18 #[.string s, .pointer (some ⟨gt, 0, none⟩)] w fun e w' => e = .returned (.tuple #[]) ∧ w'.heap[gt]? = some (.cells #[.string (addT t s)] 9 (0, 0)) ∧ Off (In [gt]) w w' := by
  have HT := Aside0.mk hT
  have q0 := (blk_cell hT 0).trans (show _ = some (Value.string t) from rfl)
  have f0 := blk_frozen hT 0
  have s1 : (t.size : Int) ≤ 1000000000 := by omega
  have s2 : (s.size : Int) ≤ 1000000000 := by omega
  clear hT
  by_cases h0 : t.size = 0
  · have e0 : t = ⟨#[]⟩ := by
      apply ByteArray.ext
      exact Array.eq_empty_of_size_eq_zero h0
    have HA := Aside0.mk (show addT t s = ⟨#[]⟩ ++ s by
      unfold addT
      rw [if_pos h0]
      apply ba_ext
      rw [data_append]; rfl)
    subst e0
    go_enter Tryd.func18, Tryd.ntmps18
    go_wp2_with fail
    refine bodyPost_end (results_none rfl _ _ _) rfl ?_
    exact ⟨rfl, by rw [HA.out]; exact blk_put HT.out 0 _ rfl, (Off.refl _ _).cell (by simp [In]) 0 _⟩
  · obtain ⟨e0, e1, _⟩ := not_empty h0
    have e2 : (t.toList != []) = true := by rw [bne, e1]; rfl
    have HA := Aside0.mk (show addT t s = (t ++ (⟨#[32]⟩ : ByteArray)) ++ s by
      unfold addT
      rw [if_neg h0])
    go_enter Tryd.func18, Tryd.ntmps18
    go_wp2_with fail
    refine bodyPost_end (results_none rfl _ _ _) rfl ?_
    exact ⟨rfl, by rw [HA.out]; exact blk_put (blk_put HT.out 0 _ rfl) 0 _ rfl, ((Off.refl _ _).cell (by simp [In]) 0 _).cell (by simp [In]) 0 _⟩
end Go.Proofs.YtdobblddnfalcaaDoor.cap
