/- Packet lines: spec.ReadLines. -/
import Derived.Test.YtmpinpndfllcdaaDoorPktI
namespace Go.Proofs.YtmpinpndfllcdaaDoor.pkt
open Go.RowKit Go.Proofs.YtmpinpndfllcdaaDoorW.PrintWords Go.Proofs.YtmpinpndfllcdaaDoorW.PrintLast Go.Proofs.YtmpinpndfllcdaaDoorW.PrintMore Go.Proofs.YtmpinpndfllcdaaDoor.PFnPktAny
set_option linter.unusedVariables false
set_option linter.unusedSimpArgs false
set_option maxHeartbeats 2000000
set_option maxRecDepth 100000
def numV : Num → Int × Int
  | .n x => (x, 0)
  | .open_ => (0, 2)
  | .refused => (0, 1)
theorem rd_nat (l : List Int) (j : Nat) (hj : j < l.length) : rd l (j : Int) = l[j] := by
  unfold rd
  rw [Int.toNat_natCast, List.getD_eq_getElem?_getD, List.getElem?_eq_getElem hj]; rfl
theorem shex_pos : ∀ (l : List Int) (n x : Int), 0 ≤ n → shex l n = .n x → 0 ≤ x
  | [], n, x, h, e => by cases e; exact h
  | c :: r, n, x, h, e => by
    rw [shex] at e
    split at e
    · exact shex_pos r _ x (by omega) e
    · split at e
      · exact shex_pos r _ x (by omega) e
      · split at e <;> cases e
def fu : Nat → Nat
  | 0 => 1
  | m + 1 => fu m + 1 + 1 + 1
theorem readHex_loop (bs : List Int) (hb : ∀ x ∈ bs, 0 ≤ x ∧ x < 256) (h4 : 4 ≤ bs.length) : ∀ (m j : Nat) (n : Int), j + m = 4 → 0 ≤ n → n + 1 ≤ 16 ^ j → spec_readHex4.l0 (fu m) bs n (j : Int) = some (numV (shex ((bs.drop j).take m) n)) := by
  intro m
  induction m with
  | zero =>
    intro j n hj hn hp
    show spec_readHex4.l0 (0 + 1) bs n (j : Int) = _
    rw [spec_readHex4.l0, if_neg (by omega), List.take_zero]
    rfl
  | succ m ih =>
    intro j n hj hn hp
    show spec_readHex4.l0 (fu m + 1 + 1 + 1) bs n (j : Int) = _
    obtain ⟨k, hk⟩ : ∃ k, fu m = k := ⟨_, rfl⟩
    rw [hk] at ih ⊢
    have hjl : j < bs.length := by omega
    have hc := hb _ (List.getElem_mem hjl)
    have hb16 := Int.le_trans hp (pw (show j < 4 by omega))
    rw [spec_readHex4.l0, if_pos (by omega), if_pos (by omega), if_pos (by omega), rd_nat bs j hjl]
    rw [show (bs.drop j).take (m + 1) = bs[j] :: (bs.drop (j + 1)).take m from by rw [List.drop_eq_getElem_cons hjl, List.take_succ_cons], shex]
    obtain ⟨c, hcc⟩ : ∃ c, bs[j] = c := ⟨_, rfl⟩
    rw [hcc] at hc ⊢
    have next : ∀ d : Int, 0 ≤ d → d ≤ 15 → spec_readHex4.l0 k bs (wrap64 (wrap64 (n * 16) + wrap64 d)) (wrap64 ((j : Int) + 1)) = some (numV (shex ((bs.drop (j + 1)).take m) (n * 16 + d))) := by
      intro d h0 h1
      rw [w64 (n := n * 16) (by omega) (by omega), w64 (n := d) (by omega) (by omega), w64 (n := n * 16 + d) (by omega) (by omega), w64 (n := (j : Int) + 1) (by omega) (by omega)]
      exact ih (j + 1) (n * 16 + d) (by omega) (by omega) (by rw [Int.pow_succ]; omega)
    by_cases h1 : 48 ≤ c ∧ c ≤ 57
    · rw [if_pos (by omega), if_pos h1, decide_eq_true h1.2, spec_readHex4.j1, if_pos rfl, spec_readHex4.j2, if_pos rfl]
      rw [show spec_nibble.f c = some (c - 48) from by unfold spec_nibble.f; rw [if_neg (by omega)]; congr 1; omega]
      exact next (c - 48) (by omega) (by omega)
    · rw [if_neg h1]
      have hj1 : ∀ b, spec_readHex4.j1 (k + 1 + 1) bs n c (j : Int) false = b → (if c ≥ 48 then spec_readHex4.j1 (k + 1 + 1) bs n c (j : Int) (decide (c ≤ 57)) else spec_readHex4.j1 (k + 1 + 1) bs n c (j : Int) false) = b := by
        intro b h
        split
        · rw [decide_eq_false (by omega)]; exact h
        · exact h
      apply hj1
      rw [spec_readHex4.j1, if_neg (by decide)]
      by_cases h2 : 97 ≤ c ∧ c ≤ 102
      · rw [if_pos (by omega), if_pos h2, decide_eq_true h2.2, spec_readHex4.j2, if_pos rfl]
        rw [show spec_nibble.f c = some (c - 87) from by unfold spec_nibble.f; rw [if_pos (by omega)]; congr 1; omega]
        exact next (c - 87) (by omega) (by omega)
      · rw [if_neg h2]
        have hj2 : ∀ b, spec_readHex4.j2 (k + 1) bs n c (j : Int) false = b → (if c ≥ 97 then spec_readHex4.j2 (k + 1) bs n c (j : Int) (decide (c ≤ 102)) else spec_readHex4.j2 (k + 1) bs n c (j : Int) false) = b := by
          intro b h
          split
          · rw [decide_eq_false (by omega)]; exact h
          · exact h
        apply hj2
        rw [spec_readHex4.j2, if_neg (by decide)]
        by_cases h3 : 65 ≤ c ∧ c ≤ 70
        · rw [if_pos h3, if_pos (by omega), if_pos h3.2]; rfl
        · rw [if_neg h3]
          split
          · rw [if_neg (by omega)]; rfl
          · rfl
theorem readHex_says (bs : List Int) (hb : ∀ x ∈ bs, 0 ≤ x ∧ x < 256) (h4 : 4 ≤ bs.length) : spec_readHex4.f (fu 4) bs = some (numV (shex (bs.take 4) 0)) := by
  have := readHex_loop bs hb h4 4 0 0 rfl (by omega) (by decide)
  rwa [List.drop_zero] at this
end Go.Proofs.YtmpinpndfllcdaaDoor.pkt
