/- Shallow lines: what is trimmed, what a line begins with. -/
import Derived.Test.YthjeihbnlfnkcaaDoorShB
namespace Go.Proofs.YthjeihbnlfnkcaaDoor.shal
open Go.RowKit Go.Lib Go.Proofs.YthjeihbnlfnkcaaDoorW.PrintWords Go.Proofs.YthjeihbnlfnkcaaDoorW.PrintLast Go.Proofs.YthjeihbnlfnkcaaDoorW.PrintMore Go.Proofs.YthjeihbnlfnkcaaDoor.PFnProtoShallowRead Go.Proofs.YthjeihbnlfnkcaaDoor.pkt Go.Proofs.YthjeihbnlfnkcaaDoor.hash
set_option linter.unusedVariables false
set_option linter.unusedSimpArgs false
set_option maxHeartbeats 2000000
set_option maxRecDepth 100000
theorem prefix_f {p q : List Int} (hp : ∀ x ∈ p, 0 ≤ x ∧ x < 256) (hq : ∀ x ∈ q, 0 ≤ x ∧ x < 256) : bytes_HasPrefix.f p q = some (p.take q.length == q) := by
  unfold bytes_HasPrefix.f
  by_cases h : q.length ≤ p.length
  · rw [if_pos (by omega), if_pos (by omega), if_pos (by omega)]
    unfold bytes_Equal.f
    rw [Option.bind_some]
    show some ((strOfNums (p.take (q.length : Int).toNat)).toList == _) = _
    rw [Int.toNat_natCast, strOf_eq (fun x hx => hp x (List.mem_of_mem_take hx)) hq]
  · rw [if_neg (by omega)]
    congr 1
    symm
    rw [beq_eq_false_iff_ne]
    intro he
    have := congrArg List.length he
    rw [List.length_take] at this
    omega
theorem word_range (b : Bool) : ∀ x ∈ word b, 0 ≤ x ∧ x < 256 := by
  intro x hx
  unfold word at hx
  cases b <;> simp at hx <;> omega
theorem bare_range {x : Bool × ByteArray} (h : name40 x.2 = true) : ∀ b ∈ bare x, 0 ≤ b ∧ b < 256 := fun b hb => by
  have := line_range h b (List.mem_append_left _ hb)
  omega
theorem prefix_bare (x : Bool × ByteArray) (b : Bool) : ((bare x).take (word b).length == word b) = (x.1 == b) := by
  obtain ⟨t, s⟩ := x
  cases t <;> cases b
  · exact beq_iff_eq.2 (List.take_left (l₁ := word false))
  · show ((([117, 110, 115, 104, 97, 108, 108, 111, 119, 32] : List Int) ++ numsOf s).take 8 == _) = false
    rw [List.take_append_of_le_length (by decide)]
    decide
  · show ((([115, 104, 97, 108, 108, 111, 119, 32] : List Int) ++ numsOf s).take 10 == _) = false
    rw [beq_eq_false_iff_ne]
    intro h
    have := congrArg List.head? h
    simp [word] at this
  · exact beq_iff_eq.2 (List.take_left (l₁ := word true))
/-- A line's word is looked at. -/
theorem prefix_any (x : Bool × ByteArray) (hx : name40 x.2 = true) (b r : Bool) (hr : (x.1 == b) = r) (W : World) (A Ap : Option Addr) (n c cp : Nat) (hn : (bare x).length = n) (hC : (Kd.int .u8).C W A (bare x).length (bare x)) (hc : n ≤ c) (hP : (Kd.int .u8).C W Ap (word b).length (word b)) (hcp : (word b).length ≤ cp) :
    Calls Tryd.prog 44 #[.slice A n c, .slice Ap (word b).length cp] W fun e w' => e = .returned (.bool r) ∧ Drawn0 W w' := by
  subst hn
  subst hr
  exact bytes_HasPrefix.calls A c (bare x) Ap cp (word b) _ W hC hc hP hcp (by rw [prefix_f (bare_range hx) (word_range b), prefix_bare])
theorem prefix_none (b : Bool) (W : World) (Ap : Option Addr) (cp : Nat) (hP : (Kd.int .u8).C W Ap (word b).length (word b)) (hcp : (word b).length ≤ cp) :
    Calls Tryd.prog 44 #[.slice none 0 0, .slice Ap (word b).length cp] W fun e w' => e = .returned (.bool false) ∧ Drawn0 W w' :=
  bytes_HasPrefix.calls none 0 [] Ap cp (word b) _ W (Kd.C_nil _ _) (Nat.le_refl _) hP hcp (by rw [prefix_f (by simp) (word_range b)]; cases b <;> rfl)
theorem sp_no {v : Int} (h0 : 48 ≤ v) (h1 : v ≤ 117) : Lib.isSp (UInt8.ofNat v.toNat) = false := by
  have key : ∀ n : Fin 256, 48 ≤ n.val → Lib.isSp (UInt8.ofNat n.val) = false := by decide +kernel
  have := key ⟨v.toNat, by omega⟩ (by simp; omega)
  simpa using this
theorem trim_line (W : World) (gp cp n m : Nat) (x : Bool × ByteArray) (hx : name40 x.2 = true) (hn : (line x).length = n) (hm : (bare x).length = m) (hC : (Kd.int .u8).C W (some ⟨gp, 0, none⟩) (line x).length (line x)) (hc : n ≤ cp) (htab : Lib.TabIs Tryd.prog W "bytes.asciiSpace" .u8 Lib.asciiSpaceTab) :
    Calls Tryd.prog 43 #[.slice (some ⟨gp, 0, none⟩) n cp] W fun e w' => e = .returned (.slice (some ⟨gp, 0, none⟩) m cp) ∧ w' = W := by
  subst hn
  have hl1 : (line x).length = (bare x).length + 1 := by unfold line; rw [List.length_append]; rfl
  have hl := (line_len hx).1
  have hl2 : 48 ≤ (bare x).length := by split at hl <;> omega
  have hwl : (word x.1).length ≤ 10 := by unfold word; split <;> decide
  have hnl : (numsOf x.2).length = 40 := by rw [numsOf_length, (name40_bytes hx).1]
  refine (Tryd.bytes_TrimSpace gp 0 (line x).length cp (line x) W rfl hc (by have := (line_len hx).2; omega) (fun i hi => ?_) (fun i hi => ?_) htab).mono ?_
  · obtain ⟨ad, e, h⟩ := src_at hC i hi
    injection e with e
    have := h i hi
    rw [← e, Addr.add_lit] at this
    rw [this, List.getD_eq_getElem?_getD, List.getElem?_eq_getElem hi]; rfl
  · have := line_range hx ((line x)[i]) (List.getElem_mem hi)
    rw [List.getD_eq_getElem?_getD, List.getElem?_eq_getElem hi]
    exact this
  · rintro e w' ⟨rfl, rfl⟩
    refine ⟨?_, rfl⟩
    rw [bytesTrimSpace_cut gp 0 cp (Lib.bytesOf (line x)) 0 ((bare x).length - 1) (Nat.zero_le _) (by unfold Lib.bytesOf; rw [List.length_map]; omega) (fun j y h => absurd h (Nat.not_lt_zero _)) ?_ ?_ ?_]
    · rw [Nat.zero_add, Nat.sub_zero, Nat.sub_zero, Nat.sub_add_cancel (by omega), hm]
    · intro y hy
      unfold Lib.bytesOf at hy
      rw [List.getElem?_map] at hy
      obtain ⟨t, s⟩ := x
      cases t
      · obtain rfl : UInt8.ofNat (117 : Int).toNat = y := by simpa [line, bare, word] using hy
        exact sp_no (by decide) (by decide)
      · obtain rfl : UInt8.ofNat (115 : Int).toNat = y := by simpa [line, bare, word] using hy
        exact sp_no (by decide) (by decide)
    · intro y hy
      unfold Lib.bytesOf at hy
      rw [List.getElem?_map] at hy
      have hk : (line x)[(bare x).length - 1]? = (numsOf x.2)[39]? := by
        have hbl : (bare x).length = (word x.1).length + 40 := by unfold bare; rw [List.length_append, hnl]
        unfold line
        rw [List.getElem?_append_left (by omega)]
        have : (bare x).length - 1 = (word x.1).length + 39 := by omega
        rw [this]
        unfold bare
        rw [List.getElem?_append_right (by omega), Nat.add_sub_cancel_left]
      rw [hk, List.getElem?_eq_getElem (by omega)] at hy
      obtain rfl : UInt8.ofNat ((numsOf x.2)[39]'(by omega)).toNat = y := by simpa using hy
      have := nums_range hx _ (List.getElem_mem (show 39 < (numsOf x.2).length by omega))
      exact sp_no this.1 (by omega)
    · intro j y hj hy
      unfold Lib.bytesOf at hy
      rw [List.getElem?_map] at hy
      obtain ⟨v, hv, rfl⟩ := Option.map_eq_some_iff.1 hy
      have hlt := (List.getElem?_eq_some_iff.1 hv).1
      obtain rfl : j = (bare x).length := by omega
      unfold line at hv
      rw [List.getElem?_append_right (Nat.le_refl _), Nat.sub_self] at hv
      obtain rfl : (10 : Int) = v := by simpa using hv
      decide
theorem trim_none (W : World) (A : Option Addr) (c : Nat) (hA : A = none ∧ c = 0 ∨ ∃ gp, A = some ⟨gp, 0, none⟩) (htab : Lib.TabIs Tryd.prog W "bytes.asciiSpace" .u8 Lib.asciiSpaceTab) :
    Calls Tryd.prog 43 #[.slice A 0 c] W fun e w' => e = .returned (.slice none 0 0) ∧ w' = W := by
  rcases hA with ⟨rfl, rfl⟩ | ⟨gp, rfl⟩
  · exact Tryd.bytes_TrimSpace_nil W
  · refine (Tryd.bytes_TrimSpace gp 0 0 c [] W rfl (Nat.zero_le _) (by omega) (fun i hi => absurd hi (Nat.not_lt_zero _)) (fun i hi => absurd hi (Nat.not_lt_zero _)) htab).mono ?_
    rintro e w' ⟨rfl, rfl⟩
    exact ⟨rfl, rfl⟩
theorem C_bare {W : World} {A : Option Addr} {x : Bool × ByteArray} (h : (Kd.int .u8).C W A (line x).length (line x)) : (Kd.int .u8).C W A (bare x).length (bare x) := by
  have hl1 : (line x).length = (bare x).length + 1 := by unfold line; rw [List.length_append]; rfl
  have := Kd.C_take h (m := (bare x).length) (by omega)
  rwa [show (line x).take (bare x).length = bare x from List.take_left] at this
theorem kH_same {w w' : World} {base : Nat} {v : Value} {l : List ByteArray} (h : kH.R 85 w base (fun _ => True) v l) (hk : ∀ k, v.ownBlock = some k → w'.heap[k]? = w.heap[k]?) : kH.R 85 w' base (fun _ => True) v l := by
  have h' : kH.R 85 w base (fun k => v.ownBlock = some k) v l := by
    obtain ⟨h0, inner, hown, hr⟩ := h
    exact ⟨fun k hk => hk, inner, hown, hr⟩
  exact Kd.R_mono (Kd.R_move h' hk) (fun _ _ => trivial)
theorem kH_near {w w' : World} {g1 g2 base : Nat} {t1 t2 : TypeId} {c1 c2 : Array Value} {row : Option Nat} {v : Value} {l : List ByteArray} (h : kH.R 85 w base (fun _ => True) v l) (hn : Near3 w w' g1 g2 row)
    (h1 : w.heap[g1]? = some (.cells c1 t1 (0, 0))) (n1 : t1 ≠ 85) (h2 : w.heap[g2]? = some (.cells c2 t2 (0, 0))) (n2 : t2 ≠ 85) (h3 : ∀ k, row = some k → ∀ cs, w.heap[k]? ≠ some (.cells cs 85 (0, 0))) :
    kH.R 85 w' base (fun _ => True) v l := by
  refine kH_same h fun k hk => ?_
  obtain ⟨cs, hc⟩ := Kd.R_typed h k hk
  refine hn.block k (blk_lt hc) (fun e => ?_) (fun e => ?_) (fun e => h3 k e.symm cs hc)
  · subst e; rw [h1] at hc; injection hc with hc; injection hc with _ hc; exact n1 hc
  · subst e; rw [h2] at hc; injection hc with hc; injection hc with _ hc; exact n2 hc
end Go.Proofs.YthjeihbnlfnkcaaDoor.shal
