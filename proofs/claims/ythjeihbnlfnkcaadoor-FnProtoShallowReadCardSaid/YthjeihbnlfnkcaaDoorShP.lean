/- Shallow lines: what the guards ask of names, plain. -/
import Derived.Test.YthjeihbnlfnkcaaDoorPktI
import Derived.Test.YthjeihbnlfnkcaaDoorHash
import Derived.Lib.HexFns2
namespace Go.Proofs.YthjeihbnlfnkcaaDoor.shal
open Go.RowKit Go.Lib Go.Proofs.YthjeihbnlfnkcaaDoorW.PrintWords Go.Proofs.YthjeihbnlfnkcaaDoorW.PrintLast Go.Proofs.YthjeihbnlfnkcaaDoorW.PrintMore Go.Proofs.YthjeihbnlfnkcaaDoor.PFnProtoShallowRead Go.Proofs.YthjeihbnlfnkcaaDoor.pkt Go.Proofs.YthjeihbnlfnkcaaDoor.hash
set_option linter.unusedVariables false
set_option linter.unusedSimpArgs false
set_option maxHeartbeats 2000000
set_option maxRecDepth 100000
theorem isName_loop (s : ByteArray) (hs : s.size ≤ 2147483647) : ∀ (k j : Nat), j ≤ s.size → s.size + 1 ≤ j + k → ∃ r, spec_IsName.l0 k s (s.size : Int) (j : Int) = some r ∧ (r = true → s.size = 40 ∧ ∀ (i : Nat) (h : i < s.size), j ≤ i → hexc (s[i]'h) = true)
  | 0, j, hj, hk => by omega
  | k + 1, j, hj, hk => by
    rw [spec_IsName.l0]
    by_cases hlt : j < s.size
    · rw [if_pos (by omega), if_pos (by omega), if_pos (by omega)]
      have hb : bt s (j : Int) = ((s[j]'hlt).toNat : Int) := by unfold bt; rw [dif_pos (by simpa using hlt)]; simp
      rw [hb, w64 (by omega) (by omega)]
      obtain ⟨r, h1, h2⟩ := isName_loop s hs k (j + 1) (by omega) (by omega)
      have h1' : spec_IsName.l0 k s (s.size : Int) ((j : Int) + 1) = some r := by rw [← h1]; simp
      rw [h1']
      have fin : hexc (s[j]'hlt) = true → r = true → s.size = 40 ∧ ∀ (i : Nat) (h : i < s.size), j ≤ i → hexc (s[i]'h) = true := fun hx hr => by
        refine ⟨(h2 hr).1, fun i h hji => ?_⟩
        by_cases e : i = j
        · subst e; exact hx
        · exact (h2 hr).2 i h (by omega)
      have hx : hexc (s[j]'hlt) = true ∨ hexc (s[j]'hlt) = false := by cases hexc (s[j]'hlt) <;> simp
      repeat' split
      all_goals first
        | exact ⟨false, rfl, by simp⟩
        | refine ⟨r, rfl, fin ?_⟩
          unfold hexc
          simp
          omega
    · rw [if_neg (by omega)]
      exact ⟨_, rfl, fun h => ⟨by simp at h; omega, fun i hi hji => by omega⟩⟩
theorem isName_says (s : ByteArray) (hs : s.size ≤ 2147483647) (k : Nat) (hk : s.size < k) : ∃ r, spec_IsName.f k s = some r ∧ (r = true → name40 s = true) := by
  obtain ⟨r, h1, h2⟩ := isName_loop s hs k 0 (by omega) (by omega)
  refine ⟨r, h1, fun hr => ?_⟩
  unfold name40
  exact decide_eq_true ⟨(h2 hr).1, fun i h => (h2 hr).2 i h (Nat.zero_le _)⟩
theorem goodHash_says (s : ByteArray) (hs : s.size ≤ 2147483647) (k : Nat) (hk : s.size < k) : ∃ r, spec_GoodHash.f k s = some r ∧ (r = true → name40 s = true) := by
  obtain ⟨r, h1, h2⟩ := isName_says s hs k hk
  unfold spec_GoodHash.f
  rw [h1, Option.bind_some]
  cases r with
  | true => rw [if_pos rfl]; exact ⟨_, rfl, fun _ => h2 rfl⟩
  | false => rw [if_neg (by simp)]; exact ⟨false, rfl, by simp⟩
theorem rising_loop (l : List ByteArray) (hl : l.length ≤ 2147483647) : ∀ (k j : Nat), 1 ≤ j → j ≤ l.length + 1 → l.length + 2 ≤ j + k → ∃ r, spec_Rising.l0 k l (j : Int) = some r
  | 0, j, hj, hj2, hk => by omega
  | k + 1, j, hj, hj2, hk => by
    rw [spec_Rising.l0]
    by_cases hlt : j < l.length
    · rw [w64 (n := (j : Int) - 1) (by omega) (by omega), if_pos (by omega), if_pos (by omega), if_pos (by omega), if_pos (by omega)]
      split
      · obtain ⟨r, h1⟩ := rising_loop l hl k (j + 1) (by omega) (by omega) (by omega)
        refine ⟨r, ?_⟩
        rw [w64 (by omega) (by omega), ← h1]
        simp
      · exact ⟨false, rfl⟩
    · rw [if_neg (by omega)]; exact ⟨true, rfl⟩
theorem good_loop (l : List ByteArray) (M : Nat) (hl : l.length ≤ 2147483647) (hs : ∀ s ∈ l, s.size ≤ 2147483647) (hM : ∀ s ∈ l, s.size < M) (hM2 : l.length + 1 < M) : ∀ (k j : Nat), j ≤ l.length → j + k = l.length + 1 → ∃ r, spec_GoodHashes.l0 (k + M) l l (l.length : Int) (j : Int) = some r ∧ (r = true → l.length ≤ 1000 ∧ ∀ s ∈ l.drop j, name40 s = true)
  | 0, j, hj, hk => by omega
  | k + 1, j, hj, hk => by
    rw [show k + 1 + M = (k + M) + 1 from by omega, spec_GoodHashes.l0]
    by_cases hlt : j < l.length
    · rw [if_pos (by omega), if_pos (by omega), if_pos (by omega)]
      have hrd : rdOf ByteArray.empty l (j : Int) = l[j] := by
        unfold rdOf
        rw [Int.toNat_natCast, List.getD_eq_getElem?_getD, List.getElem?_eq_getElem hlt]; rfl
      have hmem := List.getElem_mem hlt
      obtain ⟨r, h1, h2⟩ := goodHash_says l[j] (hs _ hmem) (k + M) (by have := hM _ hmem; omega)
      rw [hrd, h1, Option.bind_some]
      cases r with
      | false => rw [if_neg (by simp)]; exact ⟨false, rfl, by simp⟩
      | true =>
        rw [if_pos rfl, w64 (by omega) (by omega)]
        obtain ⟨r, h3, h4⟩ := good_loop l M hl hs hM hM2 k (j + 1) (by omega) (by omega)
        refine ⟨r, by rw [← h3]; simp, fun hr => ⟨(h4 hr).1, fun s hm => ?_⟩⟩
        rw [List.drop_eq_getElem_cons hlt] at hm
        rcases List.mem_cons.1 hm with rfl | hm
        · exact h2 rfl
        · exact (h4 hr).2 s hm
    · rw [if_neg (by omega)]
      obtain ⟨r, h1⟩ := rising_loop l hl (k + M) 1 (by omega) (by omega) (by omega)
      have h1' : spec_Rising.f (k + M) l = some r := by unfold spec_Rising.f; rw [← h1]; simp
      rw [h1', Option.bind_some]
      cases r with
      | false => rw [if_neg (by simp)]; exact ⟨false, rfl, by simp⟩
      | true =>
        rw [if_pos rfl]
        refine ⟨_, rfl, fun h => ⟨by have := of_decide_eq_true h; omega, fun s hm => ?_⟩⟩
        rw [List.drop_of_length_le (by omega)] at hm
        cases hm
theorem goodHashes_says (l : List ByteArray) (hl : l.length ≤ 2147483647) (hs : ∀ s ∈ l, s.size ≤ 2147483647) : ∃ k r, spec_GoodHashes.f k l = some r ∧ (r = true → l.length ≤ 1000 ∧ ∀ s ∈ l, name40 s = true) := by
  have hsum : ∀ (l : List ByteArray), ∃ M, ∀ s ∈ l, s.size < M := by
    intro l
    induction l with
    | nil => exact ⟨0, by simp⟩
    | cons a r ih =>
      obtain ⟨M, h⟩ := ih
      refine ⟨M + a.size + 1, fun s hm => ?_⟩
      rcases List.mem_cons.1 hm with rfl | hm
      · omega
      · have := h s hm; omega
  obtain ⟨M, hM⟩ := hsum l
  obtain ⟨r, h1, h2⟩ := good_loop l (M + l.length + 2) hl hs (fun s hm => by have := hM s hm; omega) (by omega) (l.length + 1) 0 (by omega) (by omega)
  exact ⟨_, r, h1, fun hr => by have := h2 hr; rwa [List.drop_zero] at this⟩
theorem fits_loop (l : List ByteArray) (hl : l.length ≤ 2147483647) : ∀ (k j : Nat), j ≤ l.length → j + k = l.length + 1 → ∃ r, laws_zzFits16.l0 k l (l.length : Int) (j : Int) = some r ∧ (r = true → ∀ s ∈ l.drop j, s.size ≤ 2147483647)
  | 0, j, hj, hk => by omega
  | k + 1, j, hj, hk => by
    rw [laws_zzFits16.l0]
    by_cases hlt : j < l.length
    · have hrd : rdOf ByteArray.empty l (j : Int) = l[j] := by
        unfold rdOf
        rw [Int.toNat_natCast, List.getD_eq_getElem?_getD, List.getElem?_eq_getElem hlt]; rfl
      rw [if_pos (by omega), if_pos (by omega), if_pos (by omega), hrd]
      split
      · exact ⟨false, rfl, by simp⟩
      · rename_i hsz
        rw [w64 (by omega) (by omega)]
        obtain ⟨r, h3, h4⟩ := fits_loop l hl k (j + 1) (by omega) (by omega)
        refine ⟨r, by rw [← h3]; simp, fun hr s hm => ?_⟩
        rw [List.drop_eq_getElem_cons hlt] at hm
        rcases List.mem_cons.1 hm with rfl | hm
        · omega
        · exact h4 hr s hm
    · rw [if_neg (by omega)]
      refine ⟨true, rfl, fun _ s hm => ?_⟩
      rw [List.drop_of_length_le (by omega)] at hm
      cases hm
theorem fits_says (l : List ByteArray) : ∃ r, laws_zzFits16.f (l.length + 1) l = some r ∧ (r = true → l.length ≤ 2147483647 ∧ ∀ s ∈ l, s.size ≤ 2147483647) := by
  unfold laws_zzFits16.f
  by_cases h : (l.length : Int) > 2147483647
  · rw [if_pos h]; exact ⟨false, rfl, by simp⟩
  · rw [if_neg h]
    obtain ⟨r, h1, h2⟩ := fits_loop l (by omega) (l.length + 1) 0 (by omega) (by omega)
    exact ⟨r, h1, fun hr => ⟨by omega, by have := h2 hr; rwa [List.drop_zero] at this⟩⟩
theorem same_loop (l : List ByteArray) (hl : l.length ≤ 2147483647) : ∀ (k j : Nat), j ≤ l.length → j + k = l.length + 1 → spec_SameTexts.l0 k l l (l.length : Int) (j : Int) = some true
  | 0, j, hj, hk => by omega
  | k + 1, j, hj, hk => by
    rw [spec_SameTexts.l0]
    by_cases hlt : j < l.length
    · rw [if_pos (by omega), if_pos (by omega), if_pos (by omega), if_pos (by omega), if_pos rfl, w64 (by omega) (by omega)]
      exact same_loop l hl k (j + 1) (by omega) (by omega)
    · rw [if_neg (by omega)]
theorem same_says (l : List ByteArray) (hl : l.length ≤ 2147483647) : spec_SameTexts.f (l.length + 1) l l = some true := by
  unfold spec_SameTexts.f
  rw [if_pos rfl]
  exact same_loop l hl (l.length + 1) 0 (by omega) (by omega)
/-- The two words. -/
def word (b : Bool) : List Int := if b then [115, 104, 97, 108, 108, 111, 119, 32] else [117, 110, 115, 104, 97, 108, 108, 111, 119, 32]
/-- The line of a name, without its end. -/
def bare (x : Bool × ByteArray) : List Int := word x.1 ++ numsOf x.2
def line (x : Bool × ByteArray) : List Int := bare x ++ [10]
/-- The whole text. -/
def lines (l : List (Bool × ByteArray)) : List (List Int) := l.map line ++ [[]]
/-- The 20 bytes of a name. -/
def raw (s : ByteArray) : List UInt8 := (Hx.decode s.data.toList).1
theorem raw_says {s : ByteArray} (h : name40 s = true) : Hx.decode s.data.toList = (raw s, .ok) ∧ (raw s).length = 20 ∧ Hx.encode (raw s) = s.data.toList := by
  obtain ⟨D, h1, h2, h3⟩ := name40_decode h
  have : raw s = D := by unfold raw; rw [h1]
  rw [this]
  exact ⟨h1, h2, h3⟩
theorem nums_range {s : ByteArray} (h : name40 s = true) : ∀ x ∈ numsOf s, 48 ≤ x ∧ x ≤ 102 := by
  intro x hx
  unfold numsOf at hx
  obtain ⟨c, hc, rfl⟩ := List.mem_map.1 hx
  have := (name40_bytes h).2 c hc
  unfold hexc at this
  simp at this
  omega
theorem numsOf_str (s : ByteArray) : strOfNums (numsOf s) = s := by
  apply ByteArray.ext
  apply Array.ext'
  show ((numsOf s).map _) = _
  unfold numsOf
  rw [List.map_map]
  conv => rhs; rw [← List.map_id s.data.toList]
  refine List.map_congr_left fun c _ => ?_
  simp
theorem line_len {x : Bool × ByteArray} (h : name40 x.2 = true) : (bare x).length = (if x.1 then 48 else 50) ∧ (line x).length ≤ 51 := by
  have h1 := (name40_bytes h).1
  have h2 := numsOf_length x.2
  unfold line bare word
  cases x.1 <;> simp [h2, h1]
theorem line_range {x : Bool × ByteArray} (h : name40 x.2 = true) : ∀ b ∈ line x, 0 ≤ b ∧ b < 128 := by
  intro b hb
  unfold line bare word at hb
  rcases List.mem_append.1 hb with hb | hb
  · rcases List.mem_append.1 hb with hb | hb
    · split at hb <;> simp at hb <;> omega
    · have := nums_range h b hb; omega
  · simp at hb; omega
theorem line_good {x : Bool × ByteArray} (h : name40 x.2 = true) : pkt.Good (line x) := by
  have h1 := line_len h
  refine ⟨by omega, ?_⟩
  unfold line bare word isErr
  cases x.1 <;> rfl
theorem lines_good {l : List (Bool × ByteArray)} (h : ∀ x ∈ l, name40 x.2 = true) : ∀ p ∈ lines l, pkt.Good p := by
  intro p hp
  unfold lines at hp
  rcases List.mem_append.1 hp with hp | hp
  · obtain ⟨x, hx, rfl⟩ := List.mem_map.1 hp
    exact line_good (h x hx)
  · simp at hp
    subst hp
    exact ⟨by decide, by decide⟩
end Go.Proofs.YthjeihbnlfnkcaaDoor.shal
