/- Packet lines, plain law: what is read of any bytes; where the format says something, the package does so; what is written is read. No program in sight. -/
import Derived.Test.YtghcecngdhcjpaaDoorWWords
namespace Go.Proofs.YtghcecngdhcjpaaDoor.pkt
set_option linter.unusedVariables false
set_option linter.unusedSimpArgs false
/-- The value of a digit in base 16. -/
def hexd (c : Int) : Option Int := if 48 ≤ c ∧ c ≤ 57 then some (c - 48) else if 97 ≤ c ∧ c ≤ 102 then some (c - 87) else if 65 ≤ c ∧ c ≤ 70 then some (c - 55) else none
def hex4 : List Int → Option Int
  | [a, b, c, d] => (hexd a).bind fun x => (hexd b).bind fun y => (hexd c).bind fun z => (hexd d).bind fun u => some (((x * 16 + y) * 16 + z) * 16 + u)
  | _ => none
def isErr (p : List Int) : Bool := p.take 4 == [69, 82, 82, 32]
/-- What is read next. -/
inductive Stp where
  | done
  | bad
  | line (p r : List Int)
/-- The step of the package. -/
def stp (bs : List Int) : Stp :=
  if bs = [] then .done else
  match hex4 (bs.take 4) with
  | none => .bad
  | some n => if n = 0 then .line [] (bs.drop 4) else if n ≤ 4 ∨ 65524 < n then .bad else
    if (bs.drop 4).length < (n - 4).toNat then .bad else
    if isErr ((bs.drop 4).take (n - 4).toNat) = true then .bad else .line ((bs.drop 4).take (n - 4).toNat) ((bs.drop 4).drop (n - 4).toNat)
def run : Nat → List Int → List (List Int) × Bool
  | 0, _ => ([], false)
  | k + 1, bs => match stp bs with
    | .done => ([], true)
    | .bad => ([], false)
    | .line p r => (p :: (run k r).1, (run k r).2)
theorem hexd_range {c x : Int} (h : hexd c = some x) : 0 ≤ x ∧ x ≤ 15 := by
  unfold hexd at h
  split at h
  · cases h; omega
  · split at h
    · cases h; omega
    · split at h
      · cases h; omega
      · cases h
theorem hex4_range {l : List Int} {n : Int} (h : hex4 l = some n) : 0 ≤ n ∧ n ≤ 65535 ∧ l.length = 4 := by
  match l, h with
  | [a, b, c, d], h =>
    simp only [hex4, Option.bind_eq_some_iff, Option.some.injEq] at h
    obtain ⟨x, hx, y, hy, z, hz, u, hu, rfl⟩ := h
    have := hexd_range hx
    have := hexd_range hy
    have := hexd_range hz
    have := hexd_range hu
    refine ⟨by omega, by omega, rfl⟩
theorem stp_line {bs p r : List Int} (h : stp bs = .line p r) : bs.length = 4 + p.length + r.length ∧ bs = bs.take 4 ++ p ++ r ∧ p.length ≤ 65520 := by
  unfold stp at h
  split at h
  · cases h
  · split at h
    · cases h
    · rename_i n hn
      obtain ⟨h0, h1, h4⟩ := hex4_range hn
      rw [List.length_take] at h4
      split at h
      · cases h
        refine ⟨by simp; omega, by simp, by simp⟩
      · split at h
        · cases h
        · split at h
          · cases h
          · split at h
            · cases h
            · rename_i h5 h6 h7
              rw [List.length_drop] at h6
              cases h
              refine ⟨by simp; omega, by rw [List.append_assoc, List.take_append_drop, List.take_append_drop], by simp; omega⟩
/-- More rounds change nothing. -/
theorem run_more : ∀ (k : Nat) (bs : List Int), bs.length < k → run (k + 1) bs = run k bs
  | 0, _, h => by omega
  | k + 1, bs, h => by
    rw [run]
    conv => rhs; rw [run]
    cases hs : stp bs with
    | done => rfl
    | bad => rfl
    | line p r =>
      have hl := (stp_line hs).1
      have := run_more k r (by omega)
      simp only [this]

/-! ### What the format says -/
inductive Sst where
  | done
  | refused
  | open_
  | line (p r : List Int)
/-- Four digits: a number, nothing said (a capital one), or refused. -/
inductive Num where
  | n (x : Int)
  | open_
  | refused
def shex : List Int → Int → Num
  | [], n => .n n
  | c :: r, n => if 48 ≤ c ∧ c ≤ 57 then shex r (n * 16 + (c - 48)) else if 97 ≤ c ∧ c ≤ 102 then shex r (n * 16 + (c - 87)) else if 65 ≤ c ∧ c ≤ 70 then .open_ else .refused
def sstp (bs : List Int) : Sst :=
  if bs = [] then .done else if bs.length < 4 then .refused else
  match shex (bs.take 4) 0 with
  | .open_ => .open_
  | .refused => .refused
  | .n x => if x = 0 then .line [] (bs.drop 4) else if x ≤ 4 ∨ 65520 < x then .open_ else
    if (bs.length : Int) < x then .refused else
    if isErr ((bs.drop 4).take (x - 4).toNat) = true then .open_ else .line ((bs.drop 4).take (x - 4).toNat) ((bs.drop 4).drop (x - 4).toNat)
theorem shex_hex4 {a b c d : Int} : (∀ x, shex [a, b, c, d] 0 = .n x → hex4 [a, b, c, d] = some x) ∧ (shex [a, b, c, d] 0 = .refused → hex4 [a, b, c, d] = none) := by
  have one : ∀ (c : Int) (r : List Int) (n : Int), (∃ x, hexd c = some x ∧ (shex (c :: r) n = shex r (n * 16 + x) ∨ shex (c :: r) n = .open_)) ∨ (hexd c = none ∧ shex (c :: r) n = .refused) := by
    intro c r n
    unfold hexd
    by_cases h1 : 48 ≤ c ∧ c ≤ 57
    · exact .inl ⟨c - 48, if_pos h1, .inl (by rw [shex, if_pos h1])⟩
    · by_cases h2 : 97 ≤ c ∧ c ≤ 102
      · exact .inl ⟨c - 87, by rw [if_neg h1, if_pos h2], .inl (by rw [shex, if_neg h1, if_pos h2])⟩
      · by_cases h3 : 65 ≤ c ∧ c ≤ 70
        · exact .inl ⟨c - 55, by rw [if_neg h1, if_neg h2, if_pos h3], .inr (by rw [shex, if_neg h1, if_neg h2, if_pos h3])⟩
        · exact .inr ⟨by rw [if_neg h1, if_neg h2, if_neg h3], by rw [shex, if_neg h1, if_neg h2, if_neg h3]⟩
  simp only [hex4]
  rcases one a [b, c, d] 0 with ⟨x, hx, h | h⟩ | ⟨hx, h⟩
  · rw [h, hx]
    rcases one b [c, d] (0 * 16 + x) with ⟨y, hy, h | h⟩ | ⟨hy, h⟩
    · rw [h, hy]
      rcases one c [d] ((0 * 16 + x) * 16 + y) with ⟨z, hz, h | h⟩ | ⟨hz, h⟩
      · rw [h, hz]
        rcases one d [] (((0 * 16 + x) * 16 + y) * 16 + z) with ⟨u, hu, h | h⟩ | ⟨hu, h⟩
        · rw [h, hu]
          refine ⟨fun v hv => ?_, nofun⟩
          injection hv with hv
          subst hv
          simp
        · rw [h]; exact ⟨nofun, nofun⟩
        · rw [h, hu]; exact ⟨nofun, fun _ => rfl⟩
      · rw [h]; exact ⟨nofun, nofun⟩
      · rw [h, hz]; exact ⟨nofun, fun _ => rfl⟩
    · rw [h]; exact ⟨nofun, nofun⟩
    · rw [h, hy]; exact ⟨nofun, fun _ => rfl⟩
  · rw [h]; exact ⟨nofun, nofun⟩
  · rw [h, hx]; exact ⟨nofun, fun _ => rfl⟩
theorem take4 {bs : List Int} (h : 4 ≤ bs.length) : ∃ a b c d, bs.take 4 = [a, b, c, d] := by
  match bs, h with
  | a :: b :: c :: d :: r, _ => exact ⟨a, b, c, d, rfl⟩
/-- Where the format says something, the package does so. -/
theorem sstp_stp (bs : List Int) : (sstp bs = .done → stp bs = .done) ∧ (sstp bs = .refused → stp bs = .bad) ∧ (∀ p r, sstp bs = .line p r → stp bs = .line p r) := by
  unfold sstp stp
  by_cases h0 : bs = []
  · rw [if_pos h0, if_pos h0]; exact ⟨fun _ => rfl, nofun, nofun⟩
  rw [if_neg h0, if_neg h0]
  by_cases h4 : bs.length < 4
  · rw [if_pos h4]
    refine ⟨nofun, fun _ => ?_, nofun⟩
    cases hx : hex4 (bs.take 4) with
    | none => rfl
    | some n => have := (hex4_range hx).2.2; rw [List.length_take] at this; omega
  rw [if_neg h4]
  obtain ⟨a, b, c, d, he⟩ := take4 (Nat.le_of_not_lt h4)
  rw [he]
  obtain ⟨h1, h2⟩ := @shex_hex4 a b c d
  cases hs : shex [a, b, c, d] 0 with
  | open_ => exact ⟨nofun, nofun, nofun⟩
  | refused =>
    rw [h2 hs]
    exact ⟨nofun, fun _ => rfl, nofun⟩
  | n x =>
    rw [h1 x hs]
    simp only
    by_cases hz : x = 0
    · rw [if_pos hz, if_pos hz]; exact ⟨nofun, nofun, (fun p r h => by cases h; rfl)⟩
    rw [if_neg hz, if_neg hz]
    by_cases hb : x ≤ 4 ∨ 65520 < x
    · rw [if_pos hb]; exact ⟨nofun, nofun, nofun⟩
    have hb2 : ¬ (x ≤ 4 ∨ 65524 < x) := by omega
    rw [if_neg hb, if_neg hb2]
    by_cases hl : (bs.length : Int) < x
    · have hl2 : (bs.drop 4).length < (x - 4).toNat := by rw [List.length_drop]; omega
      rw [if_pos hl, if_pos hl2]; exact ⟨nofun, fun _ => rfl, nofun⟩
    have hl2 : ¬ (bs.drop 4).length < (x - 4).toNat := by rw [List.length_drop]; omega
    rw [if_neg hl, if_neg hl2]
    by_cases he' : isErr ((bs.drop 4).take (x - 4).toNat) = true
    · rw [if_pos he']; exact ⟨nofun, nofun, nofun⟩
    rw [if_neg he', if_neg he']
    exact ⟨nofun, nofun, (fun p r h => by cases h; rfl)⟩
/-- The lines that the format says, and its state: 0 told, 1 refused, 2 nothing said. -/
def srun : Nat → List Int → List (List Int) × Nat
  | 0, _ => ([], 2)
  | k + 1, bs => match sstp bs with
    | .done => ([], 0)
    | .refused => ([], 1)
    | .open_ => ([], 2)
    | .line p r => (p :: (srun k r).1, (srun k r).2)
theorem srun_run : ∀ (k : Nat) (bs : List Int), (srun k bs).2 ≠ 2 → run k bs = ((srun k bs).1, decide ((srun k bs).2 = 0))
  | 0, _, h => absurd rfl h
  | k + 1, bs, h => by
    obtain ⟨h1, h2, h3⟩ := sstp_stp bs
    rw [srun] at h ⊢
    rw [run]
    cases hs : sstp bs with
    | done => rw [h1 hs]; rfl
    | refused => rw [h2 hs]; rfl
    | open_ => rw [hs] at h; exact absurd rfl h
    | line p r =>
      rw [h3 p r hs]
      rw [hs] at h
      have ih := srun_run k r h
      simp only [ih]
/-! ### Lines that are written -/
def digit (x : Int) : Int := if x < 10 then 48 + x else 87 + x
theorem hexd_digit {x : Int} (h0 : 0 ≤ x) (h1 : x ≤ 15) : hexd (digit x) = some x := by
  unfold hexd digit
  by_cases h : x < 10
  · rw [if_pos h, if_pos (by omega)]; congr 1; omega
  · rw [if_neg h, if_neg (by omega), if_pos (by omega)]; congr 1; omega
def hexs (n : Int) : List Int := [digit (n / 4096 % 16), digit (n / 256 % 16), digit (n / 16 % 16), digit (n % 16)]
theorem hex4_hexs {n : Int} (h0 : 0 ≤ n) (h1 : n < 65536) : hex4 (hexs n) = some n := by
  unfold hex4 hexs
  simp only [hexd_digit (x := n / 4096 % 16) (by omega) (by omega), hexd_digit (x := n / 256 % 16) (by omega) (by omega), hexd_digit (x := n / 16 % 16) (by omega) (by omega), hexd_digit (x := n % 16) (by omega) (by omega), Option.bind_some, Option.some.injEq]
  omega
def pline (p : List Int) : List Int := if p = [] then [48, 48, 48, 48] else hexs (p.length + 4) ++ p
def plines : List (List Int) → List Int
  | [] => []
  | p :: l => pline p ++ plines l
def Good (p : List Int) : Prop := p.length ≤ 65516 ∧ isErr p = false
theorem stp_pline {p r : List Int} (h : Good p) : stp (pline p ++ r) = .line p r := by
  unfold pline
  by_cases hp : p = []
  · subst hp
    rw [if_pos rfl]
    unfold stp
    rw [if_neg (by simp)]
    rfl
  · rw [if_neg hp]
    have hl : 0 < p.length := List.length_pos_iff.2 hp
    have h4 : (hexs ((p.length : Int) + 4)).length = 4 := rfl
    have e1 : (hexs ((p.length : Int) + 4) ++ p ++ r).take 4 = hexs ((p.length : Int) + 4) := by rw [List.append_assoc]; exact List.take_left' h4
    have e2 : (hexs ((p.length : Int) + 4) ++ p ++ r).drop 4 = p ++ r := by rw [List.append_assoc]; exact List.drop_left' h4
    have hn : hex4 (hexs ((p.length : Int) + 4)) = some ((p.length : Int) + 4) := hex4_hexs (by omega) (by have := h.1; omega)
    unfold stp
    rw [if_neg (by simp [hexs]), e1, hn]
    simp only
    have e3 : ((p.length : Int) + 4 - 4).toNat = p.length := by omega
    rw [if_neg (by omega), if_neg (by have := h.1; omega), e2, e3, if_neg (by simp), List.take_left' rfl, List.drop_left' rfl, if_neg (by rw [h.2]; decide)]
theorem run_plines : ∀ (l : List (List Int)) (k : Nat), (∀ p ∈ l, Good p) → l.length < k → run k (plines l) = (l, true)
  | [], k, _, hk => by
    obtain ⟨k, rfl⟩ : ∃ m, k = m + 1 := ⟨k - 1, by omega⟩
    rfl
  | p :: l, k, hg, hk => by
    obtain ⟨k, rfl⟩ : ∃ m, k = m + 1 := ⟨k - 1, by omega⟩
    rw [plines, run, stp_pline (hg p (by simp))]
    simp only [run_plines l k (fun x hx => hg x (by simp [hx])) (by simp at hk; omega)]
end Go.Proofs.YtghcecngdhcjpaaDoor.pkt
