/- Names of objects: NewHash reads 40 digits as 20 bytes, String tells 20 bytes as 40 digits. Contracts for the laws of this seat. -/
import Derived.Test.YtdobblddnfalcaaGreatDoorShelf
import Derived.WalkKit
import Derived.WalkSpells
import Derived.WalkLawsBesides
import Derived.Lib.Hide
import Derived.Outline
import Derived.Laws.CopyOwn
import Derived.Laws.Rows
import Derived.Laws.Tables
namespace Go.Proofs.YtdobblddnfalcaaGreatDoor.hash
open Go.RowKit Go.Lib
set_option linter.unusedVariables false
set_option maxHeartbeats 400000
set_option maxRecDepth 100000
/-- Bytes as cells. -/
def cells (l : List UInt8) : List Value := l.map fun b => Value.int .u8 (b.toNat : Int)
theorem cells_one (l : List UInt8) : ∀ v ∈ cells l, v.oneCell' = true := by
  intro v hv
  obtain ⟨b, _, rfl⟩ := List.mem_map.1 hv
  rfl
theorem info20 {D : List UInt8} (hl : D.length = 20) : (Tryz.prog.info? 129).map (·.size) = some (cells D).toArray.size := by
  have h : (Tryz.prog.info? 129).map (·.size) = some 20 := by kernel_rfl
  rw [h]
  simp [cells, hl]
def zeros20 : List Value := List.replicate 20 (.int .u8 0)
theorem newHash (s : ByteArray) (D : List UInt8) (o : Hx.Out) (w : World) (ev : Value) (hE : w.cell? ⟨11, 0, none⟩ = some ev) (hs : s.size ≤ 100) (hD : Hx.decode s.data.toList = (D, o)) (hl : D.length = 20) :
    Calls Tryz.prog 72 #[.string s] w fun e w' => e = .returned (.agg (cells D).toArray) ∧ Below w.heap.size w w' := by
  have hdec : ∀ (w0 : World), w0.cell? ⟨11, 0, none⟩ = some ev → Calls Tryz.prog 92 #[.string s] w0 fun e w' => ∃ v, e = .returned (.tuple #[v, Hx.errVal 232 ev o]) ∧
      w'.ownsRow w0.heap.size 5 1 v 20 (cells D) ∧ Below w0.heap.size w0 w' := by
    intro w0 h0
    refine (Tryz.hex_DecodeString_owns s w0 ev h0 (by omega)).mono ?_
    rintro e w' ⟨v, h1, h2, h3⟩
    rw [hD] at h1 h2
    rw [hl] at h2
    exact ⟨v, h1, h2, h3⟩
  have HD := Lib.hid hdec
  clear hdec
  go_enter Tryz.func72, Tryz.ntmps72
  go_wp2_with fail
  refine (HD.out _ (((Below.refl w.heap.size w).alloc (Nat.le_refl _) _).cell (World.block_lt_of_cell? _ _ hE) |>.trans hE)).mono ?_
  rintro e w1 ⟨v, rfl, hown, hb⟩
  obtain ⟨g, cap, rfl⟩ : ∃ g cap, v = .slice (some ⟨g, 0, none⟩) 20 cap := by
    rcases hown.2 with ⟨_, h0⟩ | ⟨g, cap, cur, h, _⟩
    · cases h0
    · exact ⟨g, cap, h⟩
  have hsz1 := hb.size
  simp at hsz1
  have SZ : (Tryz.prog.info? 5).map (·.size) = some 1 := by kernel_rfl
  have HSZ := Lib.hid SZ
  have HOWN := Lib.hid hown
  have HB := Lib.hid hb
  clear SZ hown hb
  go_wp2_with ((with_reducible show wpList _ _ _ (⟨some 13, _, _, _, _, _⟩ :: _) _ _); go_loud (refine wpList_copy_splice rfl (.tmp 11) (.tmp 12) 32 32 rfl 5 Tryz.underlying32 HSZ.out (some ⟨w1.heap.size, 0, none⟩) (some ⟨g, 0, none⟩) 20 20 20 cap rfl rfl w1.heap.size 0 zeros20 129 ?hg (cells D) ?hn ?hpos ?hfit ?h1 (w.heap.size + 1) (w.alloc (.cells zeros20.toArray 129)) ?hb ?hB ?hrest))
  case hg => exact heap_alloc_new w1 _
  case hn => rw [cells, List.length_map, hl]; rfl
  case hfit => rw [cells, List.length_map, hl]; decide
  case h1 => exact cells_one D
  case hb => exact (Below.mono HB.out (by simp)).alloc hsz1 _
  case hB => exact hsz1
  case hpos =>
    intro _ j v hv
    have h := HOWN.out.cells rfl j v hv
    have hg := (HOWN.out.lt g rfl).2
    rw [Addr.add_lit] at h
    simp only [Nat.zero_add] at h
    exact (((Below.refl w1.heap.size w1).alloc (Nat.le_refl _) _).cell (p := ⟨g, j, none⟩) hg).trans h
  case hrest =>
    intro w2 hg2 hb2
    have hsp : splice zeros20 0 (cells D) = cells D := by
      have : (cells D).length = 20 := by rw [cells, List.length_map, hl]
      simp [splice, zeros20, this]
    rw [hsp] at hg2
    have hA := hb2.block w.heap.size (by omega)
    rw [heap_alloc_new] at hA
    have HA := Lib.hid hA
    have HB2 := Lib.hid hb2
    clear hA hb2
    go_wp2_with (first | ((with_reducible show wpList _ _ _ (⟨some 14, _, _, _, _, _⟩ :: _) _ _); refine wpList_load_row rfl 129 (.tmp 5) rfl w1.heap.size rfl 129 (cells D).toArray (0, 0) _ hg2.out Tryz.underlying129 rfl (info20 hl) ?_) | ((with_reducible show wpList _ _ _ (⟨none, .store _ _ _, _, _, _, _⟩ :: _) _ _); refine wpList_store_row rfl 129 (.tmp 2) (.tmp 14) rfl w.heap.size (cells D).toArray rfl rfl 129 zeros20.toArray HA.out (info20 hl) (by simp [zeros20, cells, hl]) (by simpa using cells_one D) ?_))
    have hb2' : Below w.heap.size w w2 := ((Below.refl w.heap.size w).alloc (Nat.le_refl _) _).trans (HB2.out.mono (by omega))
    refine bodyPost_ret (results_cell_row rfl _ _ w.heap.size 129 (cells D).toArray (0, 0) _ rfl (setRow_heap w2 w.heap.size _ _ _ _ HA.out) Tryz.underlying129 rfl (info20 hl)) rfl ⟨rfl, below_setRow hb2' (Nat.le_refl _) _⟩

/-- String of 20 bytes. -/
theorem hashString (D : List UInt8) (w : World) (hl : D.length = 20) :
    Calls Tryz.prog 66 #[.agg (cells D).toArray] w fun e w' => e = .returned (.string ⟨(Hx.encode D).toArray⟩) ∧ Below w.heap.size w w' := by
  have HE : ∀ (w0 : World) (b : Nat), b < w0.heap.size → (∀ i (h : i < D.length), w0.cell? ⟨b, i, none⟩ = some (.int .u8 ((D[i]'h).toNat : Int))) →
      Calls Tryz.prog 89 #[.slice (some ⟨b, 0, none⟩) 20 20] w0 fun e w' => e = .returned (.string ⟨(Hx.encode D).toArray⟩) ∧ Below w0.heap.size w0 w' := by
    intro w0 b hb hc
    have := Tryz.hex_EncodeToString_bytes b 0 20 D w0 (by simpa using hc) hb (by omega)
    rw [hl] at this
    exact this
  have HE' := Lib.hid HE
  have HL := Lib.hid hl
  clear HE
  have hsz := info20 hl
  have hagg : (cells D).toArray.size = 20 := by simp [cells, hl]
  go_enter Tryz.func66, Tryz.ntmps66
  go_wp2_with fail
  refine (HE'.out _ _ (by simp) ?hc).mono ?_
  case hc =>
    intro i h
    rw [World.cell?_alloc_new _ _ _ _]
    simp [cells, h]
  rintro e w' ⟨rfl, hb⟩
  go_wp2_with fail
  go_ret
  exact ⟨rfl, ((Below.refl _ _).alloc (Nat.le_refl _) _).trans (hb.mono (by simp))⟩

/-- Digits in base 16, with small letters. -/
def hexc (c : UInt8) : Bool := (48 ≤ c.toNat && c.toNat ≤ 57) || (97 ≤ c.toNat && c.toNat ≤ 102)
theorem hexc_yes {c : UInt8} (h : hexc c = true) : (48 ≤ (c.toNat : Int) ∧ (c.toNat : Int) ≤ 57) ∨ (97 ≤ (c.toNat : Int) ∧ (c.toNat : Int) ≤ 102) := by
  simp [hexc] at h; omega
theorem hexc_no {c : UInt8} (h : hexc c = false) : (c.toNat : Int) < 48 ∨ (57 < (c.toNat : Int) ∧ (c.toNat : Int) < 97) ∨ 102 < (c.toNat : Int) := by
  simp [hexc] at h; omega
/-- What spec.IsName40 tells. -/
def name40 (s : ByteArray) : Bool := decide (s.size = 40 ∧ ∀ (k : Nat) (h : k < s.size), hexc (s[k]'h) = true)
theorem name40_bytes {s : ByteArray} (h : name40 s = true) : s.size = 40 ∧ ∀ c ∈ s.data.toList, hexc c = true := by
  simp only [name40, decide_eq_true_eq] at h
  refine ⟨h.1, fun c hc => ?_⟩
  obtain ⟨i, hi, rfl⟩ := List.getElem_of_mem hc
  exact h.2 i hi
theorem hexc_v (c : UInt8) (h : hexc c = true) : Hx.v c ≤ 15 ∧ Hx.digit (Hx.v c) = c := by
  have key : ∀ n : Fin 256, hexc (UInt8.ofNat n.val) = true → Hx.v (UInt8.ofNat n.val) ≤ 15 ∧ Hx.digit (Hx.v (UInt8.ofNat n.val)) = UInt8.ofNat n.val := by decide +kernel
  have := key ⟨c.toNat, c.toNat_lt⟩
  simp only [UInt8.ofNat_toNat] at this
  exact this h
/-- Digits are read and told as they were. -/
theorem decode_encode : ∀ (n : Nat) (l : List UInt8), l.length = 2 * n → (∀ c ∈ l, hexc c = true) → ∃ D, Hx.decode l = (D, .ok) ∧ D.length = n ∧ Hx.encode D = l
  | 0, l, hl, _ => by
    obtain rfl : l = [] := List.eq_nil_of_length_eq_zero (by omega)
    exact ⟨[], Hx.decode_nil, rfl, rfl⟩
  | n + 1, l, hl, hc => by
    match l, hl, hc with
    | p :: q :: t, hl, hc =>
      obtain ⟨D, h1, h2, h3⟩ := decode_encode n t (by simp at hl; omega) (fun c h => hc c (by simp [h]))
      obtain ⟨hp, hp'⟩ := hexc_v p (hc p (by simp))
      obtain ⟨hq, hq'⟩ := hexc_v q (hc q (by simp))
      refine ⟨UInt8.ofNat (Hx.v p * 16 + Hx.v q) :: D, ?_, by simp [h2], ?_⟩
      · rw [Hx.decode_two, if_neg (by omega), if_neg (by omega), h1]
      · have e : (UInt8.ofNat (Hx.v p * 16 + Hx.v q)).toNat = Hx.v p * 16 + Hx.v q := by
          rw [UInt8.toNat_ofNat']; omega
        show [Hx.digit ((UInt8.ofNat (Hx.v p * 16 + Hx.v q)).toNat / 16), Hx.digit ((UInt8.ofNat (Hx.v p * 16 + Hx.v q)).toNat % 16)] ++ Hx.encode D = _
        rw [e, h3, show (Hx.v p * 16 + Hx.v q) / 16 = Hx.v p by omega, show (Hx.v p * 16 + Hx.v q) % 16 = Hx.v q by omega, hp', hq']
        rfl
/-- A name of 40 digits: its 20 bytes. -/
theorem name40_decode {s : ByteArray} (h : name40 s = true) : ∃ D, Hx.decode s.data.toList = (D, .ok) ∧ D.length = 20 ∧ Hx.encode D = s.data.toList := by
  obtain ⟨h1, h2⟩ := name40_bytes h
  exact decode_encode 20 _ h1 h2
end Go.Proofs.YtdobblddnfalcaaGreatDoor.hash
