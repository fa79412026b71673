/- References: contracts for the laws of this seat. -/
import Derived.Test.YtoofbppfbbhliaaDoorHash
import Derived.Deep.MidRow
import Derived.Lib.SmallJoins
import Derived.Lib.IndexBytes
namespace Go.Proofs.YtoofbppfbbhliaaDoor.ref
open Go.RowKit Go.Proofs.YtoofbppfbbhliaaDoor.hash
set_option linter.unusedVariables false
set_option maxHeartbeats 1000000
set_option maxRecDepth 100000
theorem len20 (D : List UInt8) (h : D.length = 20) : ∃ x0 x1 x2 x3 x4 x5 x6 x7 x8 x9 x10 x11 x12 x13 x14 x15 x16 x17 x18 x19 : UInt8, D = [x0, x1, x2, x3, x4, x5, x6, x7, x8, x9, x10, x11, x12, x13, x14, x15, x16, x17, x18, x19] := by
  match D, h with
  | [x0, x1, x2, x3, x4, x5, x6, x7, x8, x9, x10, x11, x12, x13, x14, x15, x16, x17, x18, x19], _ => exact ⟨x0, x1, x2, x3, x4, x5, x6, x7, x8, x9, x10, x11, x12, x13, x14, x15, x16, x17, x18, x19, rfl⟩
/-- The cells of a Reference. -/
def refCells (t : Int) (n : ByteArray) (H : List Value) (target : ByteArray) : List Value := .int .i8 t :: .string n :: (H ++ [.string target])
theorem built_sym (n t : ByteArray) : Tryd.prog.built 145 [(0, .int .i8 2), (1, .string n), (3, .string t)] = some (refCells 2 n zeros20 t).toArray := by kernel_rfl
theorem newSym (n t : ByteArray) (w : World) :
    Calls Tryd.prog 83 #[.string n, .string t] w fun e w' => e = .returned (.pointer (some ⟨w.heap.size, 0, none⟩)) ∧ w.alloc (.cells (refCells 2 n zeros20 t).toArray 145) = w' := by
  have e : (refCells 2 n zeros20 t).toArray = #[.int .i8 2, .string n, .int .u8 0, .int .u8 0, .int .u8 0, .int .u8 0, .int .u8 0, .int .u8 0, .int .u8 0, .int .u8 0, .int .u8 0, .int .u8 0, .int .u8 0, .int .u8 0, .int .u8 0, .int .u8 0, .int .u8 0, .int .u8 0, .int .u8 0, .int .u8 0, .int .u8 0, .int .u8 0, .string t] := by simp [refCells, zeros20]
  have hb := built_sym n t
  rw [e] at hb ⊢
  clear e
  go_enter Tryd.func83, Tryd.ntmps83
  go_wp2
  go_ret
  refine ⟨rfl, ?_⟩
  simp
theorem wpList_build_eq {P : Program} {ops : Array Oper} {rest : List Oper} {o : Oper} {a : Act} {w : World} {Q : Exit → Act → World → Prop} (hg : o.guard = none) (t : TypeId) (parts : Array (Nat × Operand)) (ho : o.op = .build t parts) (cs : Array Value)
    (hf : P.built t (parts.map fun (i, x) => (i, a.eval x)).toList = some cs) (h : wpList P ops Q rest (a.put o.dst (.agg cs)) w) : wpList P ops Q (o :: rest) a w :=
  wpList_build hg t parts ho (by rw [hf]; rfl) (by rw [hf]; exact h)
theorem built_hash (n : ByteArray) (D : List UInt8) (hl : D.length = 20) : Tryd.prog.built 145 [(0, .int .i8 1), (1, .string n), (2, .agg (cells D).toArray)] = some (refCells 1 n (cells D) ⟨#[]⟩).toArray := by
  obtain ⟨x0, x1, x2, x3, x4, x5, x6, x7, x8, x9, x10, x11, x12, x13, x14, x15, x16, x17, x18, x19, rfl⟩ := len20 D hl
  kernel_rfl
theorem newHashRef (n : ByteArray) (D : List UInt8) (hl : D.length = 20) (w : World) :
    Calls Tryd.prog 84 #[.string n, .agg (cells D).toArray] w fun e w' => e = .returned (.pointer (some ⟨w.heap.size + 1, 0, none⟩)) ∧ (w.alloc (.cells (cells D).toArray 86)).alloc (.cells (refCells 1 n (cells D) ⟨#[]⟩).toArray 145) = w' := by
  have HL := Lib.hid hl
  clear hl
  go_enter Tryd.func84, Tryd.ntmps84
  go_wp2_with (first | ((with_reducible show wpList _ _ _ (⟨some 6, _, _, _, _, _⟩ :: _) _ _); refine wpList_load_row rfl 86 (.tmp 3) rfl w.heap.size rfl 86 (cells D).toArray (0, 0) _ (heap_alloc_new w _) Tryd.underlying86 rfl (info20 HL.out) ?_) | ((with_reducible show wpList _ _ _ (⟨some 7, _, _, _, _, _⟩ :: _) _ _); refine wpList_build_eq rfl 145 _ rfl (refCells 1 n (cells D) ⟨#[]⟩).toArray ?hf ?_))
  case hf => exact built_hash n D HL.out
  go_ret
  exact ⟨rfl, rfl⟩
theorem info86 {H : List Value} (hl : H.length = 20) : (Tryd.prog.info? 86).map (·.size) = some H.length := by
  rw [hl]; kernel_rfl
theorem hash_of (n t : ByteArray) (k : Int) (H : List Value) (hl : H.length = 20) (h1 : ∀ v ∈ H, v.oneCell' = true) (b : Nat) (w : World) (h : w.heap[b]? = some (.cells (refCells k n H t).toArray 145)) :
    Calls Tryd.prog 56 #[.pointer (some ⟨b, 0, none⟩)] w fun e w' => e = .returned (.agg H.toArray) ∧ Below w.heap.size w w' := by
  have hR : w.rangeAt b 2 H := by
    intro j v hv
    rw [cell_of_row w b (2 + j) _ _ _ h]
    have hj : j < H.length := (List.getElem?_eq_some_iff.1 hv).1
    simp [refCells, Nat.add_comm 2 j, List.getElem?_append_left hj, hv]
  have HR := Lib.hid hR
  have hb : b < w.heap.size := (Array.getElem?_eq_some_iff.1 h).1
  clear h hR
  go_enter Tryd.func56, Tryd.ntmps56
  go_wp2_with (first | ((with_reducible show wpList _ _ _ (⟨some 6, _, _, _, _, _⟩ :: _) _ _); refine wpList_load_mid rfl 86 (.tmp 5) rfl b 2 rfl H _ (fun j v hv => (((Below.refl w.heap.size w).alloc (Nat.le_refl _) _).cell (p := ⟨b, 2 + j, none⟩) hb).trans (HR.out j v hv)) Tryd.underlying86 rfl (info86 hl) ?_) | ((with_reducible show wpList _ _ _ (⟨none, .store _ _ _, _, _, _, _⟩ :: _) _ _); refine wpList_store_row rfl 86 (.tmp 2) (.tmp 6) rfl w.heap.size H.toArray rfl rfl 86 zeros20.toArray (heap_alloc_new w _) (by simpa using info86 hl) (by simp [zeros20, hl]) (by simpa using h1) ?_))
  refine bodyPost_ret (results_cell_row rfl _ _ w.heap.size 86 H.toArray (0, 0) _ rfl (setRow_heap _ w.heap.size _ _ _ _ (heap_alloc_new w _)) Tryd.underlying86 rfl (by simpa using info86 hl)) rfl ⟨rfl, below_setRow ((Below.refl _ _).alloc (Nat.le_refl _) _) (Nat.le_refl _) _⟩
theorem type_of {b : Nat} {x : Int} (w : World) (h : w.cell? ⟨b, 0, none⟩ = some (.int .i8 x)) : Calls Tryd.prog 55 #[.pointer (some ⟨b, 0, none⟩)] w fun e w' => e = .returned (.int .i8 x) ∧ w = w' := by
  go_enter Tryd.func55, Tryd.ntmps55
  go_wp2
  go_ret
  exact ⟨rfl, rfl⟩
theorem name_of {b : Nat} {x : ByteArray} (w : World) (h : w.cell? ⟨b, 1, none⟩ = some (.string x)) : Calls Tryd.prog 85 #[.pointer (some ⟨b, 0, none⟩)] w fun e w' => e = .returned (.string x) ∧ w = w' := by
  go_enter Tryd.func85, Tryd.ntmps85
  go_wp2
  go_ret
  exact ⟨rfl, rfl⟩
theorem target_of {b : Nat} {x : ByteArray} (w : World) (h : w.cell? ⟨b, 22, none⟩ = some (.string x)) : Calls Tryd.prog 57 #[.pointer (some ⟨b, 0, none⟩)] w fun e w' => e = .returned (.string x) ∧ w = w' := by
  go_enter Tryd.func57, Tryd.ntmps57
  go_wp2
  go_ret
  exact ⟨rfl, rfl⟩
theorem refstr (s : ByteArray) (w : World) : Calls Tryd.prog 86 #[.string s] w fun e w' => e = .returned (.string s) ∧ w = w' := by
  go_enter Tryd.func86, Tryd.ntmps86
  go_wp2
  go_ret
  exact ⟨rfl, rfl⟩
theorem strings_sym (n t : ByteArray) (b : Nat) (w : World) (ht : t.size ≤ 3000) (h : w.heap[b]? = some (.cells (refCells 2 n zeros20 t).toArray 145)) :
    Calls Tryd.prog 58 #[.pointer (some ⟨b, 0, none⟩)] w fun e w' => e = .returned (.agg #[.string n, .string (⟨#[114, 101, 102, 58, 32]⟩ ++ t)]) ∧ Below w.heap.size w w' := by
  have h0 : w.cell? ⟨b, 0, none⟩ = some (.int .i8 2) := by rw [cell_of_row w b 0 _ _ _ h]; rfl
  have h1 : w.cell? ⟨b, 1, none⟩ = some (.string n) := by rw [cell_of_row w b 1 _ _ _ h]; rfl
  have h2 : w.cell? ⟨b, 22, none⟩ = some (.string t) := by rw [cell_of_row w b 22 _ _ _ h]; rfl
  have hb : b < w.heap.size := (Array.getElem?_eq_some_iff.1 h).1
  clear h
  go_enter Tryd.func58, Tryd.ntmps58
  go_wp2
  exact bodyPost_ret (v := .agg #[.string n, .string (⟨#[114, 101, 102, 58, 32]⟩ ++ t)]) (by simp [results, Tryd.results58, go_sem]) rfl ⟨rfl, ((Below.refl _ _).alloc (Nat.le_refl _) _).alloc (by simp) _⟩
theorem strings_hash (n s : ByteArray) (D : List UInt8) (hl : D.length = 20) (he : (⟨(Lib.Hx.encode D).toArray⟩ : ByteArray) = s) (b : Nat) (w : World) (h : w.heap[b]? = some (.cells (refCells 1 n (cells D) ⟨#[]⟩).toArray 145)) :
    Calls Tryd.prog 58 #[.pointer (some ⟨b, 0, none⟩)] w fun e w' => e = .returned (.agg #[.string n, .string s]) ∧ Below w.heap.size w w' := by
  have h0 : w.cell? ⟨b, 0, none⟩ = some (.int .i8 1) := by rw [cell_of_row w b 0 _ _ _ h]; rfl
  have h1 : w.cell? ⟨b, 1, none⟩ = some (.string n) := by rw [cell_of_row w b 1 _ _ _ h]; rfl
  have hb : b < w.heap.size := (Array.getElem?_eq_some_iff.1 h).1
  have HH : ∀ w1, Below w.heap.size w w1 → Calls Tryd.prog 56 #[.pointer (some ⟨b, 0, none⟩)] w1 fun e w' => e = .returned (.agg (cells D).toArray) ∧ Below w1.heap.size w1 w' :=
    fun w1 hbel => hash_of n ⟨#[]⟩ 1 (cells D) (by simp [cells, hl]) (cells_one D) b w1 ((hbel.block b hb).trans h)
  have HS : ∀ w, Calls Tryd.prog 48 #[.agg (cells D).toArray] w fun e w' => e = .returned (.string s) ∧ Below w.heap.size w w' := fun w => by rw [← he]; exact hashString D w hl
  have HH' := Lib.hid HH
  have HS' := Lib.hid HS
  clear HH HS h he hl
  go_enter Tryd.func58, Tryd.ntmps58
  go_wp2_with (first | (go_at_call 85; refine (name_of _ (x := n) (by go_simp)).mono ?_; rintro e w' ⟨rfl, rfl⟩) | (go_at_call 55; refine (type_of _ (x := 1) (by go_simp)).mono ?_; rintro e w' ⟨rfl, rfl⟩) | (go_at_call 86; refine (refstr _ _).mono ?_; rintro e w' ⟨rfl, rfl⟩))
  refine (HH'.out _ (((Below.refl _ _).alloc (Nat.le_refl _) _).alloc (by simp) _)).mono ?_
  rintro e w1 ⟨rfl, b1⟩
  go_wp2_with fail
  refine (HS'.out _).mono ?_
  rintro e w2 ⟨rfl, b2⟩
  have b12 := b1.trans (b2.mono b1.size)
  have hA := b12.block w.heap.size (by simp; omega)
  have hB := b12.block (w.heap.size + 1) (by simp)
  have hz := b12.size
  rw [Below.heap_alloc _ _ _ (by simp), heap_alloc_new] at hA
  rw [show w.heap.size + 1 = (w.alloc (.cells #[.string ⟨#[]⟩, .string ⟨#[]⟩] 40)).heap.size by simp, heap_alloc_new] at hB
  simp at hB hz
  have hbel : Below w.heap.size w w2 := (((Below.refl _ _).alloc (Nat.le_refl _) _).alloc (by simp) _).trans (b12.mono (by simp; omega))
  have HBel := Lib.hid hbel
  have a0 : w2.cell? ⟨w.heap.size, 0, none⟩ = some (.string ⟨#[]⟩) := by rw [cell_of_row w2 w.heap.size 0 _ _ _ hA]; rfl
  have a1 : w2.cell? ⟨w.heap.size, 1, none⟩ = some (.string ⟨#[]⟩) := by rw [cell_of_row w2 w.heap.size 1 _ _ _ hA]; rfl
  have c0 : w2.cell? ⟨w.heap.size + 1, 0, none⟩ = some (.string n) := by rw [cell_of_row w2 (w.heap.size + 1) 0 _ _ _ hB]; rfl
  have c1 : w2.cell? ⟨w.heap.size + 1, 1, none⟩ = some (.string ⟨#[]⟩) := by rw [cell_of_row w2 (w.heap.size + 1) 1 _ _ _ hB]; rfl
  have f0 : ∀ o, w2.frozen? ⟨w.heap.size, o, none⟩ = false := fun o => by simp [World.frozen?, hA]
  have f1 : ∀ o, w2.frozen? ⟨w.heap.size + 1, o, none⟩ = false := fun o => by simp [World.frozen?, hB]
  clear b1 b2 b12 hA hB hbel h0 h1
  go_wp2_with fail
  exact bodyPost_ret (v := .agg #[.string n, .string s]) (by simp [results, Tryd.results58, go_sem, a0, a1]) rfl ⟨rfl, ((HBel.out.setCell (by simp) _).setCell (Nat.le_refl _) _).setCell (Nat.le_refl _) _⟩
theorem hasPre (s p : ByteArray) (b : Bool) (h : Lib.hasPrefix s.data.toList p.data.toList = b) (w : World) : Calls Tryd.prog 82 #[.string s, .string p] w fun e w' => e = .returned (.bool b) ∧ w = w' :=
  (Tryd.strings_HasPrefix s p w).mono fun e w' ⟨h1, h2⟩ => ⟨by rw [h1, h], h2.symm⟩
/-- A symbolic reference is made. -/
theorem new_sym (n t x : ByteArray) (w : World) (hs : x.size ≤ 3000) (hx : x.data.toList = [114, 101, 102, 58, 32] ++ t.data.toList) :
    Calls Tryd.prog 54 #[.string n, .string x] w fun e w' => e = .returned (.pointer (some ⟨w.heap.size, 0, none⟩)) ∧ w.alloc (.cells (refCells 2 n zeros20 t).toArray 145) = w' := by
  have hp : Lib.hasPrefix x.data.toList [114, 101, 102, 58, 32] = true := by rw [hx]; simp [Lib.hasPrefix]
  have hsz : x.size = 5 + t.size := by have := congrArg List.length hx; simp at this; omega
  have he : x.extract 5 x.size = t := Go.WideShapes.bytes_inj (by rw [Lib.extract_to_end, hx]; rfl)
  have HX := Lib.hid hx
  have h5 : (5 : Int) ≤ x.size := by omega
  clear hx hsz
  go_enter Tryd.func54, Tryd.ntmps54
  go_wp2_with (first | (go_at_call 82; refine (hasPre _ _ true hp _).mono ?_; rintro e w' ⟨rfl, rfl⟩) | (go_at_call 83; refine (newSym _ _ _).mono ?_; rintro e w' ⟨rfl, rfl⟩))
  go_ret
  exact ⟨rfl, rfl⟩
/-- A reference to an object is made. -/
theorem new_hash (n s : ByteArray) (D : List UInt8) (w : World) (ev : Value) (hE : w.cell? ⟨4, 0, none⟩ = some ev) (hs : s.size ≤ 100) (hp : Lib.hasPrefix s.data.toList [114, 101, 102, 58, 32] = false) (hD : Lib.Hx.decode s.data.toList = (D, .ok)) (hl : D.length = 20) :
    Calls Tryd.prog 54 #[.string n, .string s] w fun e w' => ∃ b, e = .returned (.pointer (some ⟨b, 0, none⟩)) ∧ w'.heap[b]? = some (.cells (refCells 1 n (cells D) ⟨#[]⟩).toArray 145) ∧ w.heap.size ≤ b ∧ Below w.heap.size w w' := by
  have HN := Lib.hid (newHash s D .ok w ev hE hs hD hl)
  have HL := Lib.hid hl
  clear hD hl hE
  go_enter Tryd.func54, Tryd.ntmps54
  go_wp2_with (first | (go_at_call 82; refine (hasPre _ _ false hp _).mono ?_; rintro e w' ⟨rfl, rfl⟩) | (go_at_call 47; refine HN.out.mono ?_; rintro e w1 ⟨rfl, b1⟩) | (go_at_call 84; refine (newHashRef _ _ HL.out _).mono ?_; rintro e w' ⟨rfl, rfl⟩))
  go_ret
  refine ⟨w1.heap.size + 1, rfl, ?_, by have := b1.size; omega, (b1.alloc b1.size _).alloc (by have := b1.size; simp; omega) _⟩
  have := heap_alloc_new (w1.alloc (.cells (cells D).toArray 86)) (.cells (refCells 1 n (cells D) ⟨#[]⟩).toArray 145)
  simpa using this
/-- What impl.Reference answers, where it is known what the reference is. -/
structure Told (k : Int) (d t : ByteArray) (n y : ByteArray) (w : World) (e : Ending) (w' : World) : Prop where
  ret : e = .returned (.tuple #[.int .i64 k, .string d, .string t, .agg #[.string n, .string y]])
  bel : Below w.heap.size w w'
theorem ref_any (n t x y : ByteArray) (k : Int) (D : List UInt8) (hl : D.length = 20) (w : World) (hk : 0 ≤ k) (hk2 : k ≤ 2)
    (hnew : ∀ w0, Below w.heap.size w w0 → Calls Tryd.prog 54 #[.string n, .string x] w0 fun e w' => ∃ b, e = .returned (.pointer (some ⟨b, 0, none⟩)) ∧ w'.heap[b]? = some (.cells (refCells k n (cells D) t).toArray 145) ∧ w0.heap.size ≤ b ∧ Below w0.heap.size w0 w')
    (hstr : ∀ b w0, w0.heap[b]? = some (.cells (refCells k n (cells D) t).toArray 145) → Calls Tryd.prog 58 #[.pointer (some ⟨b, 0, none⟩)] w0 fun e w' => e = .returned (.agg #[.string n, .string y]) ∧ Below w0.heap.size w0 w') :
    Calls Tryd.prog 25 #[.string n, .string x] w (Told k ⟨(Lib.Hx.encode D).toArray⟩ t n y w) := by
  obtain ⟨d, hd⟩ : ∃ d : ByteArray, (⟨(Lib.Hx.encode D).toArray⟩ : ByteArray) = d := ⟨_, rfl⟩
  rw [hd]
  have HS : ∀ w, Calls Tryd.prog 48 #[.agg (cells D).toArray] w fun e w' => e = .returned (.string d) ∧ Below w.heap.size w w' := fun w => by rw [← hd]; exact hashString D w hl
  have HS' := Lib.hid HS
  have HN := Lib.hid hnew
  have HY := Lib.hid hstr
  have HL : Hid ((cells D).length = 20) := Lib.hid (by simp [cells, hl])
  clear hnew hstr hd HS hl
  go_enter Tryd.func25, Tryd.ntmps25
  go_wp2_with fail
  refine (HN.out _ ((Below.refl _ _).alloc (Nat.le_refl _) _)).mono ?_
  rintro e w1 ⟨b, rfl, hb, hge, b1⟩
  have c0 : w1.cell? ⟨b, 0, none⟩ = some (.int .i8 k) := by rw [cell_of_row w1 b 0 _ _ _ hb]; rfl
  have hblt : b < w1.heap.size := (Array.getElem?_eq_some_iff.1 hb).1
  go_wp2_with fail
  refine (type_of _ c0).mono ?_
  rintro e w' ⟨rfl, rfl⟩
  go_wp2_with fail
  refine (hash_of n t k (cells D) HL.out (cells_one D) b _ hb).mono ?_
  rintro e w2 ⟨rfl, b2⟩
  go_wp2_with fail
  refine (HS'.out _).mono ?_
  rintro e w3 ⟨rfl, b3⟩
  have b13 := b2.trans (b3.mono b2.size)
  have hb3 := (b13.block b hblt).trans hb
  have c22 : w3.cell? ⟨b, 22, none⟩ = some (.string t) := by
    rw [cell_of_row w3 b 22 _ _ _ hb3]
    have := HL.out
    simp [refCells, this]
  go_wp2_with fail
  refine (target_of _ c22).mono ?_
  rintro e w' ⟨rfl, rfl⟩
  go_wp2_with fail
  refine (HY.out b _ hb3).mono ?_
  rintro e w4 ⟨rfl, b4⟩
  have b14 := b1.trans ((b13.trans (b4.mono b13.size)).mono b1.size)
  have hA := b14.block w.heap.size (by simp)
  rw [heap_alloc_new] at hA
  have hz := b14.size
  simp at hz
  have HBel := Lib.hid (((Below.refl w.heap.size w).alloc (Nat.le_refl _) _).trans (b14.mono (by simp)))
  have a0 : w4.cell? ⟨w.heap.size, 0, none⟩ = some (.string ⟨#[]⟩) := by rw [cell_of_row w4 w.heap.size 0 _ _ _ hA]; rfl
  have a1 : w4.cell? ⟨w.heap.size, 1, none⟩ = some (.string ⟨#[]⟩) := by rw [cell_of_row w4 w.heap.size 1 _ _ _ hA]; rfl
  have f0 : ∀ o, w4.frozen? ⟨w.heap.size, o, none⟩ = false := fun o => by simp [World.frozen?, hA]
  clear b1 b2 b3 b4 b13 b14 hA hb hb3 c0 c22 hge hblt
  go_wp2_with fail
  exact bodyPost_ret (v := .tuple #[.int .i64 k, .string d, .string t, .agg #[.string n, .string y]]) (by simp [results, Tryd.results25, go_sem, a0, a1]) rfl ⟨rfl, (HBel.out.setCell (Nat.le_refl _) _).setCell (Nat.le_refl _) _⟩
theorem ref_sym (n t x : ByteArray) (w : World) (hs : x.size ≤ 3000) (ht : t.size ≤ 2000) (hx : x.data.toList = [114, 101, 102, 58, 32] ++ t.data.toList) :
    ∃ d, Calls Tryd.prog 25 #[.string n, .string x] w (Told 2 d t n x w) := by
  have hz : cells (List.replicate 20 0) = zeros20 := by simp [cells, zeros20]
  have hy : (⟨#[114, 101, 102, 58, 32]⟩ ++ t : ByteArray) = x := Go.WideShapes.bytes_inj (by rw [Joins.data_append, hx])
  refine ⟨_, ref_any n t x x 2 (List.replicate 20 0) (by simp) w (by omega) (by omega) (fun w0 _ => ?_) (fun b w0 h => ?_)⟩
  · refine (new_sym n t x w0 hs hx).mono ?_
    rintro e w' ⟨rfl, rfl⟩
    exact ⟨w0.heap.size, rfl, by rw [hz]; exact heap_alloc_new _ _, Nat.le_refl _, (Below.refl _ _).alloc (Nat.le_refl _) _⟩
  · rw [hz] at h
    have := strings_sym n t b w0 (by omega) h
    rw [hy] at this
    exact this
theorem ref_hash (n s : ByteArray) (w : World) (ev : Value) (hE : w.cell? ⟨4, 0, none⟩ = some ev) (h : name40 s = true) :
    Calls Tryd.prog 25 #[.string n, .string s] w (Told 1 s ⟨#[]⟩ n s w) := by
  obtain ⟨D, h1, h2, h3⟩ := name40_decode h
  obtain ⟨h40, hb⟩ := name40_bytes h
  have he : (⟨(Lib.Hx.encode D).toArray⟩ : ByteArray) = s := Go.WideShapes.bytes_inj (by rw [h3])
  have hp : Lib.hasPrefix s.data.toList [114, 101, 102, 58, 32] = false := by
    cases hq : Lib.hasPrefix s.data.toList [114, 101, 102, 58, 32] with
    | false => rfl
    | true =>
      exfalso
      have hl : s.data.toList.length = 40 := h40
      match hd : s.data.toList, hl with
      | c :: r, _ =>
        rw [hd] at hq
        have : 114 = c ∧ [101, 102, 58, 32] <+: r := by simpa [Lib.hasPrefix] using hq
        have this := this.1
        have hc := hb c (by rw [hd]; simp)
        subst this
        revert hc
        decide
  have := ref_any n ⟨#[]⟩ s s 1 D h2 w (by omega) (by omega) (fun w0 hb0 => new_hash n s D w0 ev ((hb0.cell (World.block_lt_of_cell? _ _ hE)).trans hE) (by omega) hp h1 h2) (fun b w0 hh => strings_hash n s D h2 he b w0 hh)
  rw [he] at this
  exact this
end Go.Proofs.YtoofbppfbbhliaaDoor.ref
